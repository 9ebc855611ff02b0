/-
  THE WALK over (*Pattern).reach (12), which calls itself.
-/
import Derived.Test.Qxb6623461aWalks
namespace Go.Proofs.Qxb6623461a
open Go.RowKit Plain

/-- The pattern at block pb: its steps lie at block sb, n of them; step i's op and its target. -/
structure PatAt (w : World) (pb sb n : Nat) (ops tos : Nat → Int) : Prop where
  steps : w.cell? ⟨pb, 5, none⟩ = some (.slice (some ⟨sb, 0, none⟩) n n)
  op : ∀ i, i < n → w.cell? ⟨sb, i * 7, none⟩ = some (.int .u8 (ops i))
  to : ∀ i, i < n → w.cell? ⟨sb, i * 7 + 2, none⟩ = some (.int .i64 (tos i))

theorem grownBy_trans {a b c : World} {r : Option Nat} (h : a.grownBy b r) (k : b.grownBy c r) : a.grownBy c r :=
  ⟨k.os.trans h.os, k.tape.trans h.tape, k.output.trans h.output, Nat.le_trans h.size k.size, fun i hi hn => (k.block i (Nat.lt_of_lt_of_le hi h.size) hn).trans (h.block i hi hn)⟩
theorem grownBy_refl (a : World) (r : Option Nat) : a.grownBy a r := ⟨rfl, rfl, rfl, Nat.le_refl _, fun _ _ _ => rfl⟩
theorem grownBy_setCell (a : World) (b o : Nat) (v : Value) : a.grownBy (a.setCell ⟨b, o, none⟩ v) (some b) :=
  ⟨rfl, rfl, rfl, by rw [size_setCell]; exact Nat.le_refl _, fun k _ hn => Below.heap_setCell _ _ _ _ (fun e => hn (by rw [e]))⟩

theorem PatAt.kept {w w' : World} {pb sb n rb : Nat} {ops tos : Nat → Int} (h : PatAt w pb sb n ops tos) (hg : w.grownBy w' (some rb)) (h1 : pb ≠ rb) (h2 : sb ≠ rb) : PatAt w' pb sb n ops tos :=
  ⟨hg.cell h.steps (by simpa using h1), fun i hi => hg.cell (h.op i hi) (by simpa using h2), fun i hi => hg.cell (h.to i hi) (by simpa using h2)⟩

theorem row_put {w : World} {rb L s : Nat} {M : Nat → Bool} (hr : w.rowIs rb 4 L (fun i => .bool (M i))) : (w.setCell ⟨rb, s, none⟩ (.bool true)).rowIs rb 4 L (fun i => .bool (put M s i)) :=
  (hr.set s (.bool true)).congr fun j _ => by unfold put; split <;> rfl

theorem results12 : Try.f12.results = #[] := by kernel_rfl

/-- What reach leaves. -/
def Left12 (rb n L : Nat) (ops tos : Nat → Int) (M : Nat → Bool) (s : Nat) (w : World) (e : Ending) (w' : World) : Prop :=
  e = .returned (.tuple #[]) ∧ ∃ M', Reached (Mv ops tos n) M s M' ∧ w'.rowIs rb 4 L (fun i => .bool (M' i)) ∧ w.grownBy w' (some rb)

theorem reach_hit (pb rb n L cap : Nat) (ops tos : Nat → Int) (M : Nat → Bool) (s : Nat) (w : World) (hsL : s < L) (hr : w.rowIs rb 4 L (fun i => .bool (M i))) (hm : M s = true) :
    Calls Try.prog 12 #[.pointer (some ⟨pb, 0, none⟩), .slice (some ⟨rb, 0, none⟩) L cap, .int .i64 s] w (Left12 rb n L ops tos M s w) := by
  have hc := hr.cell hsL
  rw [hm] at hc
  go_enter Try.func12, Try.ntmps12
  go_wp2_with fail
  exact bodyPost_ret (results_none results12 _ _ _) rfl ⟨rfl, M, reached_hit hm, hr, grownBy_refl _ _⟩

set_option maxHeartbeats 400000 in
theorem reach_any (pb sb rb n L cap : Nat) (ops tos : Nat → Int) (hn : n < L) (hL : L ≤ 65536) (h1 : pb ≠ rb) (h2 : sb ≠ rb) (hto : ∀ i, i < n → ops i = 6 → 0 ≤ tos i ∧ tos i ≤ n) (g : Nat) :
    ∀ (M : Nat → Bool) (s : Nat) (w : World), L - cnt M L ≤ g → s ≤ n → PatAt w pb sb n ops tos → w.rowIs rb 4 L (fun i => .bool (M i)) →
    Calls Try.prog 12 #[.pointer (some ⟨pb, 0, none⟩), .slice (some ⟨rb, 0, none⟩) L cap, .int .i64 s] w (Left12 rb n L ops tos M s w) := by
  induction g with
  | zero =>
    intro M s w hg hs hp hr
    refine reach_hit pb rb n L cap ops tos M s w (by omega) hr ?_
    cases hm : M s with
    | true => rfl
    | false => have := cnt_lt (M := M) (L := L) (x := s) (by omega) hm; omega
  | succ g ih =>
    intro M s w hg hs hp hr
    have hsL : s < L := by omega
    cases hm : M s with
    | true => exact reach_hit pb rb n L cap ops tos M s w hsL hr hm
    | false =>
      have hc := hr.cell hsL
      have hf := hr.frozen s
      rw [hm] at hc
      have hG := grownBy_setCell w rb s (.bool true)
      have hP := hp.kept hG h1 h2
      have hR := row_put (s := s) hr
      have hcnt : L - cnt (put M s) L ≤ g := by rw [cnt_put hsL hm]; omega
      have hst' := hP.steps
      by_cases hsn : s = n
      · have hsn' : ((s : Int) == (n : Int)) = true := by simp [hsn]
        have fin : Reached (Mv ops tos n) M s (put M s) := reached_stop hm (fun v h => by have := h.1; omega)
        clear hsn ih
        go_enter Try.func12, Try.ntmps12
        go_wp2_with fail
        exact bodyPost_ret (results_none results12 _ _ _) rfl ⟨rfl, put M s, fin, hR, hG⟩
      · have hlt : s < n := by omega
        have hsn' : ((s : Int) == (n : Int)) = false := by simp; omega
        have hop' := hP.op s hlt
        have hto' := hP.to s hlt
        have ih1 := ih (put M s) (s + 1) _ hcnt (by omega) hP hR
        rw [show ((s + 1 : Nat) : Int) = (s : Int) + 1 from by omega] at ih1
        by_cases h6 : ops s = 6
        · have e4 : (ops s == 4) = false := by simp [h6]
          have e5 : (ops s == 5) = false := by simp [h6]
          have e6 : (ops s == 6) = true := by simp [h6]
          have fin : ∀ M1 M2, Reached (Mv ops tos n) (put M s) (s + 1) M1 → Reached (Mv ops tos n) M1 (tos s).toNat M2 → Reached (Mv ops tos n) M s M2 := fun M1 M2 r1 r2 =>
            reached_two hm (fun v => by unfold Mv; omega) r1 r2
          obtain ⟨t0, t1⟩ := hto s hlt h6
          obtain ⟨t, ht⟩ : ∃ t : Nat, tos s = t := ⟨(tos s).toNat, by omega⟩
          rw [ht] at hto' fin t1
          have ih2 := ih
          clear ih hto t0 ht hsn h6
          go_enter Try.func12, Try.ntmps12
          go_wp2_with fail
          refine ih1.mono ?_
          rintro e w1 ⟨rfl, M1, r1, row1, g1⟩
          have hP1 := hP.kept g1 h1 h2
          have hst1 := hP1.steps
          have hto1 : w1.cell? ⟨sb, s * 7 + 2, none⟩ = some (.int .i64 t) := g1.cell hto' (by simpa using h2)
          have ih3 := ih2 M1 t w1 (by have := cnt_mono (L := L) r1.old; omega) (by omega) hP1 row1
          clear ih1 ih2
          go_wp2_with fail
          refine ih3.mono ?_
          rintro e w2 ⟨rfl, M2, r2, row2, g2⟩
          go_wp2_with fail
          go_end0
          exact ⟨rfl, M2, fin M1 M2 r1 (by simpa using r2), row2, grownBy_trans (grownBy_trans hG g1) g2⟩
        · have e6 : (ops s == 6) = false := by simp [h6]
          by_cases h45 : ops s = 4 ∨ ops s = 5
          · have fin : ∀ M1, Reached (Mv ops tos n) (put M s) (s + 1) M1 → Reached (Mv ops tos n) M s M1 := fun M1 r1 => reached_one hm (fun v => by unfold Mv; omega) r1
            clear ih hto hsn
            by_cases h4 : ops s = 4
            · have e4 : (ops s == 4) = true := by simp [h4]
              clear h45 h6 h4
              go_enter Try.func12, Try.ntmps12
              go_wp2_with fail
              refine ih1.mono ?_
              rintro e w1 ⟨rfl, M1, r1, row1, g1⟩
              go_wp2_with fail
              go_end0
              exact ⟨rfl, M1, fin M1 r1, row1, grownBy_trans hG g1⟩
            · have e4 : (ops s == 4) = false := by simp [h4]
              have e5 : (ops s == 5) = true := by simp; omega
              clear h45 h6 h4
              go_enter Try.func12, Try.ntmps12
              go_wp2_with fail
              refine ih1.mono ?_
              rintro e w1 ⟨rfl, M1, r1, row1, g1⟩
              go_wp2_with fail
              go_end0
              exact ⟨rfl, M1, fin M1 r1, row1, grownBy_trans hG g1⟩
          · have fin : Reached (Mv ops tos n) M s (put M s) := reached_stop hm (fun v => by unfold Mv; omega)
            have e4 : (ops s == 4) = false := by simp; omega
            have e5 : (ops s == 5) = false := by simp; omega
            clear ih ih1 h45 h6 hto hsn
            go_enter Try.func12, Try.ntmps12
            go_wp2_with fail
            go_end0
            exact ⟨rfl, put M s, fin, hR, hG⟩
end Go.Proofs.Qxb6623461a
