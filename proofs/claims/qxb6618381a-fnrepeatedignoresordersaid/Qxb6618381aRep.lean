/-
  repeated (14), ZZrepeated (10).
-/
import Derived.Test.Qxb6618381aSort
namespace Go.Proofs.Qxb6618381a
open Go.RowKit Plain Go.Sort

theorem LR.drew {w : World} {n m : Nat} {v : Value} {V : Nat → Value} (h : LR w v n V) : LR (w.drewN m) v n V := by
  obtain ⟨a, c, b, o, hv, ha, hc⟩ := h
  exact ⟨a, c, b, o, hv, ha, fun j hj => by rw [← hc j hj]; simp⟩

theorem SortedW.drew {w w' : World} {rb lo hi n m : Nat} {v : Value} {cs : Nat → Bs} (h : SortedW w rb lo hi v n cs w') : SortedW w rb lo hi v n cs (w'.drewN m) := by
  obtain ⟨V', cs', h1, h2, h3, h4, h5⟩ := h
  exact ⟨V', cs', h1.drew, fun i hi => (h2 i hi).drew, h3, h4, h5.drew⟩

def RepP (w : World) (rb lo hi : Nat) (v : Value) (n : Nat) (cs : Nat → Bs) (e : Ending) (w' : World) : Prop :=
  ∃ r ok, e = .returned (.tuple #[r, .bool ok]) ∧ SortedW w rb lo hi v n cs w' ∧ (ok = true → ∃ x, Least (lof cs n) x ∧ BA w' lo hi r x) ∧ (ok = false → r = .slice none 0 0 ∧ ∀ y, ¬ Dup (lof cs n) y)

set_option maxHeartbeats 1000000 in
theorem repeated_any {w : World} {rb lo hi n : Nat} {v : Value} {V : Nat → Value} {cs : Nat → Bs} (hn : n ≤ 1048576) (hv : Ls w rb v n V) (hb : ∀ i, i < n → BA w lo hi (V i) (cs i)) (hhi : hi ≤ w.heap.size) (hrb : rb < lo) :
    Calls Try.prog 14 #[v] w (RepP w rb lo hi v n cs) := by
  have hS := sortFunc_any hn hv hb hhi hrb
  clear hv hb
  go_enter Try.func14, Try.ntmps14
  go_wp2_with fail
  refine hS.mono ?_
  rintro e w1 ⟨rfl, hW⟩
  have HW : Hid (SortedW w rb lo hi v n cs w1) := hW
  obtain ⟨V', cs', hL, hb, hp, hs, hk⟩ := hW
  obtain ⟨a, c, b, o, rfl, ha, hc⟩ := hL.lr
  clear hL
  have HP : Hid ((lof cs' n).Perm (lof cs n)) := hp
  have HS : Hid (Asc cs' n) := hs
  clear hp hs hk hS
  go_wp2
  go_loopw [4] (fun i wr => ∃ k m : Nat, 1 ≤ k ∧ (k ≤ n ∨ k = 1) ∧ i = .int .i64 k ∧ wr = w1.drewN m ∧ Hid (∀ j, j + 1 < k → cs' j ≠ cs' (j + 1))) (fun i _ => n + 1 - (intOf i).toNat)
  case atStart => exact ⟨1, 0, Nat.le_refl _, .inr rfl, by go_num, rfl, fun _ h => absurd h (by omega)⟩
  case round =>
    obtain ⟨k, m, hk1, hkn, rfl, hw, hpre⟩ := hrel
    have HWr : Hid (wr = w1.drewN m) := hw
    by_cases hlt : k < n
    · obtain rfl := ha (by omega)
      have hlt' : (k : Int) < (n : Int) := by omega
      have c1 : wr.cell? ⟨b, o + (k - 1), none⟩ = some (V' (k - 1)) := by rw [hw]; exact hc (k - 1) (by omega)
      have c2 : wr.cell? ⟨b, o + k, none⟩ = some (V' k) := by rw [hw]; exact hc k hlt
      have heq := fun q => equal_any (w := wr.drewN q) (by rw [hw]; exact (hb (k - 1) (by omega)).drew.drew) (by rw [hw]; exact (hb k hlt).drew.drew)
      have HB : Hid (BA w1 lo hi (V' k) (cs' k)) := hb k hlt
      have hsub : ((k : Int) - 1).toNat = k - 1 := by omega
      clear hc hb ha hw
      by_cases hd : cs' (k - 1) = cs' k
      · rw [decide_eq_true hd] at heq
        have HD : Hid (cs' (k - 1) = cs' k) := hd
        clear hd
        go_wp2
        go_quiet (first | (go_at_call 17; refine Calls.quiet_of_same (heq _)))
        go_wp2
        go_ret2
        refine ⟨_, true, rfl, ?_, fun _ => ⟨cs' k, ?_, ?_⟩, by simp⟩
        · rw [HWr.out]; exact HW.out.drew.drew
        · have := first_least (s := cs') (n := n) (i := k - 1) HS.out (by omega) (by rw [HD.out]; congr 1; omega) (fun j hj => hpre.out j (by omega))
          rw [show k - 1 + 1 = k by omega] at this
          exact this.perm HP.out
        · rw [HWr.out]; exact HB.out.drew.drew
      · rw [decide_eq_false hd] at heq
        have HD : Hid (¬ cs' (k - 1) = cs' k) := hd
        clear hd
        go_wp2
        go_quiet (first | (go_at_call 17; refine Calls.quiet_of_same (heq _)))
        go_wp2
        go_roundw
        case rel =>
          refine ⟨k + 1, m + nq, by omega, by omega, by go_num, by rw [HWr.out, World.drewN_drewN], fun j hj => ?_⟩
          rcases (by omega : j + 1 < k ∨ j + 1 = k) with h | h
          · exact hpre.out j h
          · have := HD.out
            rw [← h] at this
            simpa using this
        case measure => simp [intOf]; omega
    · clear hw
      go_wp2
      go_ret2
      refine ⟨_, false, rfl, ?_, by simp, fun _ => ⟨rfl, fun y hy => ?_⟩⟩
      · rw [HWr.out]; exact HW.out.drew
      · exact none_dup HS.out (fun j hj => hpre.out j (by omega)) y (hy.perm HP.out.symm)

set_option maxHeartbeats 1000000 in
theorem zzrepeated_any {w : World} {rb lo hi n : Nat} {v : Value} {V : Nat → Value} {cs : Nat → Bs} (hn : n ≤ 1048576) (hv : Ls w rb v n V) (hb : ∀ i, i < n → BA w lo hi (V i) (cs i)) (hhi : hi ≤ w.heap.size) (hrb : rb < lo) :
    Calls Try.prog 10 #[v] w (RepP w rb lo hi v n cs) := by
  have hS := repeated_any hn hv hb hhi hrb
  clear hv hb
  go_enter Try.func10, Try.ntmps10
  go_wp2_with fail
  refine hS.mono ?_
  rintro e w1 ⟨r, ok, rfl, h1, h2, h3⟩
  clear hS
  have H1 : Hid _ := h1
  have H2 : Hid _ := h2
  have H3 : Hid _ := h3
  clear h1 h2 h3
  go_wp2
  go_ret2
  exact ⟨r, ok, rfl, H1.out, H2.out, H3.out⟩
end Go.Proofs.Qxb6618381a
