/-
  Lists of byte slices; zzCloneBytes (13), zzCloneAll (6).
-/
import Derived.Test.Qxb6618381aBytes
namespace Go.Proofs.Qxb6618381a
open Go.RowKit Plain

theorem Try.info5' : (Try.prog.info? 5).map (fun i => (i.zero, i.size, i.bytes)) = some (some (.int .u8 0), 1, 1) := by kernel_rfl
theorem Try.info24' : (Try.prog.info? 24).map (fun i => (i.zero, i.size, i.bytes)) = some (some (.slice none 0 0), 1, 24) := by kernel_rfl

theorem size_setCell (w : World) (a : Addr) (v : Value) : (w.setCell a v).heap.size = w.heap.size := by simp [World.setCell]

theorem BA.slice {w : World} {lo hi : Nat} {v : Value} {bs : Bs} (h : BA w lo hi v bs) : ∃ a n c, v = .slice a n c := by
  obtain ⟨_, a, c, _, _, rfl, _, _⟩ := h
  exact ⟨a, _, c, rfl⟩

/-- A slice of slices that can be read: its elements' values. -/
def LR (w : World) (v : Value) (n : Nat) (V : Nat → Value) : Prop :=
  ∃ a c b o, v = .slice a n c ∧ (0 < n → a = some ⟨b, o, none⟩) ∧ ∀ j, j < n → w.cell? ⟨b, o + j, none⟩ = some (V j)

/-- An own row of slices. -/
def Ls (w : World) (rb : Nat) (v : Value) (n : Nat) (V : Nat → Value) : Prop :=
  ∃ a c, v = .slice a n c ∧ (0 < n → a = some ⟨rb, 0, none⟩ ∧ w.rowIs rb 24 n V)

theorem Ls.lr {w : World} {rb n : Nat} {v : Value} {V : Nat → Value} (h : Ls w rb v n V) : LR w v n V := by
  obtain ⟨a, c, hv, ha⟩ := h
  refine ⟨a, c, rb, 0, hv, fun h => (ha h).1, fun j hj => ?_⟩
  rw [Nat.zero_add]
  exact (ha (by omega)).2.cell hj

theorem LR.later {w w' : World} {n : Nat} {v : Value} {V : Nat → Value} (h : LR w v n V) (hb : Below w.heap.size w w') : LR w' v n V := by
  obtain ⟨a, c, b, o, hv, ha, hc⟩ := h
  exact ⟨a, c, b, o, hv, ha, fun j hj => cell_later hb (hc j hj)⟩

theorem Ls.keep {w w' : World} {rb n : Nat} {v : Value} {V : Nat → Value} (h : Ls w rb v n V) (hb : w'.heap[rb]? = w.heap[rb]?) : Ls w' rb v n V := by
  obtain ⟨a, c, hv, ha⟩ := h
  exact ⟨a, c, hv, fun h => ⟨(ha h).1, (ha h).2.of_block hb⟩⟩

def ClonedB (w : World) (bs : Bs) (e : Ending) (w' : World) : Prop := ∃ v, e = .returned v ∧ BA w' w.heap.size w'.heap.size v bs ∧ Below w.heap.size w w'

set_option maxHeartbeats 1000000 in
theorem clone_raw (a : Option Addr) (n c b o : Nat) (F : Nat → Int) (w : World) (hl : n ≤ 1048576) (ha : 0 < n → a = some ⟨b, o, none⟩)
    (hc : ∀ i, i < n → w.cell? ⟨b, o + i, none⟩ = some (.int .u8 (F i))) :
    Calls Try.prog 13 #[.slice a n c] w fun e w' =>
      (a = none → e = .returned (.slice none 0 0) ∧ w = w') ∧
      (a ≠ none → e = .returned (.slice (some ⟨w.heap.size, 0, none⟩) n n) ∧ w'.rowIs w.heap.size 5 n (fun i => .int .u8 (F i)) ∧ Below w.heap.size w w' ∧ w'.heap.size = w.heap.size + 1) := by
  have hmk := run_make_row' (P := Try.prog) 24 5 (.int .u8 0) 1 Try.underlying24 Try.info5' rfl .i64 .i64 n (by omega) (by omega)
  have q24 : ∀ (w : World) (a : Option Addr) (n c n' c' : Nat), (binOp .eql 24 (.slice a n c) (.slice none n' c')).run Try.prog w = .ok (.bool a.isNone) w := fun w a n c n' c' => Lib.run_eql_slice_nil w _ _ a n c n' c' Try.underlying24
  cases a with
  | none =>
    go_enter Try.func13, Try.ntmps13
    go_wp2
    go_ret
    exact ⟨fun _ => ⟨rfl, rfl⟩, fun h => absurd rfl h⟩
  | some x =>
    go_enter Try.func13, Try.ntmps13
    go_wp2
    go_loopw [4] (fun i wr => ∃ k : Nat, k ≤ n ∧ i = .int .i64 k ∧ wr.rowIs w.heap.size 5 n (fun j => .int .u8 (if j < k then F j else 0)) ∧ Below w.heap.size w wr ∧ wr.heap.size = w.heap.size + 1)
      (fun i _ => n - (intOf i).toNat)
    case atStart => exact ⟨0, Nat.zero_le _, rfl, (World.rowIs_made w (.int .u8 0) n 5).congr (by simp), (Below.refl _ _).alloc (Nat.le_refl _) _, by simp⟩
    case round =>
      obtain ⟨k, hk, rfl, hrow, hbel, hsz⟩ := hrel
      by_cases hlt : k < n
      · obtain rfl : x = _ := by simpa using ha (by omega)
        have hcx : wr.cell? ⟨b, o + k, none⟩ = some (.int .u8 (F k)) := cell_later hbel (hc k hlt)
        have hcy := hrow.cell hlt
        have hfy := hrow.frozen k
        clear hc ha
        go_wp2
        go_roundw
        case rel =>
          refine ⟨k + 1, by omega, by go_num, (hrow.set k (.int .u8 (F k))).congr (fun j hj => ?_), hbel.setCell (Nat.le_refl _) _, by rw [size_setCell]; exact hsz⟩
          by_cases e : j = k
          · subst e; simp
          · rw [if_neg e]
            by_cases h2 : j < k
            · rw [if_pos h2, if_pos (by omega)]
            · rw [if_neg h2, if_neg (by omega)]
        case measure => simp [intOf]; omega
      · go_wp2
        go_ret
        exact ⟨fun h => absurd h (by simp), fun _ => ⟨rfl, hrow.congr (fun i hi => by rw [if_pos (by omega)]), hbel, hsz⟩⟩

theorem cloneB_any {w : World} {lo hi : Nat} {v : Value} {bs : Bs} (h : BA w lo hi v bs) : Calls Try.prog 13 #[v] w (ClonedB w bs) := by
  obtain ⟨hl, a, c, b, o, rfl, ha, hc⟩ := h
  refine (clone_raw a bs.length c b o (fun i => ((bs.getD i 0).toNat : Nat)) w hl (fun h => (ha h).1) hc).mono ?_
  rintro e w' ⟨h1, h2⟩
  cases a with
  | none =>
    obtain ⟨rfl, rfl⟩ := h1 rfl
    have h0 : bs = [] := by
      cases bs with
      | nil => rfl
      | cons x l => have := ha (by simp); simp at this
    subst h0
    exact ⟨_, rfl, ba_nil _ _ _ _ _, Below.refl _ _⟩
  | some x =>
    obtain ⟨rfl, hr, hb, hs⟩ := h2 (by simp)
    exact ⟨_, rfl, ⟨hl, _, _, w.heap.size, 0, rfl, fun _ => ⟨rfl, by omega, by omega⟩, fun j hj => by rw [Nat.zero_add]; exact hr.cell hj⟩, hb⟩

/-- What zzCloneAll hands back: a new row; each element's bytes in a block behind it. -/
def ClonedA (w : World) (n : Nat) (cs : Nat → Bs) (e : Ending) (w' : World) : Prop :=
  ∃ v V, e = .returned v ∧ Ls w' w.heap.size v n V ∧ (∀ i, i < n → BA w' (w.heap.size + 1) w'.heap.size (V i) (cs i)) ∧ Below w.heap.size w w'

def BelowHid (b : Nat) (w w' : World) : Prop := Below b w w'

set_option maxHeartbeats 1000000 in
theorem cloneA_any {w : World} {lo hi n : Nat} {v : Value} {V : Nat → Value} {cs : Nat → Bs} (hn : n ≤ 1048576) (hv : LR w v n V) (hb : ∀ i, i < n → BA w lo hi (V i) (cs i)) (hhi : hi ≤ w.heap.size) :
    Calls Try.prog 6 #[v] w (ClonedA w n cs) := by
  obtain ⟨a, c, b, o, rfl, ha, hc⟩ := hv
  have hmk := run_make_row' (P := Try.prog) 22 24 (.slice none 0 0) 24 Try.underlying22 Try.info24' rfl .i64 .i64 n (by omega) (by omega)
  have q22 : ∀ (w : World) (a : Option Addr) (n c n' c' : Nat), (binOp .eql 22 (.slice a n c) (.slice none n' c')).run Try.prog w = .ok (.bool a.isNone) w := fun w a n c n' c' => Lib.run_eql_slice_nil w _ _ a n c n' c' Try.underlying22
  cases a with
  | none =>
    have h0 : n = 0 := by
      rcases Nat.eq_zero_or_pos n with h | h
      · exact h
      · have := ha h; simp at this
    subst h0
    go_enter Try.func6, Try.ntmps6
    go_wp2
    go_ret
    exact ⟨_, V, rfl, ⟨none, 0, rfl, by omega⟩, by omega, Below.refl _ _⟩
  | some x =>
    go_enter Try.func6, Try.ntmps6
    go_wp2_with fail
    go_loopw [4] (fun i wr => ∃ k : Nat, k ≤ n ∧ i = .int .i64 k ∧ ∃ V', wr.rowIs w.heap.size 24 n V' ∧ (∀ j, j < k → BA wr (w.heap.size + 1) wr.heap.size (V' j) (cs j)) ∧ Below w.heap.size w wr ∧ w.heap.size + 1 ≤ wr.heap.size)
      (fun i _ => n - (intOf i).toNat)
    case atStart => exact ⟨0, Nat.zero_le _, rfl, _, World.rowIs_made w (.slice none 0 0) n 24, by omega, (Below.refl _ _).alloc (Nat.le_refl _) _, by simp⟩
    case round =>
      obtain ⟨k, hk, rfl, V', hrow, hels, hbel, hsz⟩ := hrel
      by_cases hlt : k < n
      · obtain rfl : x = _ := by simpa using ha (by omega)
        have hcx : wr.cell? ⟨b, o + k, none⟩ = some (V k) := cell_later hbel (hc k hlt)
        have hba : BA wr lo hi (V k) (cs k) := (hb k hlt).keep (fun b _ h => hbel.block b (by omega))
        have hcl := cloneB_any hba
        have hone := hba.one
        clear hc ha hb
        go_wp2_with fail
        refine hcl.mono ?_
        rintro e w2 ⟨v2, rfl, hv2, hb2⟩
        have hrow2 : w2.rowIs w.heap.size 24 n V' := hrow.of_block (hb2.block _ (by omega))
        obtain ⟨a2, n2, c2, rfl⟩ := hv2.slice
        have hcy := hrow2.cell hlt
        have hfy := hrow2.frozen k
        have hels2 : ∀ j, j < k → BA w2 (w.heap.size + 1) w2.heap.size (V' j) (cs j) := fun j hj => ((hels j hj).keep (fun b _ h => hb2.block b h)).wide (Nat.le_refl _) hb2.size
        have hbel2 : Below w.heap.size w w2 := hbel.trans (hb2.mono (by omega))
        have hsz2 : w.heap.size + 1 ≤ w2.heap.size := by have := hb2.size; omega
        have hv2' : BA w2 (w.heap.size + 1) w2.heap.size (.slice a2 n2 c2) (cs k) := hv2.wide hsz (Nat.le_refl _)
        clear hrow hels hbel hv2 hb2 hcl hba hone hcx
        go_wp2
        go_roundw
        case rel =>
          refine ⟨k + 1, by omega, by go_num, _, hrow2.set k (.slice a2 n2 c2), fun j hj => ?_, hbel2.setCell (Nat.le_refl _) _, by rw [size_setCell]; exact hsz2⟩
          rw [size_setCell]
          have kp : ∀ b, w.heap.size + 1 ≤ b → b < w2.heap.size → (w2.setCell ⟨w.heap.size, k, none⟩ (.slice a2 n2 c2)).heap[b]? = w2.heap[b]? := fun b h _ => Deep.blk_setCell_other _ _ _ _ (by show _ ≠ _; simp; omega)
          by_cases e : j = k
          · subst e; simpa using hv2'.keep kp
          · rw [if_neg e]; exact (hels2 j (by omega)).keep kp
        case measure => simp [intOf]; omega
      · go_wp2
        go_ret
        exact ⟨_, V', rfl, ⟨_, _, rfl, fun _ => ⟨rfl, hrow⟩⟩, fun i hi => hels i (by omega), hbel⟩
end Go.Proofs.Qxb6618381a
