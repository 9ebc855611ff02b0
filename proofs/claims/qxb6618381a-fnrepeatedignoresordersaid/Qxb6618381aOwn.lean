/-
  Own lists of names: what clone, sort and repeated make of them.
-/
import Derived.Test.Qxb6618381aIns
namespace Go.Proofs.Qxb6618381a
open Go.RowKit Plain Go.Sort

/-- An own list: its row in block rb, its elements' bytes in the blocks behind it, ahead of hi. -/
def Own (w : World) (rb hi : Nat) (v : Value) (n : Nat) (V : Nat → Value) (cs : Nat → Bs) : Prop :=
  Ls w rb v n V ∧ (∀ i, i < n → BA w (rb + 1) hi (V i) (cs i)) ∧ hi ≤ w.heap.size ∧ (0 < n → rb < hi)

/-- .. to be read. -/
def OwnR (w : World) (rb hi : Nat) (v : Value) (n : Nat) (V : Nat → Value) (cs : Nat → Bs) : Prop :=
  LRb w rb v n V ∧ (∀ i, i < n → BA w (rb + 1) hi (V i) (cs i)) ∧ hi ≤ w.heap.size ∧ (0 < n → rb < hi)

theorem Own.keep {w w' : World} {rb hi n : Nat} {v : Value} {V : Nat → Value} {cs : Nat → Bs} (h : Own w rb hi v n V cs) (hs : w.heap.size ≤ w'.heap.size) (k : 0 < n → ∀ b, rb ≤ b → b < hi → w'.heap[b]? = w.heap[b]?) : Own w' rb hi v n V cs := by
  obtain ⟨⟨a, c, hv, ha⟩, h2, h3, h4⟩ := h
  exact ⟨⟨a, c, hv, fun h => ⟨(ha h).1, (ha h).2.of_block (k h rb (Nat.le_refl _) (h4 h))⟩⟩, fun i hi => (h2 i hi).keep (fun b h1 h2 => k (by omega) b (by omega) h2), by omega, h4⟩

theorem Own.drew {w : World} {rb hi n m : Nat} {v : Value} {V : Nat → Value} {cs : Nat → Bs} (h : Own w rb hi v n V cs) : Own (w.drewN m) rb hi v n V cs := h.keep (Nat.le_refl _) (fun _ _ _ _ => rfl)

theorem OwnR.keep {w w' : World} {rb hi n : Nat} {v : Value} {V : Nat → Value} {cs : Nat → Bs} (h : OwnR w rb hi v n V cs) (hs : w.heap.size ≤ w'.heap.size) (k : 0 < n → ∀ b, rb ≤ b → b < hi → w'.heap[b]? = w.heap[b]?) : OwnR w' rb hi v n V cs := by
  obtain ⟨⟨a, c, hv, ha, hc⟩, h2, h3, h4⟩ := h
  refine ⟨⟨a, c, hv, fun h => ⟨(ha h).1, by have := (ha h).2; omega⟩, fun j hj => ?_⟩, fun i hi => (h2 i hi).keep (fun b h1 h2 => k (by omega) b (by omega) h2), by omega, h4⟩
  rw [← hc j hj]
  exact World.cell?_of_block (w := w) (k (by omega) rb (Nat.le_refl _) (h4 (by omega)))

theorem OwnR.drew {w : World} {rb hi n m : Nat} {v : Value} {V : Nat → Value} {cs : Nat → Bs} (h : OwnR w rb hi v n V cs) : OwnR (w.drewN m) rb hi v n V cs := h.keep (Nat.le_refl _) (fun _ _ _ _ => rfl)

theorem Own.r {w : World} {rb hi n : Nat} {v : Value} {V : Nat → Value} {cs : Nat → Bs} (h : Own w rb hi v n V cs) : OwnR w rb hi v n V cs := by
  obtain ⟨⟨a, c, hv, ha⟩, h2, h3, h4⟩ := h
  exact ⟨⟨a, c, hv, fun h => ⟨(ha h).1, (ha h).2.lt⟩, fun j hj => (ha (by omega)).2.cell hj⟩, h2, h3, h4⟩

theorem OwnR.cell {w : World} {rb hi n c : Nat} {a : Option Addr} {V : Nat → Value} {cs : Nat → Bs} (h : OwnR w rb hi (.slice a n c) n V cs) (hn : 0 < n) : a = some ⟨rb, 0, none⟩ ∧ ∀ j, j < n → w.cell? ⟨rb, j, none⟩ = some (V j) := by
  obtain ⟨⟨a', c', hv, ha, hc⟩, h2, h3, h4⟩ := h
  injection hv with h1
  subst h1
  exact ⟨(ha hn).1, hc⟩

def ClonedO (w : World) (n : Nat) (cs : Nat → Bs) (e : Ending) (w' : World) : Prop :=
  ∃ a c V, e = .returned (.slice a n c) ∧ Own w' w.heap.size w'.heap.size (.slice a n c) n V cs ∧ Below w.heap.size w w'

theorem cloneA_own {w : World} {lo hi n : Nat} {v : Value} {V : Nat → Value} {cs : Nat → Bs} (hn : n ≤ 1048576) (hv : LR w v n V) (hb : ∀ i, i < n → BA w lo hi (V i) (cs i)) (hhi : hi ≤ w.heap.size) :
    Calls Try.prog 6 #[v] w (ClonedO w n cs) := by
  refine (cloneA_any hn hv hb hhi).mono ?_
  rintro e w' ⟨v', V', rfl, ⟨a, c, rfl, ha⟩, h2, h3⟩
  exact ⟨a, c, V', rfl, ⟨⟨a, c, rfl, ha⟩, h2, Nat.le_refl _, fun h => (ha h).2.lt⟩, h3⟩

/-- What a sort leaves behind, of an own list. -/
def SortedO (w : World) (rb hi : Nat) (v : Value) (n : Nat) (cs : Nat → Bs) (w' : World) : Prop :=
  ∃ V' cs', OwnR w' rb hi v n V' cs' ∧ (lof cs' n).Perm (lof cs n) ∧ Asc cs' n ∧ Kp rb w w'

theorem sortedO_of {w w' : World} {rb hi n : Nat} {v : Value} {V : Nat → Value} {cs : Nat → Bs} (h : Own w rb hi v n V cs) (k : SortedW w rb (rb + 1) hi v n cs w') : SortedO w rb hi v n cs w' := by
  obtain ⟨V', cs', h1, h2, h3, h4, h5⟩ := k
  exact ⟨V', cs', ⟨h1, h2, Nat.le_trans h.2.2.1 h5.size, h.2.2.2⟩, h3, h4, h5⟩

theorem ins_own {w : World} {rb hi n : Nat} {v : Value} {V : Nat → Value} {cs : Nat → Bs} (hn : n ≤ 1048576) (h : Own w rb hi v n V cs) :
    Calls Try.prog 9 #[v] w fun e w' => e = .returned (.tuple #[]) ∧ SortedO w rb hi v n cs w' :=
  (ins_any hn h.1 h.2.1 h.2.2.1 (Nat.lt_succ_self _)).mono fun _ _ ⟨he, hk⟩ => ⟨he, sortedO_of h hk⟩

def RepO (w : World) (rb hi : Nat) (v : Value) (n : Nat) (cs : Nat → Bs) (e : Ending) (w' : World) : Prop :=
  ∃ r ok, e = .returned (.tuple #[r, .bool ok]) ∧ SortedO w rb hi v n cs w' ∧ (ok = true → ∃ x, Least (lof cs n) x ∧ BA w' (rb + 1) hi r x) ∧ (ok = false → r = .slice none 0 0 ∧ ∀ y, ¬ Dup (lof cs n) y)

theorem rep_own {w : World} {rb hi n : Nat} {v : Value} {V : Nat → Value} {cs : Nat → Bs} (hn : n ≤ 1048576) (h : Own w rb hi v n V cs) :
    Calls Try.prog 10 #[v] w (RepO w rb hi v n cs) :=
  (zzrepeated_any hn h.1 h.2.1 h.2.2.1 (Nat.lt_succ_self _)).mono fun _ _ ⟨r, ok, he, hk, h1, h2⟩ => ⟨r, ok, he, sortedO_of h hk, h1, h2⟩

theorem occ_dup {cs : Nat → Bs} {n i : Nat} (hi : i < n) : occ cs n i ↔ Dup (lof cs n) (cs i) := by
  unfold Dup
  rw [two_iff]
  constructor
  · rintro ⟨j, hj, hne, e⟩
    rcases (by omega : j < i ∨ i < j) with h | h
    · exact ⟨j, i, h, hi, e, rfl⟩
    · exact ⟨i, j, h, hj, rfl, e⟩
  · rintro ⟨p, q, hpq, hq, e1, e2⟩
    by_cases h : p = i
    · exact ⟨q, hq, by omega, e2⟩
    · exact ⟨p, by omega, h, e1⟩

theorem dup_at {cs : Nat → Bs} {n : Nat} {y : Bs} (h : Dup (lof cs n) y) : ∃ j, j < n ∧ cs j = y := (one_iff cs n y).1 (Nat.le_trans (by omega) h)

/-- The least so far. -/
def WantP (cs : Nat → Bs) (n k : Nat) (h : Bool) (w : World) (lo hi : Nat) (v : Value) : Prop :=
  (h = true → ∃ x, BA w lo hi v x ∧ Dup (lof cs n) x ∧ ∀ j, j < k → Dup (lof cs n) (cs j) → x ≤ cs j) ∧ (h = false → ∀ j, j < k → ¬ Dup (lof cs n) (cs j))

variable {cs : Nat → Bs} {n k lo hi : Nat} {h : Bool} {w : World} {v : Value}
theorem WantP.skip (hw : WantP cs n k h w lo hi v) (hk : ¬ Dup (lof cs n) (cs k)) : WantP cs n (k + 1) h w lo hi v := by
  refine ⟨fun e => ?_, fun e j hj => ?_⟩
  · obtain ⟨x, h1, h2, h3⟩ := hw.1 e
    refine ⟨x, h1, h2, fun j hj hd => ?_⟩
    rcases (by omega : j < k ∨ j = k) with h' | h'
    · exact h3 j h' hd
    · subst h'; exact absurd hd hk
  · rcases (by omega : j < k ∨ j = k) with h' | h'
    · exact hw.2 e j h'
    · subst h'; exact hk
theorem WantP.first (hw : WantP cs n k false w lo hi v) (hd : Dup (lof cs n) (cs k)) {u : Value} (hu : BA w lo hi u (cs k)) : WantP cs n (k + 1) true w lo hi u := by
  refine ⟨fun _ => ⟨cs k, hu, hd, fun j hj hdj => ?_⟩, fun e => by simp at e⟩
  rcases (by omega : j < k ∨ j = k) with h' | h'
  · exact absurd hdj (hw.2 rfl j h')
  · subst h'; exact Plain.le_rfl _
theorem WantP.less {x : Bs} (hm : ∀ j, j < k → Dup (lof cs n) (cs j) → x ≤ cs j) (hl : cs k < x) (hd : Dup (lof cs n) (cs k)) {u : Value} (hu : BA w lo hi u (cs k)) : WantP cs n (k + 1) true w lo hi u := by
  refine ⟨fun _ => ⟨cs k, hu, hd, fun j hj hdj => ?_⟩, fun e => by simp at e⟩
  rcases (by omega : j < k ∨ j = k) with h' | h'
  · exact List.le_trans (List.le_of_lt hl) (hm j h' hdj)
  · subst h'; exact Plain.le_rfl _
theorem WantP.stay {x : Bs} (hb : BA w lo hi v x) (hx : Dup (lof cs n) x) (hm : ∀ j, j < k → Dup (lof cs n) (cs j) → x ≤ cs j) (hl : ¬ cs k < x) : WantP cs n (k + 1) true w lo hi v := by
  refine ⟨fun _ => ⟨x, hb, hx, fun j hj hdj => ?_⟩, fun e => by simp at e⟩
  rcases (by omega : j < k ∨ j = k) with h' | h'
  · exact hm j h' hdj
  · subst h'; exact List.not_lt.1 hl
theorem WantP.least (hw : WantP cs n n true w lo hi v) : ∃ x, BA w lo hi v x ∧ Least (lof cs n) x := by
  obtain ⟨x, h1, h2, h3⟩ := hw.1 rfl
  refine ⟨x, h1, h2, fun y hy => ?_⟩
  obtain ⟨j, hj, rfl⟩ := dup_at hy
  exact h3 j hj hy
theorem WantP.no (hw : WantP cs n n false w lo hi v) (y : Bs) : ¬ Dup (lof cs n) y := by
  intro hy
  obtain ⟨j, hj, rfl⟩ := dup_at hy
  exact hw.2 rfl j hj hy
theorem below_drewN {B : Nat} {a w : World} (h : Below B a w) (m : Nat) : Below B a (w.drewN m) := ⟨h.os, h.tape, h.output, h.size, h.block⟩
end Go.Proofs.Qxb6618381a
