/-
  'rot': make with room for all, then one append a name; the plain law of the rotation.
-/
import Derived.Test.Qxb6618381aOwn
import Derived.ArgAppend
namespace Go.Proofs.Qxb6618381a
open Go.RowKit Plain Go.Sort

theorem info24_parts : ∃ i, Try.prog.info? 24 = some i ∧ i.zero = some (.slice none 0 0) ∧ i.size = 1 ∧ i.bytes = 24 := by
  obtain ⟨i, hi, h⟩ := Option.map_eq_some_iff.1 Try.info24'
  simp only [Prod.mk.injEq] at h
  exact ⟨i, hi, h.1, h.2.1, h.2.2⟩

theorem make_room (n : Nat) (hn : n ≤ 1048576) (w : World) :
    (Instr.makeSlice 22 (.int .i64 0) (.int .i64 (n : Int))).run Try.prog w = .ok (.slice (some ⟨w.heap.size, 0, none⟩) 0 n) (w.alloc (.cells (madeCells #[.slice none 0 0] n) 24)) := by
  obtain ⟨i, hi, hz0, hz1, hz2⟩ := info24_parts
  have := run_make (P := Try.prog) w 22 24 i _ Try.underlying22 hi hz0 .i64 .i64 0 (n : Int) (by omega) (by omega) (by rw [hz2]; omega) (by omega)
  rw [hz1] at this
  simpa [Value.cells] using this

theorem append_one (w : World) (R j n tb : Nat) (a : Option Addr) (l c : Nat) (u : Value) (hj : j + 1 ≤ n) (hc : w.cell? ⟨R, j, none⟩ = some u) (hf : w.frozen? ⟨R, j, none⟩ = false) (ht : w.cell? ⟨tb, 0, none⟩ = some (.slice a l c)) (ty : TypeId) :
    (Builtin.append_ #[22, 22] ty #[.slice (some ⟨R, 0, none⟩) j n, .slice (some ⟨tb, 0, none⟩) 1 1]).run Try.prog w = .ok (.slice (some ⟨R, 0, none⟩) (j + 1) n) (w.setCell ⟨R, j, none⟩ (.slice a l c)) := by
  obtain ⟨i, hi, hz0, hz1, hz2⟩ := info24_parts
  have := run_append_room_cells (P := Try.prog) w 22 ty 24 i Try.underlying22 hi R 0 j n ⟨tb, 0, none⟩ 1 1 [.slice a l c] (by rw [hz1]; rfl)
    (fun k v hk => by
      match k, hk with
      | 0, hk => simp at hk; subst hk; exact ht)
    (fun v hv => by simp at hv; subst hv; rfl) hj
    (fun k hk => by
      obtain rfl : k = 0 := by simpa using hk
      rw [hz1]; simp [hc])
    (fun k hk => by
      obtain rfl : k = 0 := by simpa using hk
      rw [hz1]; simpa using hf)
  rw [this, hz1]
  simp [World.setCells]

theorem new_cell (w : World) (v : Value) : (w.alloc (.cells #[v] 24)).cell? ⟨w.heap.size, 0, none⟩ = some v :=
  (World.rowIs_alloc w #[v] 24 (fun _ => v) (fun i hi => by
    obtain rfl : i = 0 := by simpa using hi
    rfl)).cell (i := 0) (by simp)

/-- While 'rot' is filled: j names stand in the row R of n places; all that was there is as it was. -/
def RS (w2 wr : World) (R n j : Nat) (cc : Nat → Bs) : Prop :=
  (∃ V, wr.rowIs R 24 n V ∧ ∀ i, i < j → BA wr (R + 1) wr.heap.size (V i) (cc i)) ∧ Below R w2 wr ∧ R + 1 ≤ wr.heap.size

theorem RS.start (w2 : World) (n : Nat) (cc : Nat → Bs) : RS w2 (w2.alloc (.cells (madeCells #[.slice none 0 0] n) 24)) w2.heap.size n 0 cc :=
  ⟨⟨_, World.rowIs_made w2 (.slice none 0 0) n 24, by omega⟩, (Below.refl _ _).alloc (Nat.le_refl _) _, by simp⟩

theorem RS.step {w2 wr w3 : World} {R n j : Nat} {cc : Nat → Bs} {a : Option Addr} {l c : Nat} (h : RS w2 wr R n j cc) (hv : BA w3 wr.heap.size w3.heap.size (.slice a l c) (cc j)) (hb : Below wr.heap.size wr w3) :
    RS w2 ((w3.alloc (.cells #[.slice a l c] 24)).setCell ⟨R, j, none⟩ (.slice a l c)) R n (j + 1) cc := by
  obtain ⟨⟨V, hr, hels⟩, hbel, hs⟩ := h
  have s3 := hb.size
  have hb4 : Below w3.heap.size w3 (w3.alloc (.cells #[.slice a l c] 24)) := (Below.refl _ _).alloc (Nat.le_refl _) _
  have s4 : w3.heap.size + 1 = (w3.alloc (.cells #[.slice a l c] 24)).heap.size := by simp
  have hr4 : (w3.alloc (.cells #[.slice a l c] 24)).rowIs R 24 n V := (hr.of_block (hb.block _ (by omega))).of_block (hb4.block _ (by omega))
  generalize w3.alloc (.cells #[.slice a l c] 24) = w4 at hb4 s4 hr4 ⊢
  have kp : ∀ b, R + 1 ≤ b → b < w3.heap.size → (w4.setCell ⟨R, j, none⟩ (.slice a l c)).heap[b]? = w3.heap[b]? := fun b h1 h2 =>
    (Deep.blk_setCell_other _ _ _ _ (by show _ ≠ _; simp; omega)).trans (hb4.block b h2)
  refine ⟨⟨_, hr4.set j (.slice a l c), fun i hi => ?_⟩, ?_, by rw [size_setCell]; omega⟩
  · rw [size_setCell]
    by_cases e : i = j
    · subst e
      simp only [if_true]
      exact (hv.wide (by omega) (Nat.le_refl _)).keep kp |>.wide (Nat.le_refl _) (by omega)
    · rw [if_neg e]
      exact (((hels i (by omega)).keep (fun b _ h => hb.block b h)).wide (Nat.le_refl _) s3).keep kp |>.wide (Nat.le_refl _) (by omega)
  · exact ((hbel.trans (hb.mono (by omega))).trans (hb4.mono (by omega))).setCell (Nat.le_refl _) _

theorem RS.cell {w2 wr : World} {R n j i : Nat} {cc : Nat → Bs} (h : RS w2 wr R n j cc) (hi : i < n) : ∃ u, wr.cell? ⟨R, i, none⟩ = some u ∧ wr.frozen? ⟨R, i, none⟩ = false := by
  obtain ⟨⟨V, hr, _⟩, _, _⟩ := h
  exact ⟨V i, hr.cell hi, hr.frozen i⟩

theorem RS.own {w2 wr : World} {R n c : Nat} {cc : Nat → Bs} (h : RS w2 wr R n n cc) : ∃ V, Own wr R wr.heap.size (.slice (some ⟨R, 0, none⟩) n c) n V cc := by
  obtain ⟨⟨V, hr, hels⟩, _, hs⟩ := h
  exact ⟨V, ⟨_, _, rfl, fun _ => ⟨rfl, hr⟩⟩, hels, Nat.le_refl _, fun _ => by omega⟩

/-- The rotated list. -/
def rotc (cs : Nat → Bs) (k n j : Nat) : Bs := if j < n - k then cs (k + j) else cs (j - (n - k))

theorem rot_perm (cs : Nat → Bs) (k n : Nat) (hk : k ≤ n) : (lof (rotc cs k n) n).Perm (lof cs n) := by
  have e : lof (rotc cs k n) n = (lof cs n).drop k ++ (lof cs n).take k := by
    apply List.ext_getElem
    · simp [lof]; omega
    · intro i h1 h2
      have hi : i < n := by simpa [lof] using h1
      rw [List.getElem_append]
      split
      · rename_i h
        have h' : i < n - k := by simpa [lof] using h
        simp [lof, rotc, h']
      · rename_i h
        have h' : ¬ i < n - k := by simpa [lof] using h
        simp [lof, rotc, h']
  rw [e]
  exact List.perm_append_comm.trans (by rw [List.take_append_drop])

/-- What 'hasDup' tells so far. -/
def HasP (cs : Nat → Bs) (n k : Nat) (h : Bool) : Prop := (h = true → ∃ y, Dup (lof cs n) y) ∧ (h = false → ∀ j, j < k → ¬ Dup (lof cs n) (cs j))
theorem HasP.no {cs : Nat → Bs} {n : Nat} (hw : HasP cs n n false) (y : Bs) : ¬ Dup (lof cs n) y := by
  intro hy
  obtain ⟨j, hj, rfl⟩ := dup_at hy
  exact hw.2 rfl j hj hy
theorem HasP.skip {cs : Nat → Bs} {n k : Nat} {h : Bool} (hw : HasP cs n k h) (hk : ¬ Dup (lof cs n) (cs k)) : HasP cs n (k + 1) h := by
  refine ⟨hw.1, fun e j hj => ?_⟩
  rcases (by omega : j < k ∨ j = k) with h' | h'
  · exact hw.2 e j h'
  · subst h'; exact hk

/-- What the two calls have handed back. -/
def Two (w : World) (cs : Nat → Bs) (n lo hi lo' hi' : Nat) (ok : Bool) (g1 g2 : Value) : Prop :=
  ∃ x, BA w lo hi g1 x ∧ BA w lo' hi' g2 x ∧ (ok = true → Dup (lof cs n) x) ∧ (ok = false → g1 = .slice none 0 0 ∧ g2 = .slice none 0 0)

theorem two_of {w5 w6 : World} {cs cc : Nat → Bs} {n lo hi lo' hi' : Nat} {h ok1 ok2 : Bool} {g1 g2 : Value} (hp : (lof cc n).Perm (lof cs n)) (hH : HasP cs n n h)
    (ht5 : ok1 = true → ∃ x, Least (lof cs n) x ∧ BA w5 lo hi g1 x) (hf5 : ok1 = false → g1 = .slice none 0 0 ∧ ∀ y, ¬ Dup (lof cs n) y)
    (ht6 : ok2 = true → ∃ x, Least (lof cc n) x ∧ BA w6 lo' hi' g2 x) (hf6 : ok2 = false → g2 = .slice none 0 0 ∧ ∀ y, ¬ Dup (lof cc n) y)
    (kk : ∀ b, lo ≤ b → b < hi → w6.heap[b]? = w5.heap[b]?) : ok1 = h ∧ ok2 = h ∧ Two w6 cs n lo hi lo' hi' h g1 g2 := by
  cases h with
  | true =>
    obtain ⟨y, hy⟩ := hH.1 rfl
    have e1 : ok1 = true := by
      cases ok1 with
      | true => rfl
      | false => exact absurd hy ((hf5 rfl).2 y)
    have e2 : ok2 = true := by
      cases ok2 with
      | true => rfl
      | false => exact absurd (hy.perm hp.symm) ((hf6 rfl).2 y)
    obtain ⟨x, hx, bx⟩ := ht5 e1
    obtain ⟨x', hx', bx'⟩ := ht6 e2
    obtain rfl := hx.unique (hx'.perm hp)
    exact ⟨e1, e2, x, bx.keep kk, bx', fun _ => hx.1, by simp⟩
  | false =>
    have e1 : ok1 = false := by
      cases ok1 with
      | false => rfl
      | true => obtain ⟨x, hx, _⟩ := ht5 rfl; exact absurd hx.1 (hH.no x)
    have e2 : ok2 = false := by
      cases ok2 with
      | false => rfl
      | true => obtain ⟨x, hx, _⟩ := ht6 rfl; exact absurd (hx.1.perm hp) (hH.no x)
    have g1e := (hf5 e1).1
    have g2e := (hf6 e2).1
    subst g1e g2e
    exact ⟨e1, e2, [], ba_nil _ _ _ _ _, ba_nil _ _ _ _ _, by simp, fun _ => ⟨rfl, rfl⟩⟩
end Go.Proofs.Qxb6618381a
