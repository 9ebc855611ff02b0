/-
  THE PLAIN LAW behind the two statements on 'repeated': lists of byte strings, sorted; the least that is there twice. No Go in sight.
-/
namespace Go.Proofs.Qxb6618381a.Plain

abbrev Bs : Type := List UInt8

theorem lt_of_le_ne {a b : Bs} (h : a ≤ b) (hn : a ≠ b) : a < b := by
  rcases List.le_iff_lt_or_eq.1 h with h | h
  · exact h
  · exact absurd h hn
theorem le_of_lt {a b : Bs} (h : a < b) : a ≤ b := List.le_of_lt h
theorem le_rfl (a : Bs) : a ≤ a := List.le_refl a

/-- The comparison: -1, 0 or 1. -/
def cmpL (a b : Bs) : Int := if a < b then -1 else if b < a then 1 else 0
theorem cmpL_neg {a b : Bs} : cmpL a b < 0 ↔ a < b := by
  unfold cmpL
  split
  · simp_all
  · split <;> simp_all
theorem cmpL_pos {a b : Bs} : 0 < cmpL a b ↔ b < a := by
  unfold cmpL
  split
  · rename_i h; constructor
    · intro h2; omega
    · intro h2; exact absurd h2 (List.lt_asymm h)
  · split <;> simp_all

/-! ### a list by a function on the first n places -/
def lof (cs : Nat → Bs) (n : Nat) : List Bs := (List.range n).map cs

theorem count_succ (cs : Nat → Bs) (n : Nat) (x : Bs) : (lof cs (n + 1)).count x = (lof cs n).count x + if cs n = x then 1 else 0 := by
  unfold lof
  rw [List.range_succ, List.map_append, List.count_append]
  simp [List.count_cons]

theorem one_iff (cs : Nat → Bs) (n : Nat) (x : Bs) : 1 ≤ (lof cs n).count x ↔ ∃ i, i < n ∧ cs i = x := by
  induction n with
  | zero => simp [lof]
  | succ n ih =>
    rw [count_succ]
    by_cases h : cs n = x
    · rw [if_pos h]; exact ⟨fun _ => ⟨n, by omega, h⟩, fun _ => by omega⟩
    · rw [if_neg h, Nat.add_zero, ih]
      constructor
      · rintro ⟨i, hi, e⟩; exact ⟨i, by omega, e⟩
      · rintro ⟨i, hi, e⟩
        refine ⟨i, ?_, e⟩
        rcases (by omega : i < n ∨ i = n) with h' | h'
        · exact h'
        · subst h'; exact absurd e h

theorem two_iff (cs : Nat → Bs) (n : Nat) (x : Bs) : 2 ≤ (lof cs n).count x ↔ ∃ i j, i < j ∧ j < n ∧ cs i = x ∧ cs j = x := by
  induction n with
  | zero => simp [lof]
  | succ n ih =>
    rw [count_succ]
    by_cases h : cs n = x
    · rw [if_pos h]
      constructor
      · intro h2
        obtain ⟨i, hi, e⟩ := (one_iff cs n x).1 (by omega)
        exact ⟨i, n, hi, by omega, e, h⟩
      · rintro ⟨i, j, hij, hj, e1, e2⟩
        have := (one_iff cs n x).2 ⟨i, by omega, e1⟩
        omega
    · rw [if_neg h, Nat.add_zero, ih]
      constructor
      · rintro ⟨i, j, hij, hj, e1, e2⟩; exact ⟨i, j, hij, by omega, e1, e2⟩
      · rintro ⟨i, j, hij, hj, e1, e2⟩
        refine ⟨i, j, hij, ?_, e1, e2⟩
        rcases (by omega : j < n ∨ j = n) with h' | h'
        · exact h'
        · subst h'; exact absurd e2 h

/-- x is there twice. -/
def Dup (l : List Bs) (x : Bs) : Prop := 2 ≤ l.count x
/-- The least that is there twice. -/
def Least (l : List Bs) (x : Bs) : Prop := Dup l x ∧ ∀ y, Dup l y → x ≤ y

theorem Least.unique {l : List Bs} {x y : Bs} (h : Least l x) (k : Least l y) : x = y := List.le_antisymm (h.2 y k.1) (k.2 x h.1)
theorem Dup.perm {l l' : List Bs} (h : l.Perm l') {x : Bs} (k : Dup l x) : Dup l' x := by unfold Dup at *; rw [← h.count_eq]; exact k
theorem Least.perm {l l' : List Bs} (h : l.Perm l') {x : Bs} (k : Least l x) : Least l' x := ⟨k.1.perm h, fun y hy => k.2 y (hy.perm h.symm)⟩

/-- Two sorted lists of the same members are one. -/
theorem sorted_one {l l' : List Bs} (h : l.Perm l') (h1 : l.Pairwise (fun x y => x ≤ y)) (h2 : l'.Pairwise (fun x y => x ≤ y)) : l = l' :=
  List.Perm.eq_of_pairwise (fun _ _ _ _ => List.le_antisymm) h1 h2 h

/-- Ascending on the first n places. -/
def Asc (s : Nat → Bs) (n : Nat) : Prop := ∀ i j, i < j → j < n → s i ≤ s j
theorem Asc.pairwise {s : Nat → Bs} {n : Nat} (h : Asc s n) : (lof s n).Pairwise (fun x y => x ≤ y) := by
  unfold lof
  refine List.pairwise_iff_getElem.2 (fun i j hi hj hij => ?_)
  simp at hi hj ⊢
  exact h i j hij hj

theorem lof_eq {s t : Nat → Bs} {n : Nat} (h : lof s n = lof t n) (i : Nat) (hi : i < n) : s i = t i := by
  have := congrArg (fun l => l[i]?) h
  simpa [lof, hi] using this

/-- Sorted: where the first two neighbours that are equal stand, there stands the least that is there twice. -/
theorem first_least {s : Nat → Bs} {n i : Nat} (h : Asc s n) (hi : i + 1 < n) (he : s i = s (i + 1)) (hf : ∀ k, k < i → s k ≠ s (k + 1)) : Least (lof s n) (s (i + 1)) := by
  refine ⟨(two_iff s n _).2 ⟨i, i + 1, by omega, hi, he, rfl⟩, fun y hy => ?_⟩
  obtain ⟨p, q, hpq, hq, e1, e2⟩ := (two_iff s n y).1 hy
  have hadj : s p = s (p + 1) := by
    refine List.le_antisymm (h p (p + 1) (by omega) (by omega)) ?_
    rcases (by omega : p + 1 = q ∨ p + 1 < q) with e | e
    · rw [e, e1, e2]; exact le_rfl _
    · have := h (p + 1) q e hq; rw [e2, ← e1] at this; exact this
  have hip : i ≤ p := by
    rcases (by omega : i ≤ p ∨ p < i) with h' | h'
    · exact h'
    · exact absurd hadj (hf p h')
  rw [← he, ← e1]
  rcases (by omega : i = p ∨ i < p) with h' | h'
  · rw [h']; exact le_rfl _
  · exact h i p h' (by omega)

/-- Sorted, and no two neighbours equal: nothing is there twice. -/
theorem none_dup {s : Nat → Bs} {n : Nat} (h : Asc s n) (hf : ∀ k, k + 1 < n → s k ≠ s (k + 1)) (y : Bs) : ¬ Dup (lof s n) y := by
  intro hy
  obtain ⟨p, q, hpq, hq, e1, e2⟩ := (two_iff s n y).1 hy
  refine hf p (by omega) ?_
  refine List.le_antisymm (h p (p + 1) (by omega) (by omega)) ?_
  rcases (by omega : p + 1 = q ∨ p + 1 < q) with e | e
  · rw [e, e1, e2]; exact le_rfl _
  · have := h (p + 1) q e hq; rw [e2, ← e1] at this; exact this
end Go.Proofs.Qxb6618381a.Plain
