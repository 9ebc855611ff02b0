/-
  THE PLAIN LAW behind FnOperationsAreSortedDistinctNamesOfPairs: what 'sort, then compact' leaves of a list of byte strings; no Go in sight.
-/
import Derived.Lib.SlicesCompact
import Derived.Lib.RowBridge
namespace Go.Proofs.Qxb6617543a.Plain

abbrev Bs : Type := List UInt8

theorem le_tr (a b c : Bs) : decide (a ≤ b) = true → decide (b ≤ c) = true → decide (a ≤ c) = true := by
  simp only [decide_eq_true_eq]; exact List.le_trans
theorem le_to (a b : Bs) : (decide (a ≤ b) || decide (b ≤ a)) = true := by
  simp only [Bool.or_eq_true, decide_eq_true_eq]; exact List.le_total a b
theorem lt_of_le_ne {a b : Bs} (h : a ≤ b) (hn : a ≠ b) : a < b := by
  rcases List.le_iff_lt_or_eq.1 h with h | h
  · exact h
  · exact absurd h hn

theorem sorted_at (ss : List Bs) : (ss.mergeSort fun x y => decide (x ≤ y)).Pairwise (fun x y => x ≤ y) := by
  have := List.pairwise_mergeSort (le := fun x y : Bs => decide (x ≤ y)) le_tr le_to ss
  exact this.imp (fun h => by simpa using h)

section
variable {d : Array Bs}

theorem mem_upTo (x : Bs) (m : Nat) : x ∈ Lib.compactUpTo d m ↔ ∃ j, j < m ∧ d[j]! = x := by
  induction m with
  | zero => simp [Lib.compactUpTo]
  | succ m ih =>
    rw [Lib.compactUpTo_succ, List.mem_append, ih]
    constructor
    · rintro (⟨j, hj, h⟩ | h)
      · exact ⟨j, by omega, h⟩
      · split at h
        · simp at h; exact ⟨m, by omega, h.symm⟩
        · simp at h
    · rintro ⟨j, hj, h⟩
      by_cases e : j < m
      · exact .inl ⟨j, e, h⟩
      · obtain rfl : j = m := by omega
        by_cases hk : Lib.keeps d j = true
        · right; rw [if_pos hk]; simp [h]
        · left
          simp only [Lib.keeps, decide_eq_true_eq, not_or, ne_eq, Decidable.not_not] at hk
          exact ⟨j - 1, by omega, by rw [← hk.2]; exact h⟩

/-- Sorted: what is kept rises strictly, and its last is the last that was met. -/
theorem upTo_rises (hs : ∀ i j, i < j → j < d.size → d[i]! ≤ d[j]!) (m : Nat) (hm : m ≤ d.size) :
    (Lib.compactUpTo d m).Pairwise (fun x y => x < y) := by
  induction m with
  | zero => simp [Lib.compactUpTo]
  | succ m ih =>
    rw [Lib.compactUpTo_succ]
    by_cases hk : Lib.keeps d m = true
    · rw [if_pos hk]
      refine List.pairwise_append.2 ⟨ih (by omega), by simp, ?_⟩
      intro x hx y hy
      simp at hy
      subst hy
      obtain ⟨j, hj, rfl⟩ := (mem_upTo x m).1 hx
      simp only [Lib.keeps, decide_eq_true_eq] at hk
      have hne : d[m]! ≠ d[m - 1]! := by
        rcases hk with hk | hk
        · omega
        · exact hk
      have h1 : d[m - 1]! < d[m]! := lt_of_le_ne (hs (m - 1) m (by omega) (by omega)) (fun e => hne e.symm)
      by_cases e : j = m - 1
      · subst e; exact h1
      · exact List.lt_of_le_of_lt (hs j (m - 1) (by omega) (by omega)) h1
    · rw [if_neg hk, List.append_nil]; exact ih (by omega)
end

/-- The names, sorted and each once. -/
def names (ss : List Bs) : List Bs := Lib.compact (ss.mergeSort fun x y => decide (x ≤ y))

theorem names_rise (ss : List Bs) : (names ss).Pairwise (fun x y => x < y) := by
  unfold names Lib.compact
  refine upTo_rises (fun i j hij hj => ?_) _ (by simp)
  have hp := List.pairwise_iff_getElem.1 (sorted_at ss) i j (by simp at hj ⊢; omega) (by simpa using hj) hij
  have hi' : i < (ss.mergeSort fun x y => decide (x ≤ y)).toArray.size := by simp at hj ⊢; omega
  rw [getElem!_pos _ i hi', getElem!_pos _ j hj]
  simpa using hp

theorem mem_names (ss : List Bs) (x : Bs) : x ∈ names ss ↔ x ∈ ss := by
  unfold names Lib.compact
  rw [mem_upTo]
  rw [← (List.mergeSort_perm ss (fun x y => decide (x ≤ y))).mem_iff]
  constructor
  · rintro ⟨j, hj, rfl⟩
    have hj' : j < (ss.mergeSort fun x y => decide (x ≤ y)).toArray.size := by simpa using hj
    rw [getElem!_pos _ j hj']
    simp
  · intro h
    obtain ⟨j, hj, h⟩ := List.mem_iff_getElem.1 h
    have hj' : j < (ss.mergeSort fun x y => decide (x ≤ y)).toArray.size := by simpa using hj
    exact ⟨j, hj, by rw [getElem!_pos _ j hj']; simpa using h⟩

theorem length_names (ss : List Bs) : (names ss).length ≤ ss.length := by
  have := Lib.compact_length_le (ss.mergeSort fun x y => decide (x ≤ y))
  rw [List.length_mergeSort] at this
  exact this

theorem names_lt (ss : List Bs) (i j : Nat) (hij : i < j) (hj : j < (names ss).length) : (names ss)[i]! < (names ss)[j]! := by
  have := List.pairwise_iff_getElem.1 (names_rise ss) i j (by omega) hj hij
  rw [getElem!_pos _ i (by omega), getElem!_pos _ j hj]
  exact this
end Go.Proofs.Qxb6617543a.Plain
