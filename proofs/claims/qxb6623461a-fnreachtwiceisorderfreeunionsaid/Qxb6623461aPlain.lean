/-
  THE PLAIN LAW behind the two statements on 'reach': no Go in sight. A set of states is a function 'Nat → Bool'; the moves that take no byte are a relation 'E'. 'Clo E M s x': x is got to from s by moves through states outside M.
-/
namespace Go.Proofs.Qxb6623461a.Plain

/-- x is got to from s by moves through states that are not in M (the least such set; empty where s itself is in M). -/
def Clo (E : Nat → Nat → Prop) (M : Nat → Bool) (s x : Nat) : Prop :=
  ∀ P : Nat → Prop, (M s = false → P s) → (∀ u v, P u → E u v → M v = false → P v) → P x

variable {E : Nat → Nat → Prop} {M M1 M2 M' W : Nat → Bool} {s s1 s2 x u v : Nat} {n L : Nat}

theorem Clo.base (h : M s = false) : Clo E M s s := fun _ b _ => b h
theorem Clo.step (h : Clo E M s u) (e : E u v) (hv : M v = false) : Clo E M s v := fun P b st => st u v (h P b st) e hv
theorem Clo.new (h : Clo E M s x) : M x = false := h (fun y => M y = false) id (fun _ _ _ _ h => h)
theorem Clo.src (h : Clo E M s x) : M s = false := h (fun _ => M s = false) id (fun _ _ h _ _ => h)

/-- From v, a move behind u, through fewer states: still from s through the states outside M. -/
theorem Clo.onward (hM : ∀ y, M y = true → M1 y = true) (hu : Clo E M s u) (e : E u v) (h : Clo E M1 v x) : Clo E M s x := by
  have back : ∀ y, M1 y = false → M y = false := fun y hy => by
    cases hm : M y with
    | false => rfl
    | true => rw [hM y hm] at hy; cases hy
  exact h (fun y => Clo E M s y) (fun hv => hu.step e (back v hv)) (fun a b ha he hb => ha.step he (back b hb))

theorem Clo.less (hM : ∀ y, M y = true → M1 y = true) (h : Clo E M1 s x) : Clo E M s x := by
  have back : ∀ y, M1 y = false → M y = false := fun y hy => by
    cases hm : M y with
    | false => rfl
    | true => rw [hM y hm] at hy; cases hy
  exact h (fun y => Clo E M s y) (fun hv => Clo.base (back s hv)) (fun a b ha he hb => ha.step he (back b hb))

/-- M' is M together with all that is got to from s through states outside M. -/
def Reached (E : Nat → Nat → Prop) (M : Nat → Bool) (s : Nat) (M' : Nat → Bool) : Prop := ∀ x, M' x = true ↔ M x = true ∨ Clo E M s x
/-- The same from every state of S. -/
def ReachedFrom (E : Nat → Nat → Prop) (M : Nat → Bool) (S : Nat → Prop) (M' : Nat → Bool) : Prop := ∀ x, M' x = true ↔ M x = true ∨ ∃ s, S s ∧ Clo E M s x

theorem Reached.old (h : Reached E M s M') (x : Nat) (hx : M x = true) : M' x = true := (h x).2 (.inl hx)
theorem Reached.self (h : Reached E M s M') : M' s = true := by
  cases hm : M s with
  | true => exact h.old s hm
  | false => exact (h s).2 (.inr (Clo.base hm))
theorem Reached.closed (h : Reached E M s M') (hu : M' u = true) (hn : M u = false) (e : E u v) : M' v = true := by
  cases hm : M v with
  | true => exact h.old v hm
  | false =>
    rcases (h u).1 hu with h1 | h1
    · rw [h1] at hn; cases hn
    · exact (h v).2 (.inr (h1.step e hm))

theorem reached_of (h1 : ∀ y, M y = true → M' y = true) (h2 : M' s = true) (h3 : ∀ u v, M' u = true → M u = false → E u v → M' v = true)
    (h4 : ∀ y, M' y = true → M y = true ∨ Clo E M s y) : Reached E M s M' := by
  intro y
  refine ⟨h4 y, ?_⟩
  rintro (h | h)
  · exact h1 y h
  · exact (h (fun z => M' z = true ∧ M z = false) (fun hs => ⟨h2, hs⟩) (fun a b ⟨ha, hn⟩ e hb => ⟨h3 a b ha hn e, hb⟩)).1

/-- M with s marked. -/
def put (M : Nat → Bool) (s : Nat) : Nat → Bool := fun x => if x = s then true else M x
theorem put_self : put M s s = true := by simp [put]
theorem put_old (h : M x = true) : put M s x = true := by unfold put; split <;> simp_all
theorem put_iff : put M s x = true ↔ x = s ∨ M x = true := by unfold put; split <;> simp_all
theorem put_ne (h : x ≠ s) : put M s x = M x := by simp [put, h]

theorem reached_hit (h : M s = true) : Reached E M s M := by
  refine reached_of (fun _ => id) h ?_ (fun _ => .inl)
  intro u v h1 h2; rw [h1] at h2; cases h2

theorem reached_stop (h : M s = false) (he : ∀ v, ¬ E s v) : Reached E M s (put M s) := by
  refine reached_of (fun _ => put_old) put_self ?_ ?_
  · intro u v hu hn e
    rcases put_iff.1 hu with rfl | hu
    · exact absurd e (he v)
    · rw [hu] at hn; cases hn
  · intro y hy
    rcases put_iff.1 hy with rfl | hy
    · exact .inr (Clo.base h)
    · exact .inl hy

theorem reached_one {t : Nat} (h : M s = false) (he : ∀ v, E s v ↔ v = t) (r : Reached E (put M s) t M') : Reached E M s M' := by
  refine reached_of (fun y hy => r.old y (put_old hy)) (r.old s put_self) ?_ ?_
  · intro u v hu hn e
    by_cases hs : u = s
    · subst hs; rw [(he v).1 e]; exact r.self
    · exact r.closed hu (by rw [put_ne hs]; exact hn) e
  · intro y hy
    rcases (r y).1 hy with h1 | h1
    · rcases put_iff.1 h1 with rfl | h1
      · exact .inr (Clo.base h)
      · exact .inl h1
    · exact .inr (Clo.onward (fun _ => put_old) (Clo.base h) ((he t).2 rfl) h1)

theorem reached_two {t1 t2 : Nat} (h : M s = false) (he : ∀ v, E s v ↔ v = t1 ∨ v = t2) (r1 : Reached E (put M s) t1 M1) (r2 : Reached E M1 t2 M2) : Reached E M s M2 := by
  refine reached_of (fun y hy => r2.old y (r1.old y (put_old hy))) (r2.old s (r1.old s put_self)) ?_ ?_
  · intro u v hu hn e
    by_cases hs : u = s
    · subst hs
      rcases (he v).1 e with rfl | rfl
      · exact r2.old _ r1.self
      · exact r2.self
    · cases hm : M1 u with
      | false => exact r2.closed hu hm e
      | true => exact r2.old v (r1.closed hm (by rw [put_ne hs]; exact hn) e)
  · intro y hy
    rcases (r2 y).1 hy with h1 | h1
    · rcases (r1 y).1 h1 with h1 | h1
      · rcases put_iff.1 h1 with rfl | h1
        · exact .inr (Clo.base h)
        · exact .inl h1
      · exact .inr (Clo.onward (fun _ => put_old) (Clo.base h) ((he t1).2 (.inl rfl)) h1)
    · exact .inr (Clo.onward (fun y hy => r1.old y (put_old hy)) (Clo.base h) ((he t2).2 (.inr rfl)) h1)

/-- Reaching from s1, then from s2: the old set with all that is got to from either. -/
theorem reached_twice {S : Nat → Prop} (hS : ∀ s, S s ↔ s = s1 ∨ s = s2) (r1 : Reached E M s1 M1) (r2 : Reached E M1 s2 M2) : ReachedFrom E M S M2 := by
  intro y
  constructor
  · intro hy
    rcases (r2 y).1 hy with h | h
    · rcases (r1 y).1 h with h | h
      · exact .inl h
      · exact .inr ⟨s1, (hS _).2 (.inl rfl), h⟩
    · exact .inr ⟨s2, (hS _).2 (.inr rfl), h.less r1.old⟩
  · rintro (h | ⟨s, hs, h⟩)
    · exact r2.old y (r1.old y h)
    · rcases (hS s).1 hs with rfl | rfl
      · exact r2.old y ((r1 y).2 (.inr h))
      · refine (h (fun z => M2 z = true ∧ M z = false) (fun hz => ⟨r2.self, hz⟩) ?_).1
        intro a b ⟨ha, hn⟩ e hb
        refine ⟨?_, hb⟩
        cases hm : M1 a with
        | false => exact r2.closed ha hm e
        | true => exact r2.old b (r1.closed hm hn e)

theorem reached_from_one {S : Nat → Prop} (hS : ∀ t, S t ↔ t = s) (r : Reached E M s M') : ReachedFrom E M S M' := by
  intro y
  rw [r y]
  constructor
  · rintro (h | h)
    · exact .inl h
    · exact .inr ⟨s, (hS s).2 rfl, h⟩
  · rintro (h | ⟨t, ht, h⟩)
    · exact .inl h
    · exact .inr ((hS t).1 ht ▸ h)

/-- The two ways give one set. -/
theorem ReachedFrom.unique {S : Nat → Prop} (a : ReachedFrom E M S M1) (b : ReachedFrom E M S M2) (x : Nat) : M1 x = M2 x := by
  rw [Bool.eq_iff_iff, a x, b x]

/-! ### how many states are marked among the first L -/
def cnt (M : Nat → Bool) : Nat → Nat
  | 0 => 0
  | L + 1 => cnt M L + (if M L = true then 1 else 0)
theorem cnt_le : cnt M L ≤ L := by
  induction L with
  | zero => exact Nat.le_refl _
  | succ L ih => unfold cnt; split <;> omega
theorem cnt_lt (hx : x < L) (h : M x = false) : cnt M L < L := by
  induction L with
  | zero => omega
  | succ L ih =>
    unfold cnt
    by_cases e : x = L
    · subst e; have := cnt_le (M := M) (L := x); simp [h]; omega
    · have := ih (by omega); split <;> omega
theorem cnt_mono (h : ∀ y, M y = true → M1 y = true) : cnt M L ≤ cnt M1 L := by
  induction L with
  | zero => exact Nat.le_refl _
  | succ L ih =>
    unfold cnt
    by_cases e : M L = true
    · rw [if_pos e, if_pos (h L e)]; omega
    · rw [if_neg e]; split <;> omega
theorem cnt_put_ge (h : L ≤ s) : cnt (put M s) L = cnt M L := by
  induction L with
  | zero => rfl
  | succ L ih => unfold cnt; rw [ih (by omega), put_ne (by omega)]
theorem cnt_put (hx : s < L) (h : M s = false) : cnt (put M s) L = cnt M L + 1 := by
  induction L with
  | zero => omega
  | succ L ih =>
    unfold cnt
    by_cases e : s = L
    · subst e; rw [cnt_put_ge (Nat.le_refl _)]; simp [put_self, h]
    · rw [ih (by omega), put_ne (fun h => e h.symm)]; omega

/-! ### the queue: breadth first -/
/-- W: what is marked; Q: the queue so far; the first h of it have been looked at; L: how many cells. -/
structure Bfs (E : Nat → Nat → Prop) (M : Nat → Bool) (S : Nat → Prop) (n L : Nat) (W : Nat → Bool) (Q : List Nat) (h : Nat) : Prop where
  mark : ∀ x, W x = true ↔ M x = true ∨ x ∈ Q
  from_ : ∀ x ∈ Q, x ≤ n ∧ ∃ s, S s ∧ Clo E M s x
  done : ∀ i x, i < h → Q[i]? = some x → ∀ v, E x v → W v = true
  count : Q.length + cnt M L = cnt W L

theorem Bfs.start {S : Nat → Prop} : Bfs E M S n L M [] 0 :=
  ⟨fun x => by simp, fun x hx => by simp at hx, fun i x hi => by omega, by simp⟩

theorem Bfs.len {S : Nat → Prop} {Q : List Nat} {h : Nat} (b : Bfs E M S n L W Q h) : Q.length ≤ L := by
  have := b.count; have := cnt_le (M := W) (L := L); omega

theorem Bfs.weaker {S S' : Nat → Prop} {Q : List Nat} {h : Nat} (b : Bfs E M S n L W Q h) (hS : ∀ s, S s → S' s) : Bfs E M S' n L W Q h :=
  ⟨b.mark, fun x hx => by obtain ⟨h1, s, hs, hc⟩ := b.from_ x hx; exact ⟨h1, s, hS s hs, hc⟩, b.done, b.count⟩

theorem Bfs.newM {S : Nat → Prop} {Q : List Nat} {h : Nat} (b : Bfs E M S n L W Q h) (hx : W x = false) : M x = false := by
  cases hm : M x with
  | false => rfl
  | true => rw [(b.mark x).2 (.inl hm)] at hx; cases hx

/-- x is marked and queued. -/
theorem Bfs.push {S : Nat → Prop} {Q : List Nat} {h : Nat} (b : Bfs E M S n L W Q h) (hx : W x = false) (hn : x ≤ n) (hL : x < L) (hh : h ≤ Q.length) (hc : ∃ s, S s ∧ Clo E M s x) :
    Bfs E M S n L (put W x) (Q ++ [x]) h := by
  refine ⟨fun y => ?_, fun y hy => ?_, fun i y hi hy v e => ?_, ?_⟩
  · rw [put_iff, b.mark y, List.mem_append, List.mem_singleton, or_comm, or_assoc]
  · rcases List.mem_append.1 hy with hy | hy
    · exact b.from_ y hy
    · simp at hy; subst hy; exact ⟨hn, hc⟩
  · rw [List.getElem?_append_left (by omega)] at hy
    exact put_old (b.done i y hi hy v e)
  · rw [cnt_put hL hx, ← b.count]; simp; omega

/-- The state at place h has been looked at: all its moves lead to marked states. -/
theorem Bfs.next {S : Nat → Prop} {Q : List Nat} {h : Nat} (b : Bfs E M S n L W Q h) (hx : Q[h]? = some x) (hv : ∀ v, E x v → W v = true) : Bfs E M S n L W Q (h + 1) := by
  refine ⟨b.mark, b.from_, fun i y hi hy v e => ?_, b.count⟩
  by_cases e1 : i = h
  · subst e1; rw [hx] at hy; cases hy; exact hv v e
  · exact b.done i y (by omega) hy v e

/-- From the state at place h onward. -/
theorem Bfs.onward {S : Nat → Prop} {Q : List Nat} {h : Nat} (b : Bfs E M S n L W Q h) (hx : Q[h]? = some x) (e : E x v) (hv : W v = false) : ∃ s, S s ∧ Clo E M s v := by
  obtain ⟨_, s, hs, hc⟩ := b.from_ x (List.mem_of_getElem? hx)
  exact ⟨s, hs, hc.step e (b.newM hv)⟩

theorem Bfs.end_ {S : Nat → Prop} {Q : List Nat} {h : Nat} (b : Bfs E M S n L W Q h) (hh : Q.length ≤ h) (hS : ∀ s, S s → W s = true) : ReachedFrom E M S W := by
  intro y
  constructor
  · intro hy
    rcases (b.mark y).1 hy with h1 | h1
    · exact .inl h1
    · exact .inr (b.from_ y h1).2
  · rintro (h1 | ⟨s, hs, hc⟩)
    · exact (b.mark y).2 (.inl h1)
    · refine hc (fun z => W z = true ∧ M z = false) (fun hz => ⟨hS s hs, hz⟩) ?_ |>.1
      intro a c ⟨ha, hn⟩ e hcn
      refine ⟨?_, hcn⟩
      rcases (b.mark a).1 ha with h1 | h1
      · rw [h1] at hn; cases hn
      · obtain ⟨i, hi⟩ := List.getElem?_of_mem h1
        have hil : i < Q.length := by
          rcases Nat.lt_or_ge i Q.length with h | h
          · exact h
          · rw [List.getElem?_eq_none h] at hi; cases hi
        exact b.done i a (by omega) hi c e

/-! ### the moves of a program of steps -/
def Mv (ops tos : Nat → Int) (n : Nat) (u v : Nat) : Prop :=
  u < n ∧ ((ops u = 4 ∨ ops u = 5) ∧ v = u + 1 ∨ ops u = 6 ∧ (v = u + 1 ∨ v = (tos u).toNat))
end Go.Proofs.Qxb6623461a.Plain
