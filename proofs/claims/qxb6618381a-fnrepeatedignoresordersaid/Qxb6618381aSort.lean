/-
  The sorted list: what both sorts leave behind; slices.SortFunc (15) under bytes.Compare (16).
-/
import Derived.Test.Qxb6618381aOcc
import Derived.Test.Qxb6618381aShelf
import Derived.Sort.LotA
namespace Go.Proofs.Qxb6618381a
open Go.RowKit Plain Go.Sort

/-- All blocks but one as they were. -/
structure Kp (r : Nat) (w w' : World) : Prop where
  os : w'.os = w.os
  tape : w'.tape = w.tape
  output : w'.output = w.output
  size : w.heap.size ≤ w'.heap.size
  block : ∀ k, k < w.heap.size → k ≠ r → w'.heap[k]? = w.heap[k]?

theorem Kp.refl (r : Nat) (w : World) : Kp r w w := ⟨rfl, rfl, rfl, Nat.le_refl _, fun _ _ _ => rfl⟩
theorem Kp.drew {r m : Nat} {w w' : World} (h : Kp r w w') : Kp r w (w'.drewN m) := ⟨h.os, h.tape, h.output, h.size, h.block⟩
theorem Kp.below {r B : Nat} {a w w' : World} (h : Kp r w w') (k : Below B a w) (hr : B ≤ r) (hB : B ≤ w.heap.size) : Below B a w' :=
  ⟨h.os.trans k.os, h.tape.trans k.tape, h.output.trans k.output, Nat.le_trans k.size h.size, fun i hi => (h.block i (by omega) (by omega)).trans (k.block i hi)⟩

section
variable {α : Type} [Inhabited α]
theorem sw_kp (enc : α → Value) (w : World) (rb m : Nat) (d : Array α) (os : Array Obj) : Kp rb w (sortWorld enc w rb 0 m d os) := by
  refine ⟨rfl, rfl, rfl, ?_, fun k hk hne => ?_⟩
  · simp [sortWorld, grow, putRow, mapBlock, Sort.ahead]
  · simp only [sortWorld, grow, putRow, mapBlock, Sort.ahead]
    rw [Array.getElem?_append_left (by simpa using hk), Array.getElem?_modify, if_neg (Ne.symm hne)]
end

/-- A row of slices in its block, to be read. -/
def LRb (w : World) (rb : Nat) (v : Value) (n : Nat) (V : Nat → Value) : Prop :=
  ∃ a c, v = .slice a n c ∧ (0 < n → a = some ⟨rb, 0, none⟩ ∧ rb < w.heap.size) ∧ ∀ j, j < n → w.cell? ⟨rb, j, none⟩ = some (V j)

theorem LRb.lr {w : World} {rb n : Nat} {v : Value} {V : Nat → Value} (h : LRb w rb v n V) : LR w v n V := by
  obtain ⟨a, c, hv, ha, hc⟩ := h
  exact ⟨a, c, rb, 0, hv, fun h => (ha h).1, fun j hj => by rw [Nat.zero_add]; exact hc j hj⟩

theorem LRb.drew {w : World} {rb n m : Nat} {v : Value} {V : Nat → Value} (h : LRb w rb v n V) : LRb (w.drewN m) rb v n V := h

theorem LRb.keep {w w' : World} {rb n : Nat} {v : Value} {V : Nat → Value} (h : LRb w rb v n V) (hs : w.heap.size ≤ w'.heap.size) (hb : rb < w.heap.size → w'.heap[rb]? = w.heap[rb]?) : LRb w' rb v n V := by
  obtain ⟨a, c, hv, ha, hc⟩ := h
  refine ⟨a, c, hv, fun h => ⟨(ha h).1, by have := (ha h).2; omega⟩, fun j hj => ?_⟩
  rw [← hc j hj]
  exact World.cell?_of_block (w := w) (hb (ha (by omega)).2)

/-- What a sort leaves behind. -/
def SortedW (w : World) (rb lo hi : Nat) (v : Value) (n : Nat) (cs : Nat → Bs) (w' : World) : Prop :=
  ∃ V' cs', LRb w' rb v n V' ∧ (∀ i, i < n → BA w' lo hi (V' i) (cs' i)) ∧ (lof cs' n).Perm (lof cs n) ∧ Asc cs' n ∧ Kp rb w w'

/-- The families, whole. -/
def tV (V : Nat → Value) (n i : Nat) : Value := if i < n then V i else .slice none 0 0
def tC (cs : Nat → Bs) (n i : Nat) : Bs := if i < n then cs i else []
def cfN (cs : Nat → Bs) (n x y : Nat) : Int := cmpL (tC cs n x) (tC cs n y)

theorem t_ba {w : World} {lo hi n : Nat} {V : Nat → Value} {cs : Nat → Bs} (hb : ∀ i, i < n → BA w lo hi (V i) (cs i)) (x : Nat) : BA w lo hi (tV V n x) (tC cs n x) := by
  unfold tV tC
  by_cases h : x < n
  · rw [if_pos h, if_pos h]; exact hb x h
  · rw [if_neg h, if_neg h]; exact ba_nil _ _ _ _ _

theorem ltN (cs : Nat → Bs) (n x y : Nat) : ltOf (cfN cs n) x y = decide (tC cs n x < tC cs n y) := by
  unfold ltOf cfN
  rw [decide_eq_decide]
  exact cmpL_neg
theorem swoN (cs : Nat → Bs) (n : Nat) : SWO (ltOf (cfN cs n)) where
  irrefl x := by rw [ltN]; exact decide_eq_false (List.lt_irrefl _)
  trans x y z h1 h2 := by
    rw [ltN] at *
    exact decide_eq_true (List.lt_trans (of_decide_eq_true h1) (of_decide_eq_true h2))
  ntrans x y z h1 h2 := by
    rw [ltN] at *
    have h1' := List.not_lt.1 (of_decide_eq_false h1)
    have h2' := List.not_lt.1 (of_decide_eq_false h2)
    exact decide_eq_false (List.not_lt.2 (List.le_trans h2' h1'))

theorem oneN {w : World} {lo hi n : Nat} {V : Nat → Value} {cs : Nat → Bs} (hb : ∀ i, i < n → BA w lo hi (V i) (cs i)) : OneCell (tV V n) := fun x => (t_ba hb x).one

theorem holdsN {w : World} {rb n : Nat} {V : Nat → Value} (h : w.rowIs rb 24 n V) : Holds (tV V n) w rb 0 (Array.range n) := by
  intro j hj
  have hj' : j < n := by simpa using hj
  rw [Nat.zero_add]
  refine ⟨?_, h.frozen j⟩
  rw [h.cell hj', getElem!_pos _ j hj]
  simp [tV, hj']

theorem sortedW_of {w : World} {rb lo hi n m c : Nat} {V : Nat → Value} {cs : Nat → Bs} {d' : Array Nat} {os : Array Obj} (hr : w.rowIs rb 24 n V) (hb : ∀ i, i < n → BA w lo hi (V i) (cs i)) (hhi : hi ≤ w.heap.size) (hrb : rb < lo)
    (hp : PermIn 0 n (Array.range n) d') (hs : SortedIn (ltOf (cfN cs n)) 0 n d') : SortedW w rb lo hi (.slice (some ⟨rb, 0, none⟩) n c) n cs (sortWorld (tV V n) w rb 0 m d' os) := by
  have hk := sw_kp (tV V n) w rb m d' os
  have hsz : d'.size = n := by simpa using hp.1
  have hlt := hr.lt
  refine ⟨fun i => tV V n d'[i]!, fun i => tC cs n d'[i]!, ⟨_, _, rfl, fun _ => ⟨rfl, by have := hk.size; omega⟩, fun j hj => ?_⟩, fun i hi => ?_, ?_, fun i j hij hj => ?_, hk⟩
  · have hc := cell?_putRow (tV V n) (Sort.ahead w m) rb 0 (Array.range n) d' (holds_ahead _ _ _ _ _ _ (holdsN hr)) (by simpa using hp.1) j (by omega)
    rw [Nat.zero_add] at hc
    rw [← hc]
    refine World.cell?_of_block (w := putRow (tV V n) (Sort.ahead w m) rb 0 d') ?_
    show (sortWorld (tV V n) w rb 0 m d' os).heap[rb]? = _
    simp only [sortWorld, grow]
    rw [Array.getElem?_append_left (by simpa using hlt)]
  · exact (t_ba hb _).keep (fun b h1 h2 => hk.block b (by omega) (by omega))
  · have h3 := hp.2.2
    have e1 : (d'.extract 0 n).toList = d'.toList := by rw [← hsz]; simp
    have e2 : ((Array.range n).extract 0 n).toList = List.range n := by
      have : (Array.range n).extract 0 n = Array.range n := by
        simp
      rw [this]; simp
    rw [e1, e2] at h3
    have h4 := h3.map (tC cs n)
    have e3 : d'.toList.map (tC cs n) = lof (fun i => tC cs n d'[i]!) n := by
      unfold lof
      apply List.ext_getElem?
      intro i
      by_cases hi : i < n
      · simp [hi, hsz]
      · simp [hi, hsz]
    have e4 : (List.range n).map (tC cs n) = lof cs n := by
      unfold lof
      apply List.map_congr_left
      intro x hx
      simp [tC, List.mem_range.1 hx]
    rw [e3, e4] at h4
    exact h4
  · have := hs i j (Nat.zero_le _) hij hj
    rw [ltN] at this
    exact List.not_lt.1 (of_decide_eq_false this)

theorem sortFunc_any {w : World} {rb lo hi n : Nat} {v : Value} {V : Nat → Value} {cs : Nat → Bs} (hn : n ≤ 1048576) (hv : Ls w rb v n V) (hb : ∀ i, i < n → BA w lo hi (V i) (cs i)) (hhi : hi ≤ w.heap.size) (hrb : rb < lo) :
    Calls Try.prog 15 #[v, .func (.func 16) #[] #[]] w fun e w' => e = .returned (.tuple #[]) ∧ SortedW w rb lo hi v n cs w' := by
  obtain ⟨a, c, rfl, ha⟩ := hv
  by_cases h0 : 0 < n
  · obtain ⟨rfl, hr⟩ := ha h0
    have eg : ∀ args w, (callFunc 16 args).run Try.prog w = .ok (.enter 16 args) w := enters_of Try.func16 (by kernel_rfl) rfl
    have hcmp : CmpReads Try.prog 16 #[] (tV V n) (cfN cs n) rb 0 (Array.range n).size w := fun m os dk _ x y => by
      have hk := sw_kp (tV V n) w rb m dk os
      have kp : ∀ b, lo ≤ b → b < hi → (sortWorld (tV V n) w rb 0 m dk os).heap[b]? = w.heap[b]? := fun b h1 h2 => hk.block b (by omega) (by omega)
      exact (compare_any ((t_ba hb x).keep kp) ((t_ba hb y).keep kp)).mono fun _ _ ⟨he, hw⟩ => ⟨he, 0, hw⟩
    have hS := Any.slices_SortFunc Try.sortL (tV V n) (oneN hb) (cfN cs n) (swoN cs n) 16 #[] rb 0 c (Array.range n) w eg hcmp.lays (holdsN hr) hr.lt (by simp; omega)
    rw [Array.size_range] at hS
    refine Calls.mono hS ?_
    rintro e w' ⟨he, d', m, os, hp, hs, rfl⟩
    exact ⟨he, sortedW_of hr hb hhi hrb hp hs⟩
  · have : n = 0 := by omega
    subst this
    have hS := AnyF.slices_SortFunc_none (P := Try.prog) (ρ := Try.sortL_ren) { Try.sortL with } a c (.func (.func 16) #[] #[]) w
    refine Calls.mono hS ?_
    rintro e w' ⟨he, rfl⟩
    exact ⟨he, V, cs, ⟨_, _, rfl, by omega, by omega⟩, by omega, .rfl, fun _ _ _ h => by omega, Kp.refl _ _⟩
end Go.Proofs.Qxb6618381a
