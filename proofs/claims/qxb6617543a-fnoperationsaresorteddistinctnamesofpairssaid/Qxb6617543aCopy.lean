/-
  'zzc := make([]T, len(x)); copy(zzc, x)': a whole new row; slices that came in.
-/
import Derived.Test.Qxb6617543aOps
import Derived.Laws.CopyOwn
import Derived.Deep.DeepCutAuto
namespace Go.Proofs.Qxb6617543a
open Go.RowKit

theorem size_setCell (w : World) (a : Addr) (v : Value) : (w.setCell a v).heap.size = w.heap.size := by simp [World.setCell]

theorem alloc_setRow (w : World) (cur new : Array Value) (E : TypeId) (cs : List Value) (h : new = cs.toArray) : (w.alloc (.cells cur E)).setRow w.heap.size new = w.alloc (.cells cs.toArray E) := by
  subst h
  show ({ w with heap := _ } : World) = { w with heap := _ }
  congr 1
  apply Array.ext_getElem?
  intro i
  show ((w.heap.push (.cells cur E)).modify w.heap.size _)[i]? = (w.heap.push (.cells cs.toArray E))[i]?
  rw [Array.getElem?_modify]
  by_cases e : w.heap.size = i
  · subst e; simp
  · rw [if_neg e, Array.getElem?_push, Array.getElem?_push, if_neg (by omega), if_neg (by omega)]

/-- A whole row copied into the block that has just been made for it. -/
theorem run_copy_new {P : Program} (w : World) (T ty E : TypeId) (k n c : Nat) (a : Addr) (cur : Array Value) (cs : List Value) (hu : P.underlying T = some (.slice E)) (hs : (P.info? E).map (·.size) = some k)
    (hcur : cur.size = n * k) (hcs : cs.length = n * k) (hsrc : ∀ j v, cs[j]? = some v → w.cell? (a.add j) = some v) (h1 : ∀ v ∈ cs, v.oneCell' = true) :
    (Builtin.copy_ #[T, T] ty #[.slice (some ⟨w.heap.size, 0, none⟩) n n, .slice (some a) n c]).run P (w.alloc (.cells cur E)) = .ok (goInt n) (w.alloc (.cells cs.toArray E)) := by
  have hb : Below w.heap.size w (w.alloc (.cells cur E)) := (Below.refl _ _).alloc (Nat.le_refl _) _
  have hl := run_loadCells_list (P := P) (w.alloc (.cells cur E)) a cs (fun j v hv => cell_later hb (hsrc j v hv))
  have hg : (w.alloc (.cells cur E)).heap[w.heap.size]? = some (.cells cur E (0, 0)) := Deep.blk_alloc_new _ _
  have hst := run_storeCells_at P w.heap.size 0 E cs 0 cur _ hg (by simp; omega) h1
  have hrow : (w.alloc (.cells cur E)).setRow w.heap.size (cur.toList.take (0 + 0) ++ cs ++ cur.toList.drop (0 + 0 + cs.length)).toArray = w.alloc (.cells cs.toArray E) := by
    have : cur.toList.drop (0 + 0 + cs.length) = [] := List.drop_eq_nil_of_le (by simp; omega)
    rw [this]
    exact alloc_setRow w cur _ E cs (by simp)
  rw [hrow] at hst
  cases hq : P.info? E with
  | none => simp [hq] at hs
  | some i =>
    have hi : i.size = k := by simpa [hq] using hs
    simp [Builtin.copy_, run_underlying hu, Builtin.lenOf, Builtin.firstCells, sizeOf, typeInfo, hq, hi, ← hcs, hl, hst]

/-- A slice that came in: nil; or 'n * k' cells lie there. -/
def InS (w : World) (a : Option Addr) (n k : Nat) (cs : Nat → Value) : Prop :=
  (a = none ∧ n = 0) ∨ ∃ x, a = some x ∧ ∀ j, j < n * k → w.cell? (x.add j) = some (cs j)

theorem Addr.add_plain' (b o j : Nat) : (⟨b, o, none⟩ : Addr).add j = ⟨b, o + j, none⟩ := by unfold Addr.add; split <;> simp_all

theorem InS.later {w w' : World} {a : Option Addr} {n k : Nat} {cs : Nat → Value} (h : InS w a n k cs) (hb : Below w.heap.size w w') : InS w' a n k cs := by
  rcases h with h | ⟨x, hx, hc⟩
  · exact .inl h
  · exact .inr ⟨x, hx, fun j hj => cell_later hb (hc j hj)⟩

/-- Where there is an element the slice lies in a plain block. -/
theorem InS.bare {w : World} {a : Option Addr} {n : Nat} {cs : Nat → Value} (h : InS w a n 1 cs) (hn : 0 < n) : ∃ b o, a = some ⟨b, o, none⟩ ∧ ∀ j, j < n → w.cell? ⟨b, o + j, none⟩ = some (cs j) := by
  rcases h with h | ⟨⟨b, o, sp⟩, hx, hc⟩
  · omega
  · have hc0 := hc 0 (by omega)
    have hsp : sp = none := by simpa [Addr.add] using World.cell?_spot hc0
    subst hsp
    exact ⟨b, o, hx, fun j hj => by rw [← Addr.add_plain']; exact hc j (by omega)⟩

theorem InS.bare2 {w : World} {a : Option Addr} {n k : Nat} {cs : Nat → Value} (h : InS w a n (k + 1) cs) : ∃ b o, (0 < n → a = some ⟨b, o, none⟩) ∧ ∀ j, j < n * (k + 1) → w.cell? ⟨b, o + j, none⟩ = some (cs j) := by
  rcases h with ⟨_, rfl⟩ | ⟨⟨b, o, sp⟩, hx, hc⟩
  · exact ⟨0, 0, by omega, by simp⟩
  · by_cases hn : n = 0
    · subst hn; exact ⟨0, 0, by omega, by simp⟩
    · have hc0 := hc 0 (Nat.mul_pos (by omega) (by omega))
      have hsp : sp = none := by simpa [Addr.add] using World.cell?_spot hc0
      subst hsp
      exact ⟨b, o, fun _ => hx, fun j hj => by rw [← Addr.add_plain']; exact hc j hj⟩

/-- The value is a slice of n elements, from the head of a block on where there is one; its cells. -/
def Cp (w : World) (v : Value) (n k : Nat) (cs : Nat → Value) : Prop :=
  ∃ a c b, v = .slice a n c ∧ (0 < n → a = some ⟨b, 0, none⟩) ∧ ∀ j, j < n * k → w.cell? ⟨b, j, none⟩ = some (cs j)

theorem Cp.later {w w' : World} {v : Value} {n k : Nat} {cs : Nat → Value} (h : Cp w v n k cs) (hb : Below w.heap.size w w') : Cp w' v n k cs := by
  obtain ⟨a, c, b, hv, ha, hc⟩ := h
  exact ⟨a, c, b, hv, ha, fun j hj => cell_later hb (hc j hj)⟩

theorem cp_nil (w : World) (c k : Nat) (cs : Nat → Value) : Cp w (.slice none 0 c) 0 k cs := ⟨none, c, 0, rfl, by omega, by omega⟩

theorem cp_new (w : World) (n k : Nat) (cs : Nat → Value) (E : TypeId) : Cp (w.alloc (.cells ((List.range (n * k)).map cs).toArray E)) (.slice (some ⟨w.heap.size, 0, none⟩) n n) n k cs := by
  refine ⟨_, _, _, rfl, fun _ => rfl, fun j hj => ?_⟩
  have hr : (w.alloc (.cells ((List.range (n * k)).map cs).toArray E)).rowIs w.heap.size E (n * k) cs :=
    ⟨_, Deep.blk_alloc_new _ _, by simp, fun i hi => by simp [hi]⟩
  exact hr.cell hj

theorem cp_new1 (w : World) (n : Nat) (cs : Nat → Value) (E : TypeId) : Cp (w.alloc (.cells ((List.range n).map cs).toArray E)) (.slice (some ⟨w.heap.size, 0, none⟩) n n) n 1 cs := by
  have := cp_new w n 1 cs E
  rwa [Nat.mul_one] at this

theorem run_copy_in {P : Program} (w : World) (T E : TypeId) (k n c : Nat) (x : Addr) (cur : Array Value) (cs : Nat → Value) (hu : P.underlying T = some (.slice E)) (hs : (P.info? E).map (·.size) = some k)
    (hcur : cur.size = n * k) (hc : ∀ j, j < n * k → w.cell? (x.add j) = some (cs j)) (h1 : ∀ j, (cs j).oneCell' = true) (ty : TypeId) :
    (Builtin.copy_ #[T, T] ty #[.slice (some ⟨w.heap.size, 0, none⟩) n n, .slice (some x) n c]).run P (w.alloc (.cells cur E)) = .ok (goInt n) (w.alloc (.cells ((List.range (n * k)).map cs).toArray E)) := by
  refine run_copy_new w T ty E k n c x cur _ hu hs hcur (by simp) (fun j v hv => ?_) (fun v hv => ?_)
  · have hj : j < n * k := by
      have := (List.getElem?_eq_some_iff.1 hv).1
      simpa using this
    rw [hc j hj]
    simpa [hj] using hv
  · obtain ⟨j, _, rfl⟩ := List.mem_map.1 hv
    exact h1 j

end Go.Proofs.Qxb6617543a
