/-
  THE ARGUMENTS OPENED: each slice as 'InS' tells it to the walk.
-/
import Derived.Test.Qxb6623461aCopy
import Derived.ProofKit
import Derived.OpenShut
import Derived.ShutString
import Derived.ChangeOld
import Derived.Below
import Derived.Deep.Slices
import Derived.Laws.IdiomArrays
namespace Go.Proofs.Qxb6623461a
open Go.ChangeShapes Go.WideShapes Go.ChangeAt Go.RowKit Go.Deep

theorem own : ownKnob Try.prog.godebug = none := by kernel_rfl
theorem laidOut : laidOutB Try.prog = true := by kernel_rfl

theorem inS_ints {H : Type} {enc : TypeId × Value → H} {W : World} {T E : TypeId} {k : IntKind} {a : Option Addr} {len cap : Nat} {d : DataW H} {ps : List MemPlace}
    (hT : Try.prog.underlying T = some (.slice E)) (hE : Try.prog.underlying E = some (.int k)) (hc : Try.prog.cellsOf E = 1)
    (h : DataW.Trod enc Try.prog W 0 (fun _ => true) true T (.slice a len cap) d ps) : ∃ f : Nat → Int, InS W a len 1 (fun j => .int k (f j)) := by
  obtain ⟨fuel, hf⟩ := h
  rcases open_ints hT hE hc hf with ⟨hcs, _⟩ | ⟨x, l, c, zs, hcs, _, hl, hm, hz, _, hcell, _⟩
  · simp [Value.cells] at hcs
    obtain ⟨rfl, rfl, rfl⟩ := hcs
    exact ⟨fun _ => 0, .inl ⟨rfl, rfl⟩⟩
  · simp [Value.cells] at hcs
    obtain ⟨rfl, rfl, rfl⟩ := hcs
    exact ⟨fun j => zs.getD j 0, .inr ⟨_, rfl, fun j hj => hcell j (by simp at hz; omega)⟩⟩

theorem inS_bools {H : Type} {enc : TypeId × Value → H} {W : World} {T E : TypeId} {a : Option Addr} {len cap : Nat} {d : DataW H} {ps : List MemPlace}
    (hT : Try.prog.underlying T = some (.slice E)) (hE : Try.prog.underlying E = some .bool) (hc : Try.prog.cellsOf E = 1)
    (h : DataW.Trod enc Try.prog W 0 (fun _ => true) true T (.slice a len cap) d ps) : ∃ f : Nat → Bool, InS W a len 1 (fun j => .bool (f j)) := by
  obtain ⟨fuel, hf⟩ := h
  rcases open_slice1 hT hc hf with ⟨hcs, _⟩ | ⟨x, l, c, m, n, V, D, Pl, hcs, _, hl, hm, hmm, _, hx⟩
  · simp [Value.cells] at hcs
    obtain ⟨rfl, rfl, rfl⟩ := hcs
    exact ⟨fun _ => false, .inl ⟨rfl, rfl⟩⟩
  · simp [Value.cells] at hcs
    obtain ⟨rfl, rfl, rfl⟩ := hcs
    simp only [if_true] at hmm
    subst hmm
    obtain ⟨B, hB⟩ := choose_lt (α := Bool) (p := fun i b => V i = .bool b) (fun i hi => by
      obtain ⟨b, h1, _⟩ := DataW.trod_bool hE (hx i hi).2
      exact ⟨b, by simpa using h1⟩)
    exact ⟨B, .inr ⟨_, rfl, fun j hj => by have := (hx j (by omega)).1; rwa [hB j (by omega)] at this⟩⟩

theorem inS_sets {H : Type} {enc : TypeId × Value → H} {W : World} {a : Option Addr} {len cap : Nat} {d : DataW H} {ps : List MemPlace}
    (h : DataW.Trod enc Try.prog W 0 (fun _ => true) true 24 (.slice a len cap) d ps) : ∃ f : Nat → Int, InS W a len 4 (fun j => .int .u64 (f j)) := by
  have hc4 : Try.prog.cellsOf 38 = 4 := by kernel_rfl
  have hc1 : Try.prog.cellsOf 37 = 1 := by kernel_rfl
  obtain ⟨fuel, hf⟩ := h
  rcases open_slice Try.underlying24 hf with ⟨hcs, _⟩ | ⟨x, l, c, m, n, D, Pl, hcs, _, hl, hm, hmm, _, hx⟩
  · simp [Value.cells] at hcs
    obtain ⟨rfl, rfl, rfl⟩ := hcs
    exact ⟨fun _ => 0, .inl ⟨rfl, rfl⟩⟩
  · simp [Value.cells] at hcs
    obtain ⟨rfl, rfl, rfl⟩ := hcs
    simp only [if_true] at hmm
    subst hmm
    rw [hc4] at hx
    obtain ⟨f, hf'⟩ := choose_lt (α := Int) (n := m * 4) (p := fun j z => W.cell? (x.add j) = some (.int .u64 z)) (fun j hj => by
      obtain ⟨cs', h1, h2⟩ := hx (j / 4) (by omega)
      obtain ⟨_, hlen, hce⟩ := World.cells?_some h1
      match cs', hlen with
      | [v0, v1, v2, v3], _ =>
        obtain ⟨y0, y1, y2, y3, q, _, t0, t1, t2, t3⟩ := trod_array4 Try.underlying38 hc1 h2
        obtain ⟨z0, e0, _⟩ := DataW.trod_int Try.underlying37 t0
        obtain ⟨z1, e1, _⟩ := DataW.trod_int Try.underlying37 t1
        obtain ⟨z2, e2, _⟩ := DataW.trod_int Try.underlying37 t2
        obtain ⟨z3, e3, _⟩ := DataW.trod_int Try.underlying37 t3
        simp at e0 e1 e2 e3
        subst e0 e1 e2 e3
        have hj4 := hce (j % 4) (by omega)
        rw [Deep.add_add, show j / 4 * 4 + j % 4 = j by omega] at hj4
        have : j % 4 = 0 ∨ j % 4 = 1 ∨ j % 4 = 2 ∨ j % 4 = 3 := by omega
        rcases this with e | e | e | e
        · rw [e] at hj4; exact ⟨z0, hj4⟩
        · rw [e] at hj4; exact ⟨z1, hj4⟩
        · rw [e] at hj4; exact ⟨z2, hj4⟩
        · rw [e] at hj4; exact ⟨z3, hj4⟩)
    exact ⟨f, .inr ⟨_, rfl, fun j hj => hf' j (by have := Nat.mul_le_mul_right 4 hl; omega)⟩⟩
end Go.Proofs.Qxb6623461a
