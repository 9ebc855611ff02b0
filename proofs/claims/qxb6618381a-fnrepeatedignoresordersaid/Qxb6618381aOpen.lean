/-
  THE ARGUMENT OPENED: the list of byte slices as the walk wants it.
-/
import Derived.Test.Qxb6618381aOwn
import Derived.ProofKit
import Derived.OpenShut
import Derived.ShutString
import Derived.ChangeOld
import Derived.Below
import Derived.Deep.Slices
import Derived.Deep.Matrix
namespace Go.Proofs.Qxb6618381a
open Go.ChangeShapes Go.WideShapes Go.ChangeAt Go.RowKit Go.Deep Plain

theorem own : ownKnob Try.prog.godebug = none := by kernel_rfl
theorem laidOut : laidOutB Try.prog = true := by kernel_rfl

theorem add_plain (b o j : Nat) : (⟨b, o, none⟩ : Addr).add j = ⟨b, o + j, none⟩ := by unfold Addr.add; split <;> simp_all

theorem cell_lt {W : World} {b o : Nat} {v : Value} (h : W.cell? ⟨b, o, none⟩ = some v) : b < W.heap.size := by
  obtain ⟨_, _, _, hb, _⟩ := Go.Sort.cells_of_cell? h
  exact (Array.getElem?_eq_some_iff.1 hb).1

theorem u8_wf {z : Int} (h : (Lit.int .u8 z).wf = true) : 0 ≤ z ∧ z < 256 := by
  have h' : (decide (IntKind.min .u8 ≤ z) && decide (z ≤ IntKind.max .u8)) = true := h
  rw [Bool.and_eq_true] at h'
  have e1 : IntKind.min .u8 = 0 := by decide
  have e2 : IntKind.max .u8 = 255 := by decide
  have h1 := of_decide_eq_true h'.1
  have h2 := of_decide_eq_true h'.2
  omega

theorem open_names {H : Type} {enc : TypeId × Value → H} {W : World} {a : Option Addr} {len cap : Nat} {d : DataW H} {ps : List MemPlace}
    (h : DataW.Trod enc Try.prog W 0 (fun _ => true) true 22 (.slice a len cap) d ps) :
    ∃ (b o : Nat) (A : Nat → Option Addr) (L C : Nat → Nat) (cs : Nat → Bs), (0 < len → a = some ⟨b, o, none⟩) ∧ (∀ i, i < len → W.cell? ⟨b, o + i, none⟩ = some (.slice (A i) (L i) (C i))) ∧
      ∀ i, i < len → L i ≤ 1048576 → BA W 0 W.heap.size (.slice (A i) (L i) (C i)) (cs i) := by
  obtain ⟨fuel, hf⟩ := h
  rcases open_int_rows Try.underlying22 Try.underlying24 Try.underlying5 (by kernel_rfl) (by kernel_rfl) hf with ⟨hcs, _⟩ | ⟨x, l, c, A, L, C, Z, hcs, _, hl, hm, _, hx⟩
  · simp [Value.cells] at hcs
    obtain ⟨rfl, rfl, rfl⟩ := hcs
    exact ⟨0, 0, fun _ => none, fun _ => 0, fun _ => 0, fun _ => [], by omega, by omega, by omega⟩
  · simp [Value.cells] at hcs
    obtain ⟨rfl, rfl, rfl⟩ := hcs
    have key : ∀ i, i < len → L i ≤ 1048576 → BA W 0 W.heap.size (.slice (A i) (L i) (C i)) (((Z i).take (L i)).map fun z => UInt8.ofNat z.toNat) := by
      intro i hi hL
      obtain ⟨_, h1, h2, h3, h4, h5, h6⟩ := hx i (by omega)
      have hlen : (((Z i).take (L i)).map fun z => UInt8.ofNat z.toNat).length = L i := by simp; omega
      have hget : ∀ j, j < L i → (((((Z i).take (L i)).map fun z => UInt8.ofNat z.toNat).getD j 0).toNat : Int) = (Z i).getD j 0 := by
        intro j hj
        have hjz : j < (Z i).length := by omega
        have hw := u8_wf (h4 _ (List.getElem_mem hjz))
        simp [List.getD, hj, hjz]
        omega
      cases hA : A i with
      | none =>
        have h0 : L i = 0 := by have := h5 hA; omega
        refine ⟨by rw [hlen]; exact hL, none, C i, 0, 0, by rw [hlen], fun h => by omega, fun j hj => by omega⟩
      | some y =>
        obtain ⟨_, hc⟩ := h6 y hA
        obtain ⟨b, o, sp⟩ := y
        by_cases h0 : 0 < L i
        · have hc0 := hc 0 (by omega)
          have hsp : sp = none := by simpa [Addr.add] using World.cell?_spot hc0
          subst hsp
          refine ⟨by rw [hlen]; exact hL, _, C i, b, o, by rw [hlen], fun _ => ⟨rfl, Nat.zero_le _, ?_⟩, fun j hj => ?_⟩
          · rw [add_plain] at hc0; exact cell_lt hc0
          · rw [hlen] at hj
            have := hc j (by omega)
            rw [add_plain] at this
            rw [this, hget j hj]
        · exact ⟨by rw [hlen]; exact hL, _, C i, b, o, by rw [hlen], fun h => by omega, fun j hj => by omega⟩
    by_cases h0 : 0 < len
    · obtain ⟨b, o, sp⟩ := x
      have hc0 := (hx 0 (by omega)).1
      have hsp : sp = none := by simpa [Addr.add] using World.cell?_spot hc0
      subst hsp
      exact ⟨b, o, A, L, C, _, fun _ => rfl, fun i hi => by rw [← add_plain]; exact (hx i (by omega)).1, key⟩
    · exact ⟨0, 0, A, L, C, _, by omega, fun i hi => by omega, key⟩
end Go.Proofs.Qxb6618381a
