/-
  'Rows.FnOperationsAreSortedDistinctNamesOfPairsSaid': the argument opened, the row's step and the statement. The frame is the guide's (howto/shells/proof-skeleton.mjs, a law over slices), turned to this function's parameter.
-/
import Derived.Test.Qxb6617543aLaw
import Derived.ProofKit
import Derived.OpenShut
import Derived.ShutString
import Derived.ChangeOld
import Derived.Below
import Derived.Deep.Slices
namespace Go.Proofs.Qxb6617543a
open Go.ChangeShapes Go.WideShapes Go.ChangeAt Go.RowKit Go.Deep

theorem own : ownKnob Try.prog.godebug = none := by kernel_rfl

theorem inS_pairs {H : Type} {enc : TypeId × Value → H} {W : World} {a : Option Addr} {len cap : Nat} {d : DataW H} {ps : List MemPlace}
    (h : DataW.Trod enc Try.prog W 0 (fun _ => true) true 22 (.slice a len cap) d ps) : ∃ S : Nat → ByteArray, InS W a len 2 (fun j => .string (S j)) ∧ ∀ j, j < len * 2 → (S j).size ≤ maxLen := by
  have hc2 : Try.prog.cellsOf 24 = 2 := by kernel_rfl
  obtain ⟨fuel, hf⟩ := h
  rcases open_slice Try.underlying22 hf with ⟨hcs, _⟩ | ⟨x, l, c, m, n, D, Pl, hcs, _, hl, hm, hmm, _, hx⟩
  · simp [Value.cells] at hcs
    obtain ⟨rfl, rfl, rfl⟩ := hcs
    exact ⟨fun _ => ByteArray.empty, .inl ⟨rfl, rfl⟩, by omega⟩
  · simp [Value.cells] at hcs
    obtain ⟨rfl, rfl, rfl⟩ := hcs
    simp only [if_true] at hmm
    subst hmm
    rw [hc2] at hx
    obtain ⟨f, hf'⟩ := choose_lt (α := ByteArray) (n := m * 2) (p := fun j z => W.cell? (x.add j) = some (.string z) ∧ z.size ≤ maxLen) (fun j hj => by
      obtain ⟨cs', h1, h2⟩ := hx (j / 2) (by omega)
      obtain ⟨_, hlen, hce⟩ := World.cells?_some h1
      match cs', hlen with
      | [v0, v1], _ =>
        obtain ⟨xs, q, _, _, _, hxl, hxs⟩ := DataW.trod_array Try.underlying24 h2
        have t0 := hxs 0 (by omega)
        have t1 := hxs 1 (by omega)
        rw [cells9] at t0 t1
        simp only [Nat.zero_mul, Nat.one_mul, List.drop_zero, List.drop_succ_cons, List.take_succ_cons, List.take_zero] at t0 t1
        rw [List.getElem?_eq_getElem (by omega)] at t0 t1
        obtain ⟨z0, e0, _, b0⟩ := DataW.trod_string Try.underlying9 t0
        obtain ⟨z1, e1, _, b1⟩ := DataW.trod_string Try.underlying9 t1
        simp at e0 e1
        subst e0 e1
        have hj2 := hce (j % 2) (by omega)
        rw [Deep.add_add, show j / 2 * 2 + j % 2 = j by omega] at hj2
        have : j % 2 = 0 ∨ j % 2 = 1 := by omega
        rcases this with e | e
        · rw [e] at hj2; exact ⟨z0, hj2, b0⟩
        · rw [e] at hj2; exact ⟨z1, hj2, b1⟩)
    exact ⟨f, .inr ⟨_, rfl, fun j hj => (hf' j (by have := Nat.mul_le_mul_right 2 hl; omega)).1⟩, fun j hj => (hf' j (by have := Nat.mul_le_mul_right 2 hl; omega)).2⟩

set_option maxRecDepth 100000 in
theorem lifted (os : Os) (started : os.Started) (H : Type) (enc : TypeId × Value → H) :
    ReturnsInHanded {} Try.checked os 3 .any (Rows.fnOperationsAreSortedDistinctNamesOfPairsSpec.pre6 enc Try.prog Try.f3 Rows.fnOperationsAreSortedDistinctNamesOfPairsRow.domain false) (Rows.fnOperationsAreSortedDistinctNamesOfPairsSpec.post enc Try.prog Try.f3 false true false false) := by
  refine returnsInHanded_of_change (C := Try.checked) own started (by kernel_rfl) Try.func3
    (ChangeSpec.witness6 (enc := enc) (C := Try.checked) false ⟨#[], #[.slice none 0 0], []⟩ 8 (by kernel_rfl) (by kernel_rfl) (by kernel_rfl) (by kernel_rfl)) ?_
  intro W base args ds gs before hval0 hW hcnd _
  have hval : ∀ (j : Nat) t v, Try.f3.params[j]? = some t → args[j]? = some v → Value.okWide Try.prog W .any base t v := hval0
  have hW' := hW
  obtain ⟨p, q, hA0, hV, rfl, hfz, hnd⟩ := hW
  have hA : DataW.TrodAll enc Try.prog W 0 (fun _ => true) true Try.f3.params.toList args.toList ds p := hA0
  rw [Try.params3] at hA hval
  obtain ⟨v0, vs0, d0, ds0, p0, q0, hargs, rfl, rfl, h0, r0⟩ := trodAll_cons hA
  obtain ⟨rfl, rfl, rfl⟩ := trodAll_nil r0
  obtain rfl : args = #[v0] := by cases args; simp_all
  obtain ⟨rfl, rfl⟩ := trodVars_none hV
  obtain ⟨a0, len0, cap0, rfl⟩ := okWide_slice Try.underlying22 (hval 0 22 v0 rfl rfl)
  have lt0 : ∀ x ∈ p0, x.block < W.heap.size := by obtain ⟨m, hm⟩ := h0; exact DataW.trod_lt m _ _ _ hm
  obtain ⟨S, w0, w1⟩ := inS_pairs h0
  clear hA0 hval0
  refine (walk3 a0 len0 cap0 S W w0 w1).mono fun e W' ⟨he, bel⟩ => ?_
  subst he
  exact ⟨_, rfl, _, _, _, [], _, [], hW', trodAll_mk1 (shut_bool Try.underlying4 _), (trodAll_cons_mk (Below.trod laidOut (by kernel_rfl) (of_decide_eq_true (by kernel_rfl)) h0 bel lt0) trodAll_mk0), rfl, bel.frame _, fun h => by cases h⟩

theorem over : Rows.fnOperationsAreSortedDistinctNamesOfPairsRow.holds Try.pinned (OpenSpec.ofChange Rows.fnOperationsAreSortedDistinctNamesOfPairsSpec) :=
  OpenClaim.holds_of_wide 3 Try.f3 rfl rfl rfl rfl rfl rfl rfl ⟨rfl, rfl, rfl, rfl, rfl⟩ rfl rfl rfl rfl rfl (by kernel_rfl) Try.func3 (by kernel_rfl)
    (of_decide_eq_true (by kernel_rfl)) (by unfold Func.isWrapper; first | (rw [if_pos (by decide +kernel)]; kernel_rfl) | (rw [if_neg (by decide +kernel)]; exact ⟨rfl, rfl⟩))
    (fun os started H enc _ => lifted os started H enc)

/-- THE STATEMENT. -/
theorem fnOperations_proved : Rows.FnOperationsAreSortedDistinctNamesOfPairsSaid := over
#print axioms fnOperations_proved
end Go.Proofs.Qxb6617543a
