/-
  THE MAP's KEYS: a pair of strings ([2]string).
-/
import Derived.Test.Qxb6617543aRows
import Derived.DeepKeys5
import Derived.Maps.Keyed
namespace Go.Proofs.Qxb6617543a
open Go.Maps

theorem laidOut : laidOutB Try.prog = true := by kernel_rfl
theorem keyType33 : Try.prog.keyType 33 = true := by kernel_rfl
theorem size33 : (33 : Nat) < Try.prog.types.size := of_decide_eq_true (by kernel_rfl)
theorem small33 : Try.prog.types.size + 2 ≤ 10000 := of_decide_eq_true (by kernel_rfl)
theorem cells33 : Try.prog.cellsOf 33 = 2 := by kernel_rfl
theorem cells9 : Try.prog.cellsOf 9 = 1 := by kernel_rfl
theorem law : Keyed Try.prog 33 := Keyed.of_law (deep_law_gate laidOut small33 size33 keyType33 (by rw [Try.underlying33]))

abbrev Pr (a b : ByteArray) : Value := .agg #[.string a, .string b]

theorem lit9 (n : Nat) (s : ByteArray) (hs : s.size ≤ maxLen) : Try.prog.keyLits (n + 1) 9 [.string s] = some [.string s.data.toList] := by
  unfold Program.keyLits
  simp [Try.underlying9, hs]

theorem lit9_inv (n : Nat) (cs : List Value) (L : List Lit) (h : Try.prog.keyLits n 9 cs = some L) : ∃ s, cs = [.string s] := by
  cases n with
  | zero => simp [Program.keyLits] at h
  | succ n =>
    unfold Program.keyLits at h
    rw [Try.underlying9] at h
    split at h <;> first | (cases h; done) | (simp_all; done) | skip
    all_goals (rename_i s _; exact ⟨s, rfl⟩)

theorem key_mk (a b : ByteArray) (ha : a.size ≤ maxLen) (hb : b.size ≤ maxLen) : ∃ kl, keyOf Try.prog 33 (Pr a b) = some kl := by
  have r2 : List.range 2 = [0, 1] := rfl
  have hsz : ∃ m, Try.prog.types.size = m + 1 := ⟨Try.prog.types.size - 1, by have := size33; omega⟩
  obtain ⟨m, hm⟩ := hsz
  have hc : (Pr a b).cells.toList = [.string a, .string b] := rfl
  have hl : Try.prog.keyLits (m + 1 + 1) 33 (Pr a b).cells.toList = some [.string a.data.toList, .string b.data.toList] := by
    rw [hc]
    unfold Program.keyLits
    simp [Try.underlying33, cells33, cells9, r2, lit9 m a ha, lit9 m b hb]
  refine ⟨.string (keyBytes [.string a.data.toList, .string b.data.toList]), ?_⟩
  have hf : (Pr a b).formed Try.prog 33 = true := by simp [Value.formed, Try.underlying33, cells33]
  unfold keyOf
  rw [Try.underlying33, hm]
  simp only [keyType33, hf, Bool.and_self, if_true]
  rw [hl]
  rfl

theorem key_inv {key : Value} {kl : Lit} (h : keyOf Try.prog 33 key = some kl) : ∃ a b : ByteArray, key = Pr a b := by
  have r2 : List.range 2 = [0, 1] := rfl
  obtain ⟨xs, L, rfl, hl, _⟩ := keyOf_top (by rw [Try.underlying33]) h
  unfold Program.keyLits at hl
  generalize Try.prog.types.size = N at hl
  rw [Try.underlying33] at hl
  simp only at hl
  split at hl
  · rename_i hlen
    rw [cells33] at hlen
    match hx : xs.toList, hlen with
    | [v0, v1], _ =>
      rw [hx, r2] at hl
      simp only [cells9, List.mapM_cons, List.mapM_nil, Nat.zero_mul, Nat.one_mul, List.drop_zero, List.drop_succ_cons, List.take_succ_cons, List.take_zero, Option.map_eq_some_iff] at hl
      cases h0 : Try.prog.keyLits N 9 [v0] with
      | none => simp [h0] at hl
      | some L0 =>
        cases h1 : Try.prog.keyLits N 9 [v1] with
        | none => simp [h0, h1] at hl
        | some L1 =>
          obtain ⟨a, ha⟩ := lit9_inv _ _ _ h0
          obtain ⟨b, hb⟩ := lit9_inv _ _ _ h1
          simp at ha hb
          subst ha hb
          exact ⟨a, b, by rw [← Array.toArray_toList (xs := xs), hx]⟩
  · cases hl
end Go.Proofs.Qxb6617543a
