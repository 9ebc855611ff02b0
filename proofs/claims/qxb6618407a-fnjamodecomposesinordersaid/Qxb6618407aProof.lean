/-
  'Rows.FnJamoDecomposesInOrderSaid': the law's own walk, the row's step and the statement. The frame is the guide's (the given shell), with 'Below' for the world behind the call.
-/
import Derived.Test.Qxb6618407aWalks
import Derived.ProofKit
import Derived.OpenShut
import Derived.ShutString
import Derived.ChangeOld
import Derived.Below
namespace Go.Proofs.Qxb6618407a
open Go.ChangeShapes Go.WideShapes Go.ChangeAt Go.RowKit
open Go.ChangeMaps (open_string shut_string)

theorem own : ownKnob Try.prog.godebug = none := by kernel_rfl

/-- What jamo gives of c: lead, vowel, trail, how many; and the trail's index. -/
structure Jam (c l v t n x : Int) : Prop where
  l1 : 4352 ≤ l
  l2 : l ≤ 4370
  v1 : 4449 ≤ v
  v2 : v ≤ 4469
  x0 : 0 ≤ x
  x1 : x ≤ 27
  comp : 44032 + ((l - 4352) * 21 + (v - 4449)) * 28 + x = c
  zz : ∀ w, Calls Try.prog 4 #[.int .i32 c] w fun e w' => e = .returned (.tuple #[R3 l v t, .int .i64 n]) ∧ Below w.heap.size w w'
  wf : ∀ w, Calls Try.prog 5 #[R3 l v t, .int .i64 n] w fun e w' => e = .returned (.bool true) ∧ w' = w.alloc (B3 l v t)
  tr : ∀ w, Calls Try.prog 10 #[R3 l v t, .int .i64 n] w fun e w' => e = .returned (.int .i32 x) ∧ w' = w.alloc (B3 l v t)

theorem jam_of (c : Int) (h1 : 44032 ≤ c) (h2 : c ≤ 55203) : ∃ l v t n x, Jam c l v t n x := by
  by_cases h : (c - 44032) % 28 = 0
  · refine ⟨_, _, _, _, 0, by omega, by omega, by omega, by omega, by omega, by omega, by omega, fun w => zzjamo_any c _ _ _ _ (fun w => jamo_two c h1 h2 h w) w, fun w => wf_two _ _ (by omega) (by omega) (by omega) (by omega) w, fun w => trail_two _ _ _ w⟩
  · refine ⟨_, _, _, _, 4519 + (c - 44032) % 28 - 4519, by omega, by omega, by omega, by omega, by omega, by omega, by omega, fun w => zzjamo_any c _ _ _ _ (fun w => jamo_three c h1 h2 h w) w, fun w => wf_three _ _ _ (by omega) (by omega) (by omega) (by omega) (by omega) (by omega) w, fun w => trail_three _ _ _ (by omega) (by omega) w⟩

/-- The plain law: the two sequences compare as the syllables do. -/
theorem cmp_same {a l1 v1 x1 b l2 v2 x2 : Int} (hx1 : 0 ≤ x1) (hx1' : x1 ≤ 27) (hx2 : 0 ≤ x2) (hx2' : x2 ≤ 27) (hv1 : 4449 ≤ v1) (hv1' : v1 ≤ 4469) (hv2 : 4449 ≤ v2) (hv2' : v2 ≤ 4469)
    (ha : 44032 + ((l1 - 4352) * 21 + (v1 - 4449)) * 28 + x1 = a) (hb : 44032 + ((l2 - 4352) * 21 + (v2 - 4449)) * 28 + x2 = b) : cmpJ l1 v1 x1 l2 v2 x2 = cmpI a b := by
  unfold cmpJ cmpI
  repeat' split
  all_goals omega

set_option maxHeartbeats 2000000 in
theorem walk (a b : Int) (w : World) : Calls Try.prog 3 #[.int .i32 a, .int .i32 b] w fun e w' => e = .returned (.bool true) ∧ Below w.heap.size w w' := by
  by_cases a1 : a < 44032
  · go_enter Try.func3, Try.ntmps3
    go_wp2_with fail
    go_ret
    exact ⟨rfl, Below.refl _ _⟩
  by_cases a2 : 55203 < a
  · go_enter Try.func3, Try.ntmps3
    go_wp2_with fail
    go_ret
    exact ⟨rfl, Below.refl _ _⟩
  by_cases b1 : b < 44032
  · go_enter Try.func3, Try.ntmps3
    go_wp2_with fail
    go_ret
    exact ⟨rfl, Below.refl _ _⟩
  by_cases b2 : 55203 < b
  · go_enter Try.func3, Try.ntmps3
    go_wp2_with fail
    go_ret
    exact ⟨rfl, Below.refl _ _⟩
  obtain ⟨l1, v1, t1, n1, x1, A⟩ := jam_of a (by omega) (by omega)
  obtain ⟨l2, v2, t2, n2, x2, B⟩ := jam_of b (by omega) (by omega)
  have e1 := compose_any l1 v1 t1 n1 x1 A.l1 A.l2 A.v1 A.v2 A.x0 A.x1
  have e2 := compose_any l2 v2 t2 n2 x2 B.l1 B.l2 B.v1 B.v2 B.x0 B.x1
  rw [A.comp] at e1
  rw [B.comp] at e2
  have E1 := fun w => e1 w A.tr
  have E2 := fun w => e2 w B.tr
  have C := fun w => cmpJamo_any l1 v1 t1 n1 x1 l2 v2 t2 n2 x2 w A.tr B.tr
  rw [cmp_same A.x0 A.x1 B.x0 B.x1 A.v1 A.v2 B.v1 B.v2 A.comp B.comp] at C
  have HA := A.zz
  have HB := B.zz
  have WA := A.wf
  have WB := B.wf
  clear e1 e2 A B
  go_enter Try.func3, Try.ntmps3
  go_wp2_with fail
  refine (HA _).mono ?_
  rintro e w1 ⟨rfl, hb1⟩
  go_wp2_with fail
  refine (HB _).mono ?_
  rintro e w2 ⟨rfl, hb2⟩
  clear HA HB
  have s1 : w1.heap.size < w2.heap.size := by have := hb2.size; simp at this; omega
  have c0 : w2.cell? ⟨w1.heap.size, 0, none⟩ = some (.int .i32 l1) := by rw [hb2.cell (by simp)]; simp [go_sem]
  have c1 : w2.cell? ⟨w1.heap.size, 1, none⟩ = some (.int .i32 v1) := by rw [hb2.cell (by simp)]; simp [go_sem]
  have c2 : w2.cell? ⟨w1.heap.size, 2, none⟩ = some (.int .i32 t1) := by rw [hb2.cell (by simp)]; simp [go_sem]
  have bel : Below w.heap.size w w2 := (hb1.alloc hb1.size _).trans (hb2.mono (by have := hb1.size; simp; omega))
  clear hb1 hb2
  have s2 : w1.heap.size < w2.heap.size + 1 := by omega
  have s3 : w1.heap.size < w2.heap.size + 1 + 1 := by omega
  have s4 : w1.heap.size < w2.heap.size + 1 + 1 + 1 := by omega
  have s5 : w1.heap.size < w2.heap.size + 1 + 1 + 1 + 1 := by omega
  have s6 : w1.heap.size < w2.heap.size + 1 + 1 + 1 + 1 + 1 := by omega
  have s7 : w1.heap.size < w2.heap.size + 1 + 1 + 1 + 1 + 1 + 1 := by omega
  have z3 : w2.heap.size < w2.heap.size + 1 + 1 := by omega
  have z4 : w2.heap.size < w2.heap.size + 1 + 1 + 1 := by omega
  have z5 : w2.heap.size < w2.heap.size + 1 + 1 + 1 + 1 := by omega
  have z6 : w2.heap.size < w2.heap.size + 1 + 1 + 1 + 1 + 1 := by omega
  have z7 : w2.heap.size < w2.heap.size + 1 + 1 + 1 + 1 + 1 + 1 := by omega
  go_wp2_with fail
  refine (WA _).mono ?_
  rintro e w3 ⟨rfl, rfl⟩
  clear WA
  go_wp2_with fail
  refine (WB _).mono ?_
  rintro e w3 ⟨rfl, rfl⟩
  clear WB
  go_wp2_with fail
  refine (E1 _).mono ?_
  rintro e w3 ⟨rfl, rfl⟩
  clear E1
  go_wp2_with fail
  refine (E2 _).mono ?_
  rintro e w3 ⟨rfl, rfl⟩
  clear E2
  go_wp2_with fail
  go_region_with (first | (go_at_call 7; refine (cmp_any _ _ _).mono ?_; rintro e w' ⟨rfl, rfl⟩) | (go_at_call 8; refine (C _).mono ?_; rintro e w5 ⟨rfl, hb5⟩))
  all_goals
    have hs := bel.size
    go_wp2
    go_ret
    refine ⟨by simp [Act.put], Below.trans ?_ (hb5.mono ?_)⟩
    · repeat (first | exact bel | refine Below.drew ?_ | refine Below.alloc ?_ hs _ | refine Below.alloc ?_ (by simp; omega) _)
    · simp; omega

set_option maxRecDepth 100000 in
theorem lifted (os : Os) (started : os.Started) (H : Type) (enc : TypeId × Value → H) :
    ReturnsInHanded {} Try.checked os 3 .any (Rows.fnJamoDecomposesInOrderSpec.pre6 enc Try.prog Try.f3 Rows.fnJamoDecomposesInOrderRow.domain false) (Rows.fnJamoDecomposesInOrderSpec.post enc Try.prog Try.f3 false true false false) := by
  refine returnsInHanded_of_change (C := Try.checked) own started (by kernel_rfl) Try.func3
    (ChangeSpec.witness6 (enc := enc) (C := Try.checked) false ⟨#[], #[.int .i32 0, .int .i32 0], []⟩ 8 (by kernel_rfl) (by kernel_rfl) (by kernel_rfl) (by kernel_rfl)) ?_
  intro W base args ds gs before hval0 hW hcnd _
  have hval : ∀ (j : Nat) t v, Try.f3.params[j]? = some t → args[j]? = some v → Value.okWide Try.prog W .any base t v := hval0
  have hW' := hW
  obtain ⟨p, q, hA0, hV, rfl, hfz, hnd⟩ := hW
  have hA : DataW.TrodAll enc Try.prog W 0 (fun _ => true) true Try.f3.params.toList args.toList ds p := hA0
  rw [Try.params3] at hA hval
  obtain ⟨v0, vs0, d0, ds0, p0, q0, hargs, rfl, rfl, h0, r0⟩ := trodAll_cons hA
  obtain ⟨v1, vs1, d1, ds1, p1, q1, rfl, rfl, rfl, h1, r1⟩ := trodAll_cons r0
  obtain ⟨rfl, rfl, rfl⟩ := trodAll_nil r1
  obtain rfl : args = #[v0, v1] := by cases args; simp_all
  obtain ⟨rfl, rfl⟩ := trodVars_none hV
  obtain ⟨a0, rfl, rfl, rfl, w0⟩ := open_int Try.underlying21 (hval 0 21 v0 rfl rfl) h0
  obtain ⟨a1, rfl, rfl, rfl, w1⟩ := open_int Try.underlying21 (hval 1 21 v1 rfl rfl) h1
  clear hA0 hval0
  refine (walk a0 a1 W).mono fun e W' ⟨he, bel⟩ => ?_
  subst he
  exact ⟨_, rfl, _, _, _, [], _, [], hW', trodAll_mk1 (shut_bool Try.underlying4 _), (trodAll_cons_mk (shut_int Try.underlying21 w0) (trodAll_cons_mk (shut_int Try.underlying21 w1) trodAll_mk0)), rfl, bel.frame _, fun h => by cases h⟩

theorem over : Rows.fnJamoDecomposesInOrderRow.holds Try.pinned (OpenSpec.ofChange Rows.fnJamoDecomposesInOrderSpec) :=
  OpenClaim.holds_of_wide 3 Try.f3 rfl rfl rfl rfl rfl rfl rfl ⟨rfl, rfl, rfl, rfl, rfl⟩ rfl rfl rfl rfl rfl (by kernel_rfl) Try.func3 (by kernel_rfl)
    (of_decide_eq_true (by kernel_rfl)) (by unfold Func.isWrapper; first | (rw [if_pos (by decide +kernel)]; kernel_rfl) | (rw [if_neg (by decide +kernel)]; exact ⟨rfl, rfl⟩))
    (fun os started H enc _ => lifted os started H enc)

/-- THE STATEMENT. -/
theorem fnJamo_proved : Rows.FnJamoDecomposesInOrderSaid := over
#print axioms fnJamo_proved
end Go.Proofs.Qxb6618407a
