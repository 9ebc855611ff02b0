/-
  THE WALKS over the helpers of FnJamoDecomposesInOrder: jamo (9), ZZJamo (4), zzJamoWellFormed (5), zzJamoTrailIndex (10), zzJamoCompose (6), zzCmpRune (7), zzCmpJamo (8).
-/
import Derived.Test.Qxb6618407aRows
import Derived.WalkKit
import Derived.WalkSpells
import Derived.WalkLawsBesides
import Derived.Deep.QuietTactic
import Derived.BigQuiet
import Derived.Deep.RegionWith
namespace Go.Proofs.Qxb6618407a
open Go.RowKit

abbrev R3 (l v t : Int) : Value := .agg #[.int .i32 l, .int .i32 v, .int .i32 t]
abbrev B3 (l v t : Int) : Obj := .cells #[.int .i32 l, .int .i32 v, .int .i32 t] 22

set_option maxHeartbeats 400000 in
theorem jamo_two (c : Int) (h1 : 44032 ≤ c) (h2 : c ≤ 55203) (h : (c - 44032) % 28 = 0) (w : World) :
    Calls Try.prog 9 #[.int .i32 c] w fun e w' => e = .returned (.tuple #[R3 (4352 + (c - 44032) / 588) (4449 + (c - 44032) % 588 / 28) 0, .int .i64 2]) ∧ Below w.heap.size w w' := by
  have hb : ((c - 44032) % 28 == 0) = true := by simp [h]
  clear h
  go_enter Try.func9, Try.ntmps9
  go_wp2
  exact bodyPost_ret (v := .tuple #[R3 (4352 + (c - 44032) / 588) (4449 + (c - 44032) % 588 / 28) 0, .int .i64 2]) (by simp [results, Try.results9, go_sem]) rfl ⟨rfl, (Below.refl _ _).alloc (Nat.le_refl _) _⟩

set_option maxHeartbeats 400000 in
theorem jamo_three (c : Int) (h1 : 44032 ≤ c) (h2 : c ≤ 55203) (h : ¬ (c - 44032) % 28 = 0) (w : World) :
    Calls Try.prog 9 #[.int .i32 c] w fun e w' => e = .returned (.tuple #[R3 (4352 + (c - 44032) / 588) (4449 + (c - 44032) % 588 / 28) (4519 + (c - 44032) % 28), .int .i64 3]) ∧ Below w.heap.size w w' := by
  have hb : ((c - 44032) % 28 == 0) = false := by simp [h]
  clear h
  go_enter Try.func9, Try.ntmps9
  go_wp2
  exact bodyPost_ret (v := .tuple #[R3 (4352 + (c - 44032) / 588) (4449 + (c - 44032) % 588 / 28) (4519 + (c - 44032) % 28), .int .i64 3]) (by simp [results, Try.results9, go_sem]) rfl ⟨rfl, (Below.refl _ _).alloc (Nat.le_refl _) _⟩

theorem bcell {W w1 : World} (hb : Below W.heap.size W w1) : (∀ b o, b < W.heap.size → w1.cell? ⟨b, o, none⟩ = W.cell? ⟨b, o, none⟩) ∧ (∀ b o, b < W.heap.size → w1.frozen? ⟨b, o, none⟩ = W.frozen? ⟨b, o, none⟩) :=
  ⟨fun b o h => hb.cell (p := ⟨b, o, none⟩) h, fun b o h => hb.frozen (p := ⟨b, o, none⟩) h⟩

set_option maxHeartbeats 400000 in
theorem zzjamo_any (c l v t n : Int) (hc : ∀ w, Calls Try.prog 9 #[.int .i32 c] w fun e w' => e = .returned (.tuple #[R3 l v t, .int .i64 n]) ∧ Below w.heap.size w w') (w : World) :
    Calls Try.prog 4 #[.int .i32 c] w fun e w' => e = .returned (.tuple #[R3 l v t, .int .i64 n]) ∧ Below w.heap.size w w' := by
  have H := hc
  clear hc
  go_enter Try.func4, Try.ntmps4
  go_wp2_with fail
  refine (H _).mono ?_
  rintro e w1 ⟨rfl, hb⟩
  clear H
  have hz : w.heap.size < w1.heap.size := by have := hb.size; simp at this; omega
  have c0 : w1.cell? ⟨w.heap.size, 0, none⟩ = some (.int .i32 0) := by rw [hb.cell (by simp)]; simp [go_sem]
  have c1 : w1.cell? ⟨w.heap.size, 1, none⟩ = some (.int .i32 0) := by rw [hb.cell (by simp)]; simp [go_sem]
  have c2 : w1.cell? ⟨w.heap.size, 2, none⟩ = some (.int .i32 0) := by rw [hb.cell (by simp)]; simp [go_sem]
  have f : ∀ o, w1.frozen? ⟨w.heap.size, o, none⟩ = false := fun o => by rw [hb.frozen (by simp)]; simp [go_sem]
  go_wp2_with fail
  exact bodyPost_ret (v := .tuple #[R3 l v t, .int .i64 n]) (by simp [results, Try.results4, go_sem, c0, c1, c2]) rfl ⟨rfl, ((((Below.refl _ _).alloc (Nat.le_refl _) _).trans (hb.mono (by simp))).setCell (Nat.le_refl _) _ |>.setCell (Nat.le_refl _) _).setCell (Nat.le_refl _) _⟩

set_option maxHeartbeats 400000 in
theorem wf_two (l v : Int) (h1 : 4352 ≤ l) (h2 : l ≤ 4370) (h3 : 4449 ≤ v) (h4 : v ≤ 4469) (w : World) :
    Calls Try.prog 5 #[R3 l v 0, .int .i64 2] w fun e w' => e = .returned (.bool true) ∧ w' = w.alloc (B3 l v 0) := by
  go_enter Try.func5, Try.ntmps5
  go_wp2
  go_ret
  exact ⟨rfl, rfl⟩

set_option maxHeartbeats 400000 in
theorem wf_three (l v t : Int) (h1 : 4352 ≤ l) (h2 : l ≤ 4370) (h3 : 4449 ≤ v) (h4 : v ≤ 4469) (h5 : 4520 ≤ t) (h6 : t ≤ 4546) (w : World) :
    Calls Try.prog 5 #[R3 l v t, .int .i64 3] w fun e w' => e = .returned (.bool true) ∧ w' = w.alloc (B3 l v t) := by
  go_enter Try.func5, Try.ntmps5
  go_wp2
  go_ret
  exact ⟨rfl, rfl⟩

theorem trail_two (l v t : Int) (w : World) : Calls Try.prog 10 #[R3 l v t, .int .i64 2] w fun e w' => e = .returned (.int .i32 0) ∧ w' = w.alloc (B3 l v t) := by
  go_enter Try.func10, Try.ntmps10
  go_wp2
  go_ret
  exact ⟨rfl, rfl⟩

theorem trail_three (l v t : Int) (h5 : 4520 ≤ t) (h6 : t ≤ 4546) (w : World) : Calls Try.prog 10 #[R3 l v t, .int .i64 3] w fun e w' => e = .returned (.int .i32 (t - 4519)) ∧ w' = w.alloc (B3 l v t) := by
  go_enter Try.func10, Try.ntmps10
  go_wp2
  go_ret
  exact ⟨rfl, rfl⟩

set_option maxHeartbeats 400000 in
theorem compose_any (l v t n x : Int) (h1 : 4352 ≤ l) (h2 : l ≤ 4370) (h3 : 4449 ≤ v) (h4 : v ≤ 4469) (h5 : 0 ≤ x) (h6 : x ≤ 27) (w : World)
    (hx : ∀ w, Calls Try.prog 10 #[R3 l v t, .int .i64 n] w fun e w' => e = .returned (.int .i32 x) ∧ w' = w.alloc (B3 l v t)) :
    Calls Try.prog 6 #[R3 l v t, .int .i64 n] w fun e w' => e = .returned (.int .i32 (44032 + ((l - 4352) * 21 + (v - 4449)) * 28 + x)) ∧ w' = (w.alloc (B3 l v t)).alloc (B3 l v t) := by
  go_enter Try.func6, Try.ntmps6
  go_wp2_with fail
  refine (hx _).mono ?_
  rintro e w1 ⟨rfl, rfl⟩
  clear hx
  go_wp2_with fail
  go_ret
  exact ⟨rfl, rfl⟩

def cmpI (x y : Int) : Int := if x < y then -1 else if y < x then 1 else 0
theorem cmp_any (x y : Int) (w : World) : Calls Try.prog 7 #[.int .i32 x, .int .i32 y] w fun e w' => e = .returned (.int .i64 (cmpI x y)) ∧ w' = w := by
  by_cases h1 : x < y
  · go_enter Try.func7, Try.ntmps7
    go_wp2
    go_ret
    exact ⟨by simp [cmpI, h1], rfl⟩
  · by_cases h2 : y < x
    · go_enter Try.func7, Try.ntmps7
      go_wp2
      go_ret
      exact ⟨by rw [cmpI, if_neg (by omega), if_pos h2]; rfl, rfl⟩
    · go_enter Try.func7, Try.ntmps7
      go_wp2
      go_ret
      exact ⟨by rw [cmpI, if_neg (by omega), if_neg (by omega)]; rfl, rfl⟩

def cmpJ (l1 v1 x1 l2 v2 x2 : Int) : Int := if l1 = l2 then (if v1 = v2 then cmpI x1 x2 else cmpI v1 v2) else cmpI l1 l2

theorem cmpI_ne {x y : Int} (h : ¬ x = y) : (cmpI x y != 0) = true := by unfold cmpI; simp; omega
theorem cmpI_eq {x y : Int} (h : x = y) : (cmpI x y != 0) = false := by unfold cmpI; simp; omega

set_option maxHeartbeats 1000000 in
theorem cmpJamo_any (l1 v1 t1 n1 x1 l2 v2 t2 n2 x2 : Int) (w : World)
    (hx : ∀ w, Calls Try.prog 10 #[R3 l1 v1 t1, .int .i64 n1] w fun e w' => e = .returned (.int .i32 x1) ∧ w' = w.alloc (B3 l1 v1 t1))
    (hy : ∀ w, Calls Try.prog 10 #[R3 l2 v2 t2, .int .i64 n2] w fun e w' => e = .returned (.int .i32 x2) ∧ w' = w.alloc (B3 l2 v2 t2)) :
    Calls Try.prog 8 #[R3 l1 v1 t1, .int .i64 n1, R3 l2 v2 t2, .int .i64 n2] w fun e w' => e = .returned (.int .i64 (cmpJ l1 v1 x1 l2 v2 x2)) ∧ Below w.heap.size w w' := by
  by_cases e1 : l1 = l2
  case neg =>
    have q1 := cmpI_ne e1
    have Q : Hid (cmpJ l1 v1 x1 l2 v2 x2 = cmpI l1 l2) := by unfold cmpJ; rw [if_neg e1]; rfl
    clear hx hy e1
    go_enter Try.func8, Try.ntmps8
    go_wp2_with (go_at_call 7; refine (cmp_any _ _ _).mono ?_; rintro e w' ⟨rfl, rfl⟩)
    go_ret
    exact ⟨by rw [Q.out]; rfl, ((Below.refl _ _).alloc (Nat.le_refl _) _).alloc (by simp) _⟩
  have p1 := cmpI_eq e1
  by_cases e2 : v1 = v2
  case neg =>
    have q1 := cmpI_ne e2
    have Q : Hid (cmpJ l1 v1 x1 l2 v2 x2 = cmpI v1 v2) := by unfold cmpJ; rw [if_pos e1, if_neg e2]; rfl
    clear hx hy e1 e2
    go_enter Try.func8, Try.ntmps8
    go_wp2_with (go_at_call 7; refine (cmp_any _ _ _).mono ?_; rintro e w' ⟨rfl, rfl⟩)
    go_ret
    exact ⟨by rw [Q.out]; rfl, ((Below.refl _ _).alloc (Nat.le_refl _) _).alloc (by simp) _⟩
  have p2 := cmpI_eq e2
  have Q : Hid (cmpJ l1 v1 x1 l2 v2 x2 = cmpI x1 x2) := by unfold cmpJ; rw [if_pos e1, if_pos e2]; rfl
  clear e1 e2
  have HX : Hid (∀ w, Calls Try.prog 10 #[R3 l1 v1 t1, .int .i64 n1] w fun e w' => e = .returned (.int .i32 x1) ∧ w' = w.alloc (B3 l1 v1 t1)) := hx
  have HY : Hid (∀ w, Calls Try.prog 10 #[R3 l2 v2 t2, .int .i64 n2] w fun e w' => e = .returned (.int .i32 x2) ∧ w' = w.alloc (B3 l2 v2 t2)) := hy
  clear hx hy
  go_enter Try.func8, Try.ntmps8
  go_wp2_with (go_at_call 7; refine (cmp_any _ _ _).mono ?_; rintro e w' ⟨rfl, rfl⟩)
  go_region_with (first | (go_at_call 7; refine (cmp_any _ _ _).mono ?_; rintro e w' ⟨rfl, rfl⟩) | (go_at_call_of 10 t1; refine (HX.out _).mono ?_; rintro e w' ⟨rfl, rfl⟩) | (go_at_call_of 10 t2; refine (HY.out _).mono ?_; rintro e w' ⟨rfl, rfl⟩))
  all_goals
    go_wp2
    go_ret
    exact ⟨by rw [Q.out]; rfl, by repeat (first | exact Below.refl _ _ | refine Below.drew ?_ | refine Below.alloc ?_ (by simp; omega) _ | refine Below.alloc ?_ (by simp) _)⟩
end Go.Proofs.Qxb6618407a
