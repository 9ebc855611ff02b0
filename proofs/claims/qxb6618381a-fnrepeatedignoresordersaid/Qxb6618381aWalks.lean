/-
  THE WALKS over the small helpers: zzEqBytes (11), zzCmpBytes (8).
-/
import Derived.Test.Qxb6618381aRows
import Derived.Test.Qxb6618381aPlain
import Derived.WalkKit
import Derived.WalkSpells
import Derived.WalkLawsBesides
import Derived.Deep.OwnRows
import Derived.Deep.QuietTactic
import Derived.BigQuiet
import Derived.Deep.DeepCutAuto
namespace Go.Proofs.Qxb6618381a
open Go.RowKit Plain

def intOf : Value → Int | .int _ q => q | _ => 0

set_option maxHeartbeats 1000000 in
theorem eq_raw (a b : Option Addr) (la lb ca cb ba oa bb ob : Nat) (F G : Nat → Int) (r : Bool) (w : World) (hl : la ≤ 1048576)
    (ha : 0 < la → a = some ⟨ba, oa, none⟩) (hb : 0 < lb → b = some ⟨bb, ob, none⟩)
    (h1 : ∀ i, i < la → w.cell? ⟨ba, oa + i, none⟩ = some (.int .u8 (F i))) (h2 : ∀ i, i < lb → w.cell? ⟨bb, ob + i, none⟩ = some (.int .u8 (G i)))
    (hr : r = true ↔ la = lb ∧ ∀ i, i < la → F i = G i) :
    Calls Try.prog 11 #[.slice a la ca, .slice b lb cb] w fun e w' => e = .returned (.bool r) ∧ ∃ n, w' = w.drewN n := by
  have HR : Hid (r = true ↔ la = lb ∧ ∀ i, i < la → F i = G i) := hr
  clear hr
  by_cases hll : la = lb
  · subst hll
    go_enter Try.func11, Try.ntmps11
    go_wp2
    go_loopw [5] (fun i wr => ∃ k n : Nat, k ≤ la ∧ i = .int .i64 k ∧ wr = w.drewN n ∧ Hid (∀ j, j < k → F j = G j)) (fun i _ => la - (intOf i).toNat)
    case atStart => exact ⟨0, 0, Nat.zero_le _, rfl, rfl, fun _ h => absurd h (by omega)⟩
    case round =>
      obtain ⟨k, n, hk, rfl, rfl, hp⟩ := hrel
      by_cases hlt : k < la
      · obtain rfl := ha (by omega)
        obtain rfl := hb (by omega)
        have g1 := h1 k hlt
        have g2 := h2 k hlt
        have hlt' : (k : Int) < (la : Int) := by omega
        clear h1 h2
        by_cases hfg : F k = G k
        · rw [← hfg] at g2
          go_wp2
          go_quiet (fail)
          go_wp2
          go_roundw
          case rel =>
            refine ⟨k + 1, n + nq, by omega, by go_num, rfl, fun j hj => ?_⟩
            rcases (by omega : j < k ∨ j = k) with h | h
            · exact hp.out j h
            · rw [h]; exact hfg
          case measure => simp [intOf]; omega
        · go_wp2
          go_quiet (fail)
          go_wp2
          go_ret
          refine ⟨?_, n + nq, World.drewN_drewN _ _ _⟩
          have : r = false := by
            cases hrr : r with
            | false => rfl
            | true => exact absurd ((HR.out.1 hrr).2 k hlt) hfg
          rw [this]; rfl
      · go_wp2
        go_ret
        refine ⟨?_, n, rfl⟩
        have : r = true := HR.out.2 ⟨by first | rfl | trivial, fun j hj => hp.out j (by omega)⟩
        rw [this]; rfl
  · go_enter Try.func11, Try.ntmps11
    go_wp2
    go_ret
    refine ⟨?_, 0, rfl⟩
    have : r = false := by
      cases hrr : r with
      | false => rfl
      | true => exact absurd (HR.out.1 hrr).1 hll
    rw [this]; rfl

set_option maxHeartbeats 1000000 in
theorem cmp_raw (a b : Option Addr) (la lb ca cb ba oa bb ob : Nat) (F G : Nat → Int) (r : Int) (w : World) (hl : la ≤ 1048576) (hl2 : lb ≤ 1048576)
    (ha : 0 < la → a = some ⟨ba, oa, none⟩) (hb : 0 < lb → b = some ⟨bb, ob, none⟩)
    (h1 : ∀ i, i < la → w.cell? ⟨ba, oa + i, none⟩ = some (.int .u8 (F i))) (h2 : ∀ i, i < lb → w.cell? ⟨bb, ob + i, none⟩ = some (.int .u8 (G i)))
    (r1 : ∀ k, k < la → k < lb → (∀ j, j < k → F j = G j) → F k < G k → r = -1)
    (r2 : ∀ k, k < la → k < lb → (∀ j, j < k → F j = G j) → G k < F k → r = 1)
    (r3 : (∀ j, j < la → j < lb → F j = G j) → (la < lb → r = -1) ∧ (lb < la → r = 1) ∧ (la = lb → r = 0)) :
    Calls Try.prog 8 #[.slice a la ca, .slice b lb cb] w fun e w' => e = .returned (.int .i64 r) ∧ ∃ n, w' = w.drewN n := by
  have R1 : Hid _ := r1
  have R2 : Hid _ := r2
  have R3 : Hid _ := r3
  clear r1 r2 r3
  go_enter Try.func8, Try.ntmps8
  go_upto_if 12 with fail
  go_cut [5] (fun v wx => w = wx ∧ v = .int .i64 ((min la lb : Nat) : Int))
  case first =>
    go_wp2_with fail
    all_goals
      go_meet
      case rel => exact ⟨rfl, by congr 1; omega⟩
  case' rest =>
   obtain ⟨rfl, rfl⟩ := hcut
  obtain ⟨m, hm⟩ : ∃ m, m = min la lb := ⟨_, rfl⟩
  rw [← hm]
  have hma : m ≤ la := by omega
  have hmb : m ≤ lb := by omega
  have HM : Hid (m = min la lb) := hm
  clear hm
  go_wp2
  go_loopw [6] (fun i wr => ∃ k n : Nat, k ≤ m ∧ i = .int .i64 k ∧ wr = w.drewN n ∧ Hid (∀ j, j < k → F j = G j)) (fun i _ => m - (intOf i).toNat)
  case atStart => exact ⟨0, 0, Nat.zero_le _, rfl, rfl, fun _ h => absurd h (by omega)⟩
  case round =>
    obtain ⟨k, n, hk, rfl, rfl, hp⟩ := hrel
    by_cases hlt : k < m
    · obtain rfl := ha (by omega)
      obtain rfl := hb (by omega)
      have g1 := h1 k (by omega)
      have g2 := h2 k (by omega)
      have hlt' : (k : Int) < (m : Int) := by omega
      have b1 : (k : Int) < (la : Int) := by omega
      have b2 : (k : Int) < (lb : Int) := by omega
      clear h1 h2
      rcases (by omega : F k < G k ∨ (¬ F k < G k ∧ F k > G k) ∨ F k = G k) with hfg | hfg | hfg
      · go_wp2
        go_quiet (fail)
        go_wp2
        go_ret
        refine ⟨?_, n + nq, World.drewN_drewN _ _ _⟩
        rw [R1.out k (by omega) (by omega) hp.out hfg]; rfl
      · have hd := hfg.1
        have hd2 := hfg.2
        go_wp2
        go_quiet (fail)
        go_wp2
        go_quiet (fail)
        go_wp2
        go_ret
        refine ⟨?_, _, by rw [World.drewN_drewN, World.drewN_drewN]⟩
        rw [R2.out k (by omega) (by omega) hp.out hfg.2]; rfl
      · rw [← hfg] at g2
        go_wp2
        go_quiet (fail)
        go_wp2
        go_quiet (fail)
        go_wp2
        go_roundw
        case rel =>
          refine ⟨k + 1, _, by omega, by go_num, rfl, fun j hj => ?_⟩
          rcases (by omega : j < k ∨ j = k) with h | h
          · exact hp.out j h
          · rw [h]; exact hfg
        case measure => simp [intOf]; omega
    · have hpp : ∀ j, j < la → j < lb → F j = G j := fun j h1 h2 => hp.out j (by have := HM.out; omega)
      have r3 := R3.out hpp
      rcases (by omega : la < lb ∨ (¬ la < lb ∧ lb < la) ∨ la = lb) with h | h | h
      · go_wp2
        go_ret
        refine ⟨?_, n, rfl⟩
        rw [r3.1 h]; rfl
      · go_wp2
        go_ret
        refine ⟨?_, n, rfl⟩
        rw [r3.2.1 h.2]; rfl
      · go_wp2
        go_ret
        refine ⟨?_, n, rfl⟩
        rw [r3.2.2 h]; rfl
end Go.Proofs.Qxb6618381a
