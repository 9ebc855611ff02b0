/-
  zzBytes (5, 12), zzOccursElsewhere (7).
-/
import Derived.Test.Qxb6618381aClone
namespace Go.Proofs.Qxb6618381a
open Go.RowKit Plain

def BytesP (w : World) (n : Nat) (L : Nat → Nat) (e : Ending) (w' : World) : Prop := ∃ b, e = .returned (.bool b) ∧ w = w' ∧ (b = true → n ≤ 1048576 ∧ ∀ i, i < n → L i ≤ 1048576)

set_option maxHeartbeats 1000000 in
theorem zzBytes5 (a : Option Addr) (n c b o : Nat) (A : Nat → Option Addr) (L C : Nat → Nat) (w : World) (ha : 0 < n → a = some ⟨b, o, none⟩)
    (hc : ∀ i, i < n → w.cell? ⟨b, o + i, none⟩ = some (.slice (A i) (L i) (C i))) :
    Calls Try.prog 5 #[.slice a n c] w (BytesP w n L) := by
  by_cases hn : (n : Int) > 1048576
  · go_enter Try.func5, Try.ntmps5
    go_wp2
    go_ret
    exact ⟨false, rfl, rfl, by simp⟩
  · go_enter Try.func5, Try.ntmps5
    go_wp2
    go_loopw [3, 4] (fun z i wr => ∃ k t : Nat, k ≤ n ∧ i = .int .i64 k ∧ z = .int .i64 t ∧ t ≤ 1048576 ∧ w = wr ∧ Hid (∀ j, j < k → L j ≤ 1048576)) (fun _ i _ => n - (intOf i).toNat)
    case atStart => exact ⟨0, n, Nat.zero_le _, rfl, by go_num, by omega, rfl, fun _ h => absurd h (by omega)⟩
    case round =>
      obtain ⟨k, t, hk, rfl, rfl, ht, rfl, hp⟩ := hrel
      by_cases hlt : k < n
      · obtain rfl := ha (by omega)
        have g1 := hc k hlt
        clear hc ha
        generalize hL : L k = l at g1
        have HL : Hid (L k = l) := hL
        clear hL
        by_cases h1 : (l : Int) > 1048576
        · go_wp2
          go_ret
          exact ⟨false, rfl, rfl, by simp⟩
        · by_cases h2 : (t : Int) + l > 1048576
          · go_wp2
            go_ret
            exact ⟨false, rfl, rfl, by simp⟩
          · go_wp2
            go_roundw
            case rel =>
              refine ⟨k + 1, t + l, by omega, by go_num, by go_num, by omega, by first | rfl | trivial, fun j hj => ?_⟩
              rcases (by omega : j < k ∨ j = k) with h | h
              · exact hp.out j h
              · rw [h, HL.out]; omega
            case measure => simp [intOf]; omega
      · go_wp2
        go_ret
        exact ⟨true, rfl, by first | rfl | trivial, fun _ => ⟨by omega, fun i hi => hp.out i (by omega)⟩⟩

set_option maxHeartbeats 1000000 in
theorem zzBytes12 (a : Option Addr) (n c b o : Nat) (q : Int) (A : Nat → Option Addr) (L C : Nat → Nat) (w : World) (ha : 0 < n → a = some ⟨b, o, none⟩)
    (hc : ∀ i, i < n → w.cell? ⟨b, o + i, none⟩ = some (.slice (A i) (L i) (C i))) :
    Calls Try.prog 12 #[.slice a n c, .int .i64 q] w (BytesP w n L) := by
  by_cases hn : (n : Int) > 1048576
  · go_enter Try.func12, Try.ntmps12
    go_wp2
    go_ret
    exact ⟨false, rfl, rfl, by simp⟩
  · go_enter Try.func12, Try.ntmps12
    go_wp2
    go_loopw [5, 6] (fun z i wr => ∃ k t : Nat, k ≤ n ∧ i = .int .i64 k ∧ z = .int .i64 t ∧ t ≤ 1048576 ∧ w = wr ∧ Hid (∀ j, j < k → L j ≤ 1048576)) (fun _ i _ => n - (intOf i).toNat)
    case atStart => exact ⟨0, n, Nat.zero_le _, rfl, by go_num, by omega, rfl, fun _ h => absurd h (by omega)⟩
    case round =>
      obtain ⟨k, t, hk, rfl, rfl, ht, rfl, hp⟩ := hrel
      by_cases hlt : k < n
      · obtain rfl := ha (by omega)
        have g1 := hc k hlt
        clear hc ha
        generalize hL : L k = l at g1
        have HL : Hid (L k = l) := hL
        clear hL
        by_cases h1 : (l : Int) > 1048576
        · go_wp2
          go_ret
          exact ⟨false, rfl, rfl, by simp⟩
        · by_cases h2 : (t : Int) + l > 1048576
          · go_wp2
            go_ret
            exact ⟨false, rfl, rfl, by simp⟩
          · go_wp2
            go_roundw
            case rel =>
              refine ⟨k + 1, t + l, by omega, by go_num, by go_num, by omega, by first | rfl | trivial, fun j hj => ?_⟩
              rcases (by omega : j < k ∨ j = k) with h | h
              · exact hp.out j h
              · rw [h, HL.out]; omega
            case measure => simp [intOf]; omega
      · go_wp2
        go_ret
        exact ⟨true, rfl, by first | rfl | trivial, fun _ => ⟨by omega, fun i hi => hp.out i (by omega)⟩⟩

/-- Some other place holds the same. -/
def occ (cs : Nat → Bs) (n i : Nat) : Prop := ∃ j, j < n ∧ j ≠ i ∧ cs j = cs i

open Classical in
set_option maxHeartbeats 1000000 in
theorem occurs_any {w : World} {lo hi n i : Nat} {v : Value} {V : Nat → Value} {cs : Nat → Bs} (hn : n ≤ 1048576) (hi' : i < n) (hv : LR w v n V) (hb : ∀ i, i < n → BA w lo hi (V i) (cs i)) :
    Calls Try.prog 7 #[v, .int .i64 i] w fun e w' => e = .returned (.bool (decide (occ cs n i))) ∧ ∃ m, w' = w.drewN m := by
  generalize hr : decide (occ cs n i) = r
  have HR : Hid (decide (occ cs n i) = r) := hr
  clear hr
  obtain ⟨a, c, b, o, rfl, ha, hc⟩ := hv
  obtain rfl := ha (by omega)
  clear ha
  go_enter Try.func7, Try.ntmps7
  go_wp2
  go_loopw [5] (fun j wr => ∃ k m : Nat, k ≤ n ∧ j = .int .i64 k ∧ wr = w.drewN m ∧ Hid (∀ j, j < k → j ≠ i → cs j ≠ cs i)) (fun i _ => n - (intOf i).toNat)
  case atStart => exact ⟨0, 0, Nat.zero_le _, rfl, rfl, fun _ h => absurd h (by omega)⟩
  case round =>
    obtain ⟨k, m, hk, rfl, hw, hp⟩ := hrel
    have HW : Hid (wr = w.drewN m) := hw
    have ci : wr.cell? ⟨b, o + i, none⟩ = some (V i) := by rw [hw]; simpa using hc i hi'
    by_cases hlt : k < n
    · have ck : wr.cell? ⟨b, o + k, none⟩ = some (V k) := by rw [hw]; simpa using hc k hlt
      have heq := fun q => eq_any (w := wr.drewN q) (by rw [hw]; exact (hb i hi').drew.drew) (by rw [hw]; exact (hb k hlt).drew.drew)
      have hlt' : (k : Int) < (n : Int) := by omega
      clear hc hb hw
      by_cases hki : k = i
      · subst hki
        go_wp2
        go_quiet (fail)
        go_wp2
        go_roundw
        case rel =>
          refine ⟨k + 1, m + nq, by omega, by go_num, by rw [HW.out, World.drewN_drewN], fun j hj hne => ?_⟩
          exact hp.out j (by omega) hne
        case measure => simp [intOf]; omega
      · have hki' : (k : Int) ≠ (i : Int) := by omega
        by_cases hd : cs i = cs k
        · have hd' : decide (cs i = cs k) = true := decide_eq_true hd
          rw [hd'] at heq
          have HD : Hid (cs i = cs k) := hd
          clear hd hd'
          go_wp2
          go_quiet (first | (go_at_call 11; refine Calls.quiet_of (heq _)))
          go_wp2
          go_ret
          refine ⟨?_, m + nq, by rw [HW.out, World.drewN_drewN]⟩
          have : r = true := by rw [← HR.out]; exact decide_eq_true ⟨k, hlt, hki, HD.out.symm⟩
          rw [this]; rfl
        · have hd' : decide (cs i = cs k) = false := decide_eq_false hd
          rw [hd'] at heq
          have HD : Hid (¬ cs i = cs k) := hd
          clear hd hd'
          go_wp2
          go_quiet (first | (go_at_call 11; refine Calls.quiet_of (heq _)))
          go_wp2
          go_roundw
          case rel =>
            refine ⟨k + 1, m + nq, by omega, by go_num, by rw [HW.out, World.drewN_drewN], fun j hj hne => ?_⟩
            rcases (by omega : j < k ∨ j = k) with h | h
            · exact hp.out j h hne
            · rw [h]; exact fun e => HD.out e.symm
          case measure => simp [intOf]; omega
    · clear hw
      go_wp2
      go_ret
      refine ⟨?_, m, HW.out⟩
      have : r = false := by rw [← HR.out]; exact decide_eq_false (fun ⟨j, hj, h1, h2⟩ => hp.out j (by omega) h1 h2)
      rw [this]; rfl
end Go.Proofs.Qxb6618381a
