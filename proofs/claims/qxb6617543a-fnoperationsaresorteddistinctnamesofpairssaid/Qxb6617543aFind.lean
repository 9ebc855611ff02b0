/-
  THE WALKS over zzFindSorted (6) and zzBytes (4).
-/
import Derived.Test.Qxb6617543aRows
import Derived.Test.Qxb6617543aPlain
import Derived.WalkKit
import Derived.WalkSpells
import Derived.WalkLawsBesides
import Derived.Deep.OwnRows
import Derived.Deep.QuietTactic
import Derived.BigQuiet
namespace Go.Proofs.Qxb6617543a
open Go.RowKit

set_option maxHeartbeats 1000000 in
theorem find_any (g n cap k : Nat) (S : Nat → ByteArray) (s : ByteArray) (w : World) (hn : n ≤ 1048576) (hk : k < n)
    (hc : ∀ i, i < n → w.cell? ⟨g, i, none⟩ = some (.string (S i))) (h1 : ∀ i, i < k → Op.bytesLess (S i).toList s.toList = true) (h2 : ∀ i, k ≤ i → i < n → Op.bytesLess (S i).toList s.toList = false)
    (he : ((S k).toList == s.toList) = true) :
    Calls Try.prog 6 #[.slice (some ⟨g, 0, none⟩) n cap, .string s] w fun e w' => e = .returned (.int .i64 k) ∧ w' = w := by
  go_enter Try.func6, Try.ntmps6
  go_wp2
  go_loop [5, 6] (fun lo hi => ∃ l h : Nat, l ≤ k ∧ k ≤ h ∧ h ≤ n ∧ lo = .int .i64 l ∧ hi = .int .i64 h) (fun lo hi => (intOf hi - intOf lo).toNat)
  case atStart => exact ⟨0, n, Nat.zero_le _, by omega, Nat.le_refl _, rfl, rfl⟩
  case round =>
    obtain ⟨l, h, hl, hh, hhn, rfl, rfl⟩ := hrel
    by_cases hlt : l < h
    · have hcm := hc (l + (h - l) / 2) (by omega)
      by_cases hm : l + (h - l) / 2 < k
      · have ht := h1 _ hm
        clear h1 h2 he hc
        go_wp2
        go_round
        case rel => exact ⟨l + (h - l) / 2 + 1, h, by omega, by omega, by omega, by go_num, rfl⟩
        case measure => simp [intOf]; omega
      · have ht := h2 (l + (h - l) / 2) (by omega) (by omega)
        clear h1 h2 he hc
        go_wp2
        go_round
        case rel => exact ⟨l, l + (h - l) / 2, by omega, by omega, by omega, rfl, by go_num⟩
        case measure => simp [intOf]; omega
    · obtain rfl : l = k := by omega
      have hck := hc l hk
      clear h1 h2 hc
      go_wp2
      go_ret
      exact ⟨rfl, rfl⟩

/-- It hands back a bool; nothing turns. -/
def AnyBool (w : World) (e : Ending) (w' : World) : Prop := ∃ b, e = .returned (.bool b) ∧ w = w'

set_option maxHeartbeats 1000000 in
theorem bytes_any (a : Option Addr) (pb off n c : Nat) (S : Nat → ByteArray) (w : World) (ha : 0 < n → a = some ⟨pb, off, none⟩) (hc : ∀ j, j < n * 2 → w.cell? ⟨pb, off + j, none⟩ = some (.string (S j))) :
    Calls Try.prog 4 #[.slice a n c] w (AnyBool w) := by
  by_cases hbig : 1048576 < n
  · clear hc ha
    go_enter Try.func4, Try.ntmps4
    go_wp2_with fail
    go_ret
    exact ⟨_, rfl, rfl⟩
  go_enter Try.func4, Try.ntmps4
  go_wp2_with fail
  go_loop [3, 4, 5] (fun z i s => ∃ (k : Nat) (zn : Int) , k ≤ n ∧ i = .int .i64 k ∧ z = .int .i64 zn) (fun _ i _ => n - (intOf i).toNat)
  case atStart => exact ⟨0, n, Nat.zero_le _, rfl, by go_num⟩
  case round =>
    obtain ⟨k, zn, hk, rfl, rfl⟩ := hrel
    by_cases hlt : k < n
    · obtain rfl := ha (by omega)
      clear ha
      go_wp2_with fail
      go_loop [3, 5] (fun z i => ∃ (q : Nat) (zn : Int), q ≤ 2 ∧ i = .int .i64 q ∧ z = .int .i64 zn) (fun _ i => 2 - (intOf i).toNat)
      case atStart => exact ⟨0, zn, by omega, rfl, rfl⟩
      case round =>
        obtain ⟨q, zm, hq, rfl, rfl⟩ := hrel
        by_cases hq2 : q < 2
        · have hcx : w.cell? ⟨pb, off + k * 2 + q, none⟩ = some (.string (S (k * 2 + q))) := by rw [Nat.add_assoc]; exact hc _ (by omega)
          clear hc
          go_wp2_with fail
          · go_ret
            exact ⟨_, rfl, rfl⟩
          · go_ret
            exact ⟨_, rfl, rfl⟩
          · go_round
            case rel => exact ⟨q + 1, _, by omega, by go_num, rfl⟩
            case measure => simp [intOf]; omega
        · go_wp2_with fail
          go_round
          case rel => exact ⟨k + 1, zm, by omega, by go_num, rfl⟩
          case measure => simp [intOf]; omega
    · go_wp2_with fail
      go_ret
      exact ⟨_, rfl, rfl⟩
end Go.Proofs.Qxb6617543a
