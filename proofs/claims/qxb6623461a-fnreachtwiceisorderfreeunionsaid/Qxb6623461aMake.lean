/-
  Small facts for the walk over FnReachTwiceIsOrderFreeUnion: closed facts on types; two sources.
-/
import Derived.Test.Qxb6623461aCopy
namespace Go.Proofs.Qxb6623461a
open Go.RowKit Plain

theorem Try.info5 : (Try.prog.info? 5).map (fun i => (i.zero, i.size, i.bytes)) = some (some (.int .u8 0), 1, 1) := by kernel_rfl
theorem Try.info38 : (Try.prog.info? 38).map (fun i => (i.zero, i.size, i.bytes)) = some (some (.agg #[.int .u64 0, .int .u64 0, .int .u64 0, .int .u64 0]), 4, 32) := by kernel_rfl
theorem Try.size5 : (Try.prog.info? 5).map (·.size) = some 1 := by kernel_rfl
theorem Try.size3 : (Try.prog.info? 3).map (·.size) = some 1 := by kernel_rfl
theorem Try.size38 : (Try.prog.info? 38).map (·.size) = some 4 := by kernel_rfl

/-- The cells of a zero [4]uint64. -/
def z38 : Array Value := (Value.agg #[.int .u64 0, .int .u64 0, .int .u64 0, .int .u64 0]).cells
theorem make24 (n : Nat) (hn : n ≤ 65536) : ∀ w : World, (Instr.makeSlice 24 (.int .i64 (n : Int)) (.int .i64 (n : Int))).run Try.prog w = .ok (.slice (some ⟨w.heap.size, 0, none⟩) n n) (w.alloc (.cells (madeCells z38 (n * 4)) 38)) := by
  intro w
  obtain ⟨i0, hi, hz0, hz1, hz2⟩ := info_parts Try.info38
  have := run_make (P := Try.prog) w 24 38 i0 _ Try.underlying24 hi hz0 .i64 .i64 (n : Int) (n : Int) (by omega) (by omega) (by rw [hz2]; omega) (by omega)
  rw [hz1] at this
  show _ = Result.ok _ (w.alloc (.cells (madeCells (Value.agg #[.int .u64 0, .int .u64 0, .int .u64 0, .int .u64 0]).cells (n * 4)) 38))
  simpa using this

/-- The two sources. -/
def pick2 (m1 m2 : Nat) (k : Nat) : Nat := if k = 0 then m1 else m2
theorem pick2_le {m1 m2 n : Nat} (h1 : m1 ≤ n) (h2 : m2 ≤ n) : ∀ k, k < 2 → pick2 m1 m2 k ≤ n := fun k _ => by unfold pick2; split <;> assumption
theorem pick2_iff (m1 m2 : Nat) (s : Nat) : (∃ k, k < 2 ∧ s = pick2 m1 m2 k) ↔ s = m1 ∨ s = m2 := by
  constructor
  · rintro ⟨k, _, h⟩
    unfold pick2 at h
    split at h
    · exact .inl h
    · exact .inr h
  · rintro (h | h)
    · exact ⟨0, by omega, h⟩
    · exact ⟨1, by omega, h⟩
theorem src_two (w : World) (m1 m2 : Nat) : ∀ k, k < 2 → (w.alloc (.cells #[.int .i64 (m1 : Int), .int .i64 (m2 : Int)] 3)).cell? ⟨w.heap.size, k, none⟩ = some (I (pick2 m1 m2 k)) := by
  intro k hk
  have hr : (w.alloc (.cells #[.int .i64 (m1 : Int), .int .i64 (m2 : Int)] 3)).rowIs w.heap.size 3 2 (fun k => I (pick2 m1 m2 k)) := by
    refine ⟨_, Deep.blk_alloc_new _ _, rfl, fun i hi => ?_⟩
    match i, hi with
    | 0, _ => rfl
    | 1, _ => rfl
  exact hr.cell hk
end Go.Proofs.Qxb6623461a
