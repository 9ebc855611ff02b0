/-
  THE WALK over wildcard.zzPatternOf (11) and wildcard.ZZReach (8).
-/
import Derived.Test.Qxb6623461aReach
namespace Go.Proofs.Qxb6623461a
open Go.RowKit Plain

theorem Try.info41 : (Try.prog.info? 41).map (fun i => (i.zero, i.size, i.bytes)) = some (some (.agg #[.int .u8 0, .int .u8 0, .int .i64 0, .int .u64 0, .int .u64 0, .int .u64 0, .int .u64 0]), 7, 48) := by kernel_rfl

/-- What the pattern is built from: the four slices' cells, each its own block from its head on. -/
structure Src (w : World) (ob bb tb eb n : Nat) (ops bs tos : Nat → Int) (set : Nat → Nat → Int) : Prop where
  op : ∀ i, i < n → w.cell? ⟨ob, i, none⟩ = some (.int .u8 (ops i))
  b : ∀ i, i < n → w.cell? ⟨bb, i, none⟩ = some (.int .u8 (bs i))
  to : ∀ i, i < n → w.cell? ⟨tb, i, none⟩ = some (.int .i64 (tos i))
  e0 : ∀ i, i < n → w.cell? ⟨eb, i * 4, none⟩ = some (.int .u64 (set i 0))
  e1 : ∀ i, i < n → w.cell? ⟨eb, i * 4 + 1, none⟩ = some (.int .u64 (set i 1))
  e2 : ∀ i, i < n → w.cell? ⟨eb, i * 4 + 2, none⟩ = some (.int .u64 (set i 2))
  e3 : ∀ i, i < n → w.cell? ⟨eb, i * 4 + 3, none⟩ = some (.int .u64 (set i 3))

theorem Src.later {w w' : World} {ob bb tb eb n : Nat} {ops bs tos : Nat → Int} {set : Nat → Nat → Int} (h : Src w ob bb tb eb n ops bs tos set) (hb : Below w.heap.size w w') : Src w' ob bb tb eb n ops bs tos set :=
  ⟨fun i hi => cell_later hb (h.op i hi), fun i hi => cell_later hb (h.b i hi), fun i hi => cell_later hb (h.to i hi), fun i hi => cell_later hb (h.e0 i hi), fun i hi => cell_later hb (h.e1 i hi), fun i hi => cell_later hb (h.e2 i hi), fun i hi => cell_later hb (h.e3 i hi)⟩

/-- The steps as they are laid: the first k of them. -/
structure Laid (w : World) (sb n k : Nat) (ops tos : Nat → Int) : Prop where
  cell : ∀ i, i < n * 7 → ∃ v, w.cell? ⟨sb, i, none⟩ = some v
  free : ∀ i, w.frozen? ⟨sb, i, none⟩ = false
  op : ∀ i, i < k → w.cell? ⟨sb, i * 7, none⟩ = some (.int .u8 (ops i))
  to : ∀ i, i < k → w.cell? ⟨sb, i * 7 + 2, none⟩ = some (.int .i64 (tos i))

theorem laid_start (w : World) (n : Nat) (z : Array Value) (ops tos : Nat → Int) : Laid (w.alloc (.cells (madeCells z (n * 7)) 41)) w.heap.size n 0 ops tos := by
  have hr : (w.alloc (.cells (madeCells z (n * 7)) 41)).rowIs w.heap.size 41 (n * 7) (fun i => (madeCells z (n * 7))[i]!) := by
    refine ⟨_, Deep.blk_alloc_new _ _, size_madeCells _ _, fun i hi => ?_⟩
    have : i < (madeCells z (n * 7)).size := by rw [size_madeCells]; exact hi
    simp [getElem!_pos, this]
  exact ⟨fun i hi => ⟨_, hr.cell hi⟩, fun i => hr.frozen i, fun i hi => by omega, fun i hi => by omega⟩

theorem laid_step {w : World} {sb n k : Nat} {ops tos : Nat → Int} (h : Laid w sb n k ops tos) (hlt : k < n) (v1 v3 v4 v5 v6 : Value) :
    Laid (w.setCells sb (k * 7) [.int .u8 (ops k), v1, .int .i64 (tos k), v3, v4, v5, v6]) sb n (k + 1) ops tos := by
  have some' : ∀ j, j < ([.int .u8 (ops k), v1, .int .i64 (tos k), v3, v4, v5, v6] : List Value).length → (w.cell? ⟨sb, k * 7 + j, none⟩).isSome = true := fun j hj => by
    obtain ⟨v, hv⟩ := h.cell (k * 7 + j) (by simp at hj; omega)
    rw [hv]; rfl
  refine ⟨fun i hi => ?_, fun i => ?_, fun i hi => ?_, fun i hi => ?_⟩
  · by_cases hin : k * 7 ≤ i ∧ i < k * 7 + 7
    · have := World.cell?_setCells_in sb _ (k * 7) w some' (i - k * 7) (by simp; omega)
      rw [show k * 7 + (i - k * 7) = i by omega] at this
      exact ⟨_, this⟩
    · obtain ⟨v, hv⟩ := h.cell i hi
      refine ⟨v, ?_⟩
      rw [World.cell?_setCells_out sb _ (k * 7) w _ (fun _ _ => by simp; omega)]
      exact hv
  · rw [World.frozen?_setCells]; exact h.free i
  · by_cases e : i = k
    · subst e; exact World.cell?_setCells_in sb _ (i * 7) w some' 0 (by simp)
    · rw [World.cell?_setCells_out sb _ (k * 7) w _ (fun _ _ => by simp; omega)]
      exact h.op i (by omega)
  · by_cases e : i = k
    · subst e; exact World.cell?_setCells_in sb _ (i * 7) w some' 2 (by simp)
    · rw [World.cell?_setCells_out sb _ (k * 7) w _ (fun _ _ => by simp; omega)]
      exact h.to i (by omega)

theorem laid_drew {w : World} {sb n k : Nat} {ops tos : Nat → Int} (h : Laid w sb n k ops tos) : Laid w.drew sb n k ops tos := ⟨h.cell, h.free, h.op, h.to⟩

theorem pat_done {w : World} {sb n : Nat} {ops tos : Nat → Int} (x1 x2 x3 x4 x5 : Value) (h : Laid w sb n n ops tos) (hs : w.heap.size = sb + 1) :
    PatAt (w.alloc (.cells #[x1, x2, x3, x4, x5, .slice (some ⟨sb, 0, none⟩) n n] 43)) (sb + 1) sb n ops tos := by
  have hb : Below w.heap.size w (w.alloc (.cells #[x1, x2, x3, x4, x5, .slice (some ⟨sb, 0, none⟩) n n] 43)) := (Below.refl _ _).alloc (Nat.le_refl _) _
  refine ⟨?_, fun i hi => cell_later hb (h.op i hi), fun i hi => cell_later hb (h.to i hi)⟩
  have hr : (w.alloc (.cells #[x1, x2, x3, x4, x5, .slice (some ⟨sb, 0, none⟩) n n] 43)).rowIs w.heap.size 43 6 (fun i => #[x1, x2, x3, x4, x5, .slice (some ⟨sb, 0, none⟩) n n][i]!) :=
    ⟨_, Deep.blk_alloc_new _ _, rfl, fun i hi => by match i, hi with | 0, _ | 1, _ | 2, _ | 3, _ | 4, _ | 5, _ => rfl⟩
  have := hr.cell (i := 5) (by omega)
  rw [hs] at this
  exact this

set_option maxHeartbeats 1000000 in
theorem pattern_any (oa ba ta ea : Option Addr) (ob bb tb eb n oc bc tc ec : Nat) (hoa : 0 < n → oa = some ⟨ob, 0, none⟩) (hba : 0 < n → ba = some ⟨bb, 0, none⟩) (hta : 0 < n → ta = some ⟨tb, 0, none⟩) (hea : 0 < n → ea = some ⟨eb, 0, none⟩) (ops bs tos : Nat → Int) (set : Nat → Nat → Int) (x1 x2 x3 x4 : Bool) (t : ByteArray) (w : World) (hn : n ≤ 65536) (h : Src w ob bb tb eb n ops bs tos set) :
    Calls Try.prog 11 #[.slice oa n oc, .slice ba n bc, .slice ta n tc, .slice ea n ec, .bool x1, .bool x2, .bool x3, .bool x4, .string t] w fun e w' =>
      e = .returned (.pointer (some ⟨w.heap.size + 1, 0, none⟩)) ∧ PatAt w' (w.heap.size + 1) w.heap.size n ops tos ∧ Below w.heap.size w w' := by
  obtain ⟨i0, hi, hz0, hz1, hz2⟩ := info_parts Try.info41
  have hmk : ∀ w : World, (Instr.makeSlice 35 (.int .i64 (n : Int)) (.int .i64 (n : Int))).run Try.prog w = .ok (.slice (some ⟨w.heap.size, 0, none⟩) n n) (w.alloc (.cells (madeCells (Value.agg #[.int .u8 0, .int .u8 0, .int .i64 0, .int .u64 0, .int .u64 0, .int .u64 0, .int .u64 0]).cells (n * 7)) 41)) := by
    intro w
    have := run_make (P := Try.prog) w 35 41 i0 _ Try.underlying35 hi hz0 .i64 .i64 (n : Int) (n : Int) (by omega) (by omega) (by rw [hz2]; omega) (by omega)
    rw [hz1] at this
    simpa using this
  clear hi hz0 hz1 hz2
  go_enter Try.func11, Try.ntmps11
  go_wp2
  go_loopw [20] (fun i wr => ∃ k : Nat, k ≤ n ∧ i = .int .i64 k ∧ Laid wr w.heap.size n k ops tos ∧ Below w.heap.size w wr ∧ wr.heap.size = w.heap.size + 1)
    (fun i _ => n - (intOf i).toNat)
  case atStart => exact ⟨0, Nat.zero_le _, rfl, laid_start w n _ ops tos, (Below.refl _ _).alloc (Nat.le_refl _) _, by simp⟩
  case round =>
    obtain ⟨k, hk, rfl, hrow, hbel, hsz⟩ := hrel
    by_cases hlt : k < n
    · obtain rfl := hoa (by omega)
      obtain rfl := hba (by omega)
      obtain rfl := hta (by omega)
      obtain rfl := hea (by omega)
      clear hoa hba hta hea
      have hs := h.later hbel
      have a1 := hs.op k hlt
      have a2 := hs.b k hlt
      have a3 := hs.to k hlt
      have a4 := hs.e0 k hlt
      have a5 := hs.e1 k hlt
      have a6 := hs.e2 k hlt
      have a7 := hs.e3 k hlt
      obtain ⟨v0, b0⟩ := hrow.cell (k * 7) (by omega)
      obtain ⟨v1, b1⟩ := hrow.cell (k * 7 + 1) (by omega)
      obtain ⟨v2, b2⟩ := hrow.cell (k * 7 + 2) (by omega)
      obtain ⟨v3, b3⟩ := hrow.cell (k * 7 + 3) (by omega)
      obtain ⟨v4, b4⟩ := hrow.cell (k * 7 + 4) (by omega)
      obtain ⟨v5, b5⟩ := hrow.cell (k * 7 + 5) (by omega)
      obtain ⟨v6, b6⟩ := hrow.cell (k * 7 + 6) (by omega)
      have hf := hrow.free
      clear hs
      go_wp2
      go_region
      clear a1 a2 a3 a4 a5 a6 a7 b0 b1 b2 b3 b4 b5 b6 hf
      go_wp2
      go_roundw
      case rel =>
        refine ⟨k + 1, by omega, by go_num, laid_drew (laid_step hrow hlt _ _ _ _ _), ?_, ?_⟩
        · exact (((((((hbel.setCell (Nat.le_refl _) _).setCell (Nat.le_refl _) _).setCell (Nat.le_refl _) _).setCell (Nat.le_refl _) _).setCell (Nat.le_refl _) _).setCell (Nat.le_refl _) _).setCell (Nat.le_refl _) _).drew
        · simp [World.setCell, World.drew]; exact hsz
      case measure => simp [intOf]; omega
    · go_wp2
      go_ret
      have ek : k = n := by omega
      exact ⟨rfl, pat_done _ _ _ _ _ (ek ▸ hrow) hsz, hbel.alloc (by omega) _⟩

theorem zzreach_any (oa ba ta ea : Option Addr) (ob bb tb eb rb n L oc bc tc ec rc : Nat) (hoa : 0 < n → oa = some ⟨ob, 0, none⟩) (hba : 0 < n → ba = some ⟨bb, 0, none⟩) (hta : 0 < n → ta = some ⟨tb, 0, none⟩) (hea : 0 < n → ea = some ⟨eb, 0, none⟩) (ops bs tos : Nat → Int) (set : Nat → Nat → Int) (x1 x2 x3 x4 : Bool) (t : ByteArray) (M : Nat → Bool) (s : Nat) (w : World) (hn : n < L) (hL : L ≤ 65536) (hs : s ≤ n)
    (h : Src w ob bb tb eb n ops bs tos set) (hr : w.rowIs rb 4 L (fun i => .bool (M i))) (hto : ∀ i, i < n → ops i = 6 → 0 ≤ tos i ∧ tos i ≤ n) :
    Calls Try.prog 8 #[.slice oa n oc, .slice ba n bc, .slice ta n tc, .slice ea n ec, .bool x1, .bool x2, .bool x3, .bool x4, .string t, .slice (some ⟨rb, 0, none⟩) L rc, .int .i64 s] w
      (Left12 rb n L ops tos M s w) := by
  have c1 := pattern_any oa ba ta ea ob bb tb eb n oc bc tc ec hoa hba hta hea ops bs tos set x1 x2 x3 x4 t w (by omega) h
  have hlt := hr.lt
  have c2 := fun w1 => reach_any (w.heap.size + 1) w.heap.size rb n L rc ops tos hn hL (by omega) (by omega) hto (L - cnt M L) M s w1 (Nat.le_refl _) hs
  clear hto hoa hba hta hea
  go_enter Try.func8, Try.ntmps8
  go_wp2_with fail
  refine c1.mono ?_
  rintro e w1 ⟨rfl, hp, hb⟩
  have hr1 := hr.of_block (hb.block rb hlt)
  have c3 := c2 w1 hp hr1
  clear c1 c2 h
  go_wp2_with fail
  refine c3.mono ?_
  rintro e w2 ⟨rfl, M', r, row, g⟩
  go_wp2_with fail
  go_end0
  exact ⟨rfl, M', r, row, ⟨g.os.trans hb.os, g.tape.trans hb.tape, g.output.trans hb.output, Nat.le_trans hb.size g.size, fun k hk hne => (g.block k (Nat.lt_of_lt_of_le hk hb.size) hne).trans (hb.block k hk)⟩⟩
end Go.Proofs.Qxb6623461a
