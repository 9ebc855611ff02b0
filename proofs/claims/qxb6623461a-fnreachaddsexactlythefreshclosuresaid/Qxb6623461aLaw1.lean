/-
  THE WALK over FnReachAddsExactlyTheFreshClosure (3).
-/
import Derived.Test.Qxb6623461aCopy
namespace Go.Proofs.Qxb6623461a
open Go.RowKit Plain

theorem Try.info5 : (Try.prog.info? 5).map (fun i => (i.zero, i.size, i.bytes)) = some (some (.int .u8 0), 1, 1) := by kernel_rfl
theorem Try.info38 : (Try.prog.info? 38).map (fun i => (i.zero, i.size, i.bytes)) = some (some (.agg #[.int .u64 0, .int .u64 0, .int .u64 0, .int .u64 0]), 4, 32) := by kernel_rfl
theorem Try.size5 : (Try.prog.info? 5).map (·.size) = some 1 := by kernel_rfl
theorem Try.size3 : (Try.prog.info? 3).map (·.size) = some 1 := by kernel_rfl
theorem Try.size38 : (Try.prog.info? 38).map (·.size) = some 4 := by kernel_rfl

/-- The cells of a zero [4]uint64. -/
def z38 : Array Value := (Value.agg #[.int .u64 0, .int .u64 0, .int .u64 0, .int .u64 0]).cells
theorem make24 (n : Nat) (hn : n ≤ 65536) : ∀ w : World, (Instr.makeSlice 24 (.int .i64 (n : Int)) (.int .i64 (n : Int))).run Try.prog w = .ok (.slice (some ⟨w.heap.size, 0, none⟩) n n) (w.alloc (.cells (madeCells z38 (n * 4)) 38)) := by
  intro w
  obtain ⟨i0, hi, hz0, hz1, hz2⟩ := info_parts Try.info38
  have := run_make (P := Try.prog) w 24 38 i0 _ Try.underlying24 hi hz0 .i64 .i64 (n : Int) (n : Int) (by omega) (by omega) (by rw [hz2]; omega) (by omega)
  rw [hz1] at this
  show _ = Result.ok _ (w.alloc (.cells (madeCells (Value.agg #[.int .u64 0, .int .u64 0, .int .u64 0, .int .u64 0]).cells (n * 4)) 38))
  simpa using this

set_option maxRecDepth 100000 in
set_option maxHeartbeats 8000000 in
theorem walk3 (a0 a1 a2 a3 a9 : Option Addr) (l0 l1 l2 l3 l9 c0 c1 c2 c3 c9 : Nat) (x1 x2 x3 x4 : Bool) (t : ByteArray) (s : Int) (ops bs tos se : Nat → Int) (M : Nat → Bool) (w : World)
    (h0 : InS w a0 l0 1 (fun j => .int .u8 (ops j))) (h1 : InS w a1 l1 1 (fun j => .int .u8 (bs j))) (h2 : InS w a2 l2 1 (fun j => .int .i64 (tos j))) (h3 : InS w a3 l3 4 (fun j => .int .u64 (se j))) (h9 : InS w a9 l9 1 (fun j => .bool (M j))) :
    Calls Try.prog 3 #[.slice a0 l0 c0, .slice a1 l1 c1, .slice a2 l2 c2, .slice a3 l3 c3, .bool x1, .bool x2, .bool x3, .bool x4, .string t, .slice a9 l9 c9, .int .i64 s] w fun e w' => e = .returned (.bool true) ∧ Below w.heap.size w w' := by
  have cb := bytes_any a0 a1 a2 a3 a9 l0 l1 l2 l3 l9 c0 c1 c2 c3 c9 x1 x2 x3 x4 t s w
  go_enter Try.func3, Try.ntmps3
  go_wp2_with fail
  refine cb.mono ?_
  rintro e w' ⟨b, rfl, rfl⟩
  clear cb
  cases b with
  | false =>
    go_wp2_with fail
    go_ret
    exact ⟨rfl, Below.refl _ _⟩
  | true =>
    go_upto_region 3 with fail
    go_cut [71] (fun s71 wx => w = wx ∧ ∃ b, s71 = .bool b ∧ (b = false → l0 ≤ 65536 ∧ l1 ≤ 65536 ∧ l2 ≤ 65536 ∧ l3 ≤ 65536 ∧ t.size ≤ 65536 ∧ l9 ≤ 65536))
    case first =>
      as_aux_lemma =>
        go_wp2_with fail
        all_goals
          go_meet
          case rel => exact ⟨rfl, _, rfl, fun hb => by simp at hb <;> omega⟩
    case rest =>
      obtain ⟨rfl, b, rfl, hb⟩ := hcut
      cases b with
      | true =>
        go_wp2_with fail
        go_ret
        exact ⟨rfl, Below.refl _ _⟩
      | false =>
        obtain ⟨b0, b1, b2, b3, bt, b9⟩ := hb rfl
        clear hb
        by_cases hbig : ¬ l0 + l1 + 8 * l2 + 32 * l3 + t.size + l9 ≤ 1048576
        · go_wp2_with fail
          go_ret
          exact ⟨rfl, Below.refl _ _⟩
        go_upto_if 93 with fail
        go_cut [0] (fun s wx => Cp wx s l0 1 (fun j => .int .u8 (ops j)) ∧ Below w.heap.size w wx)
        case first =>
          as_aux_lemma =>
            rcases h0 with ⟨rfl, rfl⟩ | ⟨x, rfl, hc⟩
            · go_wp2_with fail
              go_meet
              case rel => exact ⟨cp_nil _ _ _ _, Below.refl _ _⟩
            · have hmk := run_make_row' (P := Try.prog) 22 5 (.int .u8 0) 1 Try.underlying22 Try.info5 rfl .i64 .i64 l0 (by omega) (by omega)
              have hcp := run_copy_in (P := Try.prog) w 22 5 1 l0 c0 x (madeCells #[.int .u8 0] l0) (fun j => .int .u8 (ops j)) Try.underlying22 Try.size5 (by simp [size_madeCells]) hc (fun _ => rfl)
              go_wp2_with fail
              go_meet
              case rel => exact ⟨cp_new1 _ _ _ _, (Below.refl _ _).alloc (Nat.le_refl _) _⟩
        case rest =>
          obtain ⟨cp0, hb0⟩ := hcut
          obtain ⟨w1, hw⟩ : ∃ x, x = wc := ⟨_, rfl⟩
          subst hw
          clear h0
          replace h1 := h1.later hb0
          replace h2 := h2.later hb0
          replace h3 := h3.later hb0
          replace h9 := h9.later hb0
          go_upto_if 102 with fail
          go_cut [1] (fun s wx => Cp wx s l1 1 (fun j => .int .u8 (bs j)) ∧ Below w1.heap.size w1 wx)
          case first =>
            as_aux_lemma =>
              rcases h1 with ⟨rfl, rfl⟩ | ⟨x, rfl, hc⟩
              · go_wp2_with fail
                go_meet
                case rel => exact ⟨cp_nil _ _ _ _, Below.refl _ _⟩
              · have hmk := run_make_row' (P := Try.prog) 22 5 (.int .u8 0) 1 Try.underlying22 Try.info5 rfl .i64 .i64 l1 (by omega) (by omega)
                have hcp := run_copy_in (P := Try.prog) w1 22 5 1 l1 c1 x (madeCells #[.int .u8 0] l1) (fun j => .int .u8 (bs j)) Try.underlying22 Try.size5 (by simp [size_madeCells]) hc (fun _ => rfl)
                go_wp2_with fail
                go_meet
                case rel => exact ⟨cp_new1 _ _ _ _, (Below.refl _ _).alloc (Nat.le_refl _) _⟩
          case rest =>
            obtain ⟨cp1, hb1⟩ := hcut
            obtain ⟨w2, hw⟩ : ∃ x, x = wc := ⟨_, rfl⟩
            subst hw
            clear h1
            replace h2 := h2.later hb1
            replace h3 := h3.later hb1
            replace h9 := h9.later hb1
            replace cp0 := cp0.later hb1
            go_upto_if 111 with fail
            go_cut [2] (fun s wx => Cp wx s l2 1 (fun j => .int .i64 (tos j)) ∧ Below w2.heap.size w2 wx)
            case first =>
              as_aux_lemma =>
                rcases h2 with ⟨rfl, rfl⟩ | ⟨x, rfl, hc⟩
                · go_wp2_with fail
                  go_meet
                  case rel => exact ⟨cp_nil _ _ _ _, Below.refl _ _⟩
                · have hmk := run_make_row' (P := Try.prog) 23 3 (.int .i64 0) 8 Try.underlying23 Try.info3 rfl .i64 .i64 l2 (by omega) (by omega)
                  have hcp := run_copy_in (P := Try.prog) w2 23 3 1 l2 c2 x (madeCells #[.int .i64 0] l2) (fun j => .int .i64 (tos j)) Try.underlying23 Try.size3 (by simp [size_madeCells]) hc (fun _ => rfl)
                  go_wp2_with fail
                  go_meet
                  case rel => exact ⟨cp_new1 _ _ _ _, (Below.refl _ _).alloc (Nat.le_refl _) _⟩
            case rest =>
              obtain ⟨cp2, hb2⟩ := hcut
              obtain ⟨w3, hw⟩ : ∃ x, x = wc := ⟨_, rfl⟩
              subst hw
              clear h2
              replace h3 := h3.later hb2
              replace h9 := h9.later hb2
              replace cp0 := cp0.later hb2
              replace cp1 := cp1.later hb2
              go_upto_if 120 with fail
              go_cut [3] (fun s wx => Cp wx s l3 4 (fun j => .int .u64 (se j)) ∧ Below w3.heap.size w3 wx)
              case first =>
                as_aux_lemma =>
                  rcases h3 with ⟨rfl, rfl⟩ | ⟨x, rfl, hc⟩
                  · go_wp2_with fail
                    go_meet
                    case rel => exact ⟨cp_nil _ _ _ _, Below.refl _ _⟩
                  · have hmk := make24 l3 (by omega)
                    have hcp := run_copy_in (P := Try.prog) w3 24 38 4 l3 c3 x (madeCells z38 (l3 * 4)) (fun j => .int .u64 (se j)) Try.underlying24 Try.size38 (by simp [size_madeCells]) hc (fun _ => rfl)
                    go_wp2_with fail
                    go_meet
                    case rel => exact ⟨cp_new _ _ _ _ _, (Below.refl _ _).alloc (Nat.le_refl _) _⟩
              case rest =>
                obtain ⟨cp3, hb3⟩ := hcut
                obtain ⟨w4, hw⟩ : ∃ x, x = wc := ⟨_, rfl⟩
                subst hw
                clear h3
                replace h9 := h9.later hb3
                replace cp0 := cp0.later hb3
                replace cp1 := cp1.later hb3
                replace cp2 := cp2.later hb3
                have hB : Below w.heap.size w w4 := hb0.trans ((hb1.mono hb0.size).trans ((hb2.mono (Nat.le_trans hb0.size hb1.size)).trans (hb3.mono (Nat.le_trans hb0.size (Nat.le_trans hb1.size hb2.size)))))
                clear hb0 hb1 hb2 hb3
                obtain ⟨oa, oc, ob, rfl, hoa, co⟩ := cp0
                obtain ⟨ba, bc, bb, rfl, hba, cbb⟩ := cp1
                obtain ⟨ta, tc, tb, rfl, hta, ct⟩ := cp2
                obtain ⟨ea, ec, eb, rfl, hea, ce⟩ := cp3
                by_cases e1 : l1 = l0
                case neg =>
                  as_aux_lemma =>
                    have e1' : ((l1 : Int) != (l0 : Int)) = true := by simp; omega
                    go_wp2_with fail
                    go_ret
                    exact ⟨rfl, hB⟩
                subst e1
                by_cases e2 : l2 = l1
                case neg =>
                  as_aux_lemma =>
                    have e2' : ((l2 : Int) != (l1 : Int)) = true := by simp; omega
                    go_wp2_with fail
                    go_ret
                    exact ⟨rfl, hB⟩
                subst e2
                by_cases e3 : l3 = l2
                case neg =>
                  as_aux_lemma =>
                    have e3' : ((l3 : Int) != (l2 : Int)) = true := by simp; omega
                    go_wp2_with fail
                    go_ret
                    exact ⟨rfl, hB⟩
                subst e3
                by_cases e9 : l9 < l3 + 1
                case pos =>
                  as_aux_lemma =>
                    go_wp2_with fail
                    go_ret
                    exact ⟨rfl, hB⟩
                by_cases s0 : s < 0
                case pos =>
                  as_aux_lemma =>
                    go_wp2_with fail
                    go_ret
                    exact ⟨rfl, hB⟩
                by_cases s1 : (l3 : Int) < s
                case pos =>
                  as_aux_lemma =>
                    go_wp2_with fail
                    go_ret
                    exact ⟨rfl, hB⟩
                obtain ⟨sn, rfl⟩ : ∃ n : Nat, s = n := ⟨s.toNat, by omega⟩
                have hsn : sn ≤ l3 := by omega
                obtain ⟨rb0, off, ha9, hcr⟩ : ∃ rb0 off, a9 = some ⟨rb0, off, none⟩ ∧ ∀ j, j < l9 → w4.cell? ⟨rb0, off + j, none⟩ = some (.bool (M j)) := h9.bare (by omega)
                subst ha9
                have hS4 : Src w4 ob bb tb eb l3 ops bs tos (fun i j => se (i * 4 + j)) := src_of co cbb ct ce
                clear h9 cbb ce hbig bt
                go_wp2_with fail
                clear s0 s1
                go_loop [28] (fun i => ∃ k : Nat, k ≤ l3 ∧ i = .int .i64 k ∧ ∀ j, j < k → ops j = 6 → 0 ≤ tos j ∧ tos j ≤ l3) (fun i => l3 - (intOf i).toNat)
                case atStart => exact ⟨0, Nat.zero_le _, rfl, fun j hj => by omega⟩
                case round =>
                  obtain ⟨k, hk, rfl, hup⟩ := hrel
                  by_cases hlt : k < l3
                  · obtain rfl := hoa (by omega)
                    obtain rfl := hta (by omega)
                    have g0 := co k (by omega)
                    have g2 := ct k (by omega)
                    have HU : Hid (∀ j, j < k → ops j = 6 → 0 ≤ tos j ∧ tos j ≤ l3) := hup
                    clear hup co ct hoa hta hba hea hS4 hcr
                    by_cases h6 : ops k = 6
                    · have e6 : (ops k == 6) = true := by simp [h6]
                      have H6 : Hid (ops k = 6) := h6
                      clear h6
                      by_cases t0 : tos k < 0
                      · go_wp2_with fail
                        go_ret
                        exact ⟨rfl, hB⟩
                      · by_cases t1 : (l3 : Int) < tos k
                        · go_wp2_with fail
                          go_ret
                          exact ⟨rfl, hB⟩
                        · go_wp2_with fail
                          go_round
                          case rel =>
                            refine ⟨k + 1, by omega, by go_num, fun j hj h => ?_⟩
                            by_cases e : j = k
                            · subst e; omega
                            · exact HU.out j (by omega) h
                          case measure => simp [intOf]; omega
                    · have e6 : (ops k == 6) = false := by simp [h6]
                      have H6 : Hid (¬ ops k = 6) := h6
                      clear h6
                      go_wp2_with fail
                      go_round
                      case rel =>
                        refine ⟨k + 1, by omega, by go_num, fun j hj h => ?_⟩
                        by_cases e : j = k
                        · subst e; exact absurd h H6.out
                        · exact HU.out j (by omega) h
                      case measure => simp [intOf]; omega
                  · as_aux_lemma =>
                    have hto : ∀ j, j < l3 → ops j = 6 → 0 ≤ tos j ∧ tos j ≤ l3 := fun j hj => hup j (by omega)
                    clear hup
                    have cl1 := clone_any rb0 off l9 c9 M w4 b9 (World.block_lt_of_cell? _ _ (hcr 0 (by omega))) hcr
                    clear hcr
                    go_wp2_with fail
                    refine cl1.mono ?_
                    rintro e w5 ⟨rfl, r5, hb5, -⟩
                    clear cl1
                    have cl2 := clone_any w4.heap.size 0 l9 l9 M w5 b9 r5.lt (fun i hi => by rw [Nat.zero_add]; exact r5.cell hi)
                    go_wp2_with fail
                    refine cl2.mono ?_
                    rintro e w6 ⟨rfl, r6, hb6, -⟩
                    clear cl2
                    have hb6' : Below w6.heap.size w6 (w6.alloc (.cells #[.int .i64 (sn : Int)] 3)) := (Below.refl _ _).alloc (Nat.le_refl _) _
                    have h47 : Below w4.heap.size w4 (w6.alloc (.cells #[.int .i64 (sn : Int)] 3)) := hb5.trans ((hb6.mono hb5.size).trans (hb6'.mono (Nat.le_trans hb5.size hb6.size)))
                    have cl3 := closure_any oa ta ob tb w5.heap.size w6.heap.size l3 l9 1 oc tc l9 1 hoa hta ops tos M (fun _ => sn) (w6.alloc (.cells #[.int .i64 (sn : Int)] 3)) (by omega) b9 (by omega) (fun i hi => cell_later h47 (co i (by omega))) (fun i hi => cell_later h47 (ct i (by omega))) (r6.alloc _) (src_one w6 _) (fun _ _ => hsn) hto
                    clear co ct
                    go_wp2_with fail
                    refine cl3.mono ?_
                    rintro e w7 ⟨rfl, W, hW, r7, hb7⟩
                    clear cl3
                    have h57 : Below w5.heap.size w5 w7 := hb6.trans ((hb6'.mono hb6.size).trans (hb7.mono (by simp; have := hb6.size; omega)))
                    have h47' : Below w4.heap.size w4 w7 := hb5.trans (h57.mono hb5.size)
                    have r57 := r5.of_block (h57.block _ r5.lt)
                    have cl4 := zzreach_any oa ba ta ea ob bb tb eb w4.heap.size l3 l9 oc bc tc ec l9 hoa hba hta hea ops bs tos _ x1 x2 x3 x4 t M sn w7 (by omega) b9 hsn (hS4.later h47') r57 hto
                    clear hS4 hto hoa hba hta hea
                    go_wp2_with fail
                    refine cl4.mono ?_
                    rintro e w8 ⟨rfl, M', hM, r8, g8⟩
                    clear cl4
                    have hne : (w6.alloc (.cells #[.int .i64 (sn : Int)] 3)).heap.size ≠ w4.heap.size := by simp; have := hb5.size; have := hb6.size; omega
                    have r78 := r7.of_block (g8.block _ r7.lt (by simpa using hne))
                    have heq := (reached_from_one (S := fun s => ∃ k, k < 1 ∧ s = sn) (fun t => ⟨fun ⟨_, _, h⟩ => h, fun h => ⟨0, by omega, h⟩⟩) hM).unique hW
                    have cl5 := same_any w4.heap.size (w6.alloc (.cells #[.int .i64 (sn : Int)] 3)).heap.size l9 l9 l9 M' W w8 b9 (fun i hi => r8.cell hi) (fun i hi => r78.cell hi) (fun i _ => heq i)
                    have fin : Below w.heap.size w w8 := (hB.trans (h47'.mono hB.size)).grown g8 (Nat.le_trans hB.size h47'.size) (fun k hk => by cases hk; exact hB.size)
                    have hsz : (w6.alloc (.cells #[.int .i64 (sn : Int)] 3)).heap.size = w6.heap.size + 1 := by simp
                    rw [hsz] at cl5
                    clear heq r78 r8 r57 r7 r6 r5 hne hsz g8 h57 h47' h47 hb7 hb6' hb6 hb5
                    go_wp2_with fail
                    refine cl5.mono ?_
                    rintro e w9 ⟨rfl, n9, rfl⟩
                    clear cl5
                    go_wp2_with fail
                    go_ret
                    exact ⟨rfl, below_drewN fin _⟩
end Go.Proofs.Qxb6623461a
