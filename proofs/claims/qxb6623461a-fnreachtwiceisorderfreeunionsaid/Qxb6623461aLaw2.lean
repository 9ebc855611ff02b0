/-
  THE WALK over FnReachTwiceIsOrderFreeUnion (4).
-/
import Derived.Test.Qxb6623461aMake
namespace Go.Proofs.Qxb6623461a
open Go.RowKit Plain

set_option maxRecDepth 100000 in
set_option maxHeartbeats 8000000 in
theorem walk4 (a0 a1 a2 a3 a9 : Option Addr) (l0 l1 l2 l3 l9 c0 c1 c2 c3 c9 : Nat) (x1 x2 x3 x4 : Bool) (t : ByteArray) (s1 s2 : Int) (ops bs tos se : Nat → Int) (M : Nat → Bool) (w : World)
    (h0 : InS w a0 l0 1 (fun j => .int .u8 (ops j))) (h1 : InS w a1 l1 1 (fun j => .int .u8 (bs j))) (h2 : InS w a2 l2 1 (fun j => .int .i64 (tos j))) (h3 : InS w a3 l3 4 (fun j => .int .u64 (se j))) (h9 : InS w a9 l9 1 (fun j => .bool (M j))) :
    Calls Try.prog 4 #[.slice a0 l0 c0, .slice a1 l1 c1, .slice a2 l2 c2, .slice a3 l3 c3, .bool x1, .bool x2, .bool x3, .bool x4, .string t, .slice a9 l9 c9, .int .i64 s1, .int .i64 s2] w fun e w' => e = .returned (.bool true) ∧ Below w.heap.size w w' := by
  have cb := bytes2_any a0 a1 a2 a3 a9 l0 l1 l2 l3 l9 c0 c1 c2 c3 c9 x1 x2 x3 x4 t s1 s2 w
  go_enter Try.func4, Try.ntmps4
  go_wp2_with fail
  refine cb.mono ?_
  rintro e w' ⟨b, rfl, rfl⟩
  clear cb
  cases b with
  | false =>
    go_wp2_with fail
    go_ret
    exact ⟨rfl, Below.refl _ _⟩
  | true =>
    go_upto_region 3 with fail
    go_cut [75] (fun s71 wx => w = wx ∧ ∃ b, s71 = .bool b ∧ (b = false → l0 ≤ 65536 ∧ l1 ≤ 65536 ∧ l2 ≤ 65536 ∧ l3 ≤ 65536 ∧ t.size ≤ 65536 ∧ l9 ≤ 65536))
    case first =>
      as_aux_lemma =>
        go_wp2_with fail
        all_goals
          go_meet
          case rel => exact ⟨rfl, _, rfl, fun hb => by simp at hb <;> omega⟩
    case rest =>
      obtain ⟨rfl, b, rfl, hb⟩ := hcut
      cases b with
      | true =>
        go_wp2_with fail
        go_ret
        exact ⟨rfl, Below.refl _ _⟩
      | false =>
        obtain ⟨b0, b1, b2, b3, bt, b9⟩ := hb rfl
        clear hb
        by_cases hbig : ¬ l0 + l1 + 8 * l2 + 32 * l3 + t.size + l9 ≤ 1048576
        · go_wp2_with fail
          go_ret
          exact ⟨rfl, Below.refl _ _⟩
        go_upto_if 97 with fail
        go_cut [0] (fun s wx => Cp wx s l0 1 (fun j => .int .u8 (ops j)) ∧ Below w.heap.size w wx)
        case first =>
          as_aux_lemma =>
            rcases h0 with ⟨rfl, rfl⟩ | ⟨x, rfl, hc⟩
            · go_wp2_with fail
              go_meet
              case rel => exact ⟨cp_nil _ _ _ _, Below.refl _ _⟩
            · have hmk := run_make_row' (P := Try.prog) 22 5 (.int .u8 0) 1 Try.underlying22 Try.info5 rfl .i64 .i64 l0 (by omega) (by omega)
              have hcp := run_copy_in (P := Try.prog) w 22 5 1 l0 c0 x (madeCells #[.int .u8 0] l0) (fun j => .int .u8 (ops j)) Try.underlying22 Try.size5 (by simp [size_madeCells]) hc (fun _ => rfl)
              go_wp2_with fail
              go_meet
              case rel => exact ⟨cp_new1 _ _ _ _, (Below.refl _ _).alloc (Nat.le_refl _) _⟩
        case rest =>
          obtain ⟨cp0, hb0⟩ := hcut
          obtain ⟨w1, hw⟩ : ∃ x, x = wc := ⟨_, rfl⟩
          subst hw
          clear h0
          replace h1 := h1.later hb0
          replace h2 := h2.later hb0
          replace h3 := h3.later hb0
          replace h9 := h9.later hb0
          go_upto_if 106 with fail
          go_cut [1] (fun s wx => Cp wx s l1 1 (fun j => .int .u8 (bs j)) ∧ Below w1.heap.size w1 wx)
          case first =>
            as_aux_lemma =>
              rcases h1 with ⟨rfl, rfl⟩ | ⟨x, rfl, hc⟩
              · go_wp2_with fail
                go_meet
                case rel => exact ⟨cp_nil _ _ _ _, Below.refl _ _⟩
              · have hmk := run_make_row' (P := Try.prog) 22 5 (.int .u8 0) 1 Try.underlying22 Try.info5 rfl .i64 .i64 l1 (by omega) (by omega)
                have hcp := run_copy_in (P := Try.prog) w1 22 5 1 l1 c1 x (madeCells #[.int .u8 0] l1) (fun j => .int .u8 (bs j)) Try.underlying22 Try.size5 (by simp [size_madeCells]) hc (fun _ => rfl)
                go_wp2_with fail
                go_meet
                case rel => exact ⟨cp_new1 _ _ _ _, (Below.refl _ _).alloc (Nat.le_refl _) _⟩
          case rest =>
            obtain ⟨cp1, hb1⟩ := hcut
            obtain ⟨w2, hw⟩ : ∃ x, x = wc := ⟨_, rfl⟩
            subst hw
            clear h1
            replace h2 := h2.later hb1
            replace h3 := h3.later hb1
            replace h9 := h9.later hb1
            replace cp0 := cp0.later hb1
            go_upto_if 115 with fail
            go_cut [2] (fun s wx => Cp wx s l2 1 (fun j => .int .i64 (tos j)) ∧ Below w2.heap.size w2 wx)
            case first =>
              as_aux_lemma =>
                rcases h2 with ⟨rfl, rfl⟩ | ⟨x, rfl, hc⟩
                · go_wp2_with fail
                  go_meet
                  case rel => exact ⟨cp_nil _ _ _ _, Below.refl _ _⟩
                · have hmk := run_make_row' (P := Try.prog) 23 3 (.int .i64 0) 8 Try.underlying23 Try.info3 rfl .i64 .i64 l2 (by omega) (by omega)
                  have hcp := run_copy_in (P := Try.prog) w2 23 3 1 l2 c2 x (madeCells #[.int .i64 0] l2) (fun j => .int .i64 (tos j)) Try.underlying23 Try.size3 (by simp [size_madeCells]) hc (fun _ => rfl)
                  go_wp2_with fail
                  go_meet
                  case rel => exact ⟨cp_new1 _ _ _ _, (Below.refl _ _).alloc (Nat.le_refl _) _⟩
            case rest =>
              obtain ⟨cp2, hb2⟩ := hcut
              obtain ⟨w3, hw⟩ : ∃ x, x = wc := ⟨_, rfl⟩
              subst hw
              clear h2
              replace h3 := h3.later hb2
              replace h9 := h9.later hb2
              replace cp0 := cp0.later hb2
              replace cp1 := cp1.later hb2
              go_upto_if 124 with fail
              go_cut [3] (fun s wx => Cp wx s l3 4 (fun j => .int .u64 (se j)) ∧ Below w3.heap.size w3 wx)
              case first =>
                as_aux_lemma =>
                  rcases h3 with ⟨rfl, rfl⟩ | ⟨x, rfl, hc⟩
                  · go_wp2_with fail
                    go_meet
                    case rel => exact ⟨cp_nil _ _ _ _, Below.refl _ _⟩
                  · have hmk := make24 l3 (by omega)
                    have hcp := run_copy_in (P := Try.prog) w3 24 38 4 l3 c3 x (madeCells z38 (l3 * 4)) (fun j => .int .u64 (se j)) Try.underlying24 Try.size38 (by simp [size_madeCells]) hc (fun _ => rfl)
                    go_wp2_with fail
                    go_meet
                    case rel => exact ⟨cp_new _ _ _ _ _, (Below.refl _ _).alloc (Nat.le_refl _) _⟩
              case rest =>
                obtain ⟨cp3, hb3⟩ := hcut
                obtain ⟨w4, hw⟩ : ∃ x, x = wc := ⟨_, rfl⟩
                subst hw
                clear h3
                replace h9 := h9.later hb3
                replace cp0 := cp0.later hb3
                replace cp1 := cp1.later hb3
                replace cp2 := cp2.later hb3
                have hB : Below w.heap.size w w4 := hb0.trans ((hb1.mono hb0.size).trans ((hb2.mono (Nat.le_trans hb0.size hb1.size)).trans (hb3.mono (Nat.le_trans hb0.size (Nat.le_trans hb1.size hb2.size)))))
                clear hb0 hb1 hb2 hb3
                obtain ⟨oa, oc, ob, rfl, hoa, co⟩ := cp0
                obtain ⟨ba, bc, bb, rfl, hba, cbb⟩ := cp1
                obtain ⟨ta, tc, tb, rfl, hta, ct⟩ := cp2
                obtain ⟨ea, ec, eb, rfl, hea, ce⟩ := cp3
                by_cases e1 : l1 = l0
                case neg =>
                  as_aux_lemma =>
                    have e1' : ((l1 : Int) != (l0 : Int)) = true := by simp; omega
                    go_wp2_with fail
                    go_ret
                    exact ⟨rfl, hB⟩
                subst e1
                by_cases e2 : l2 = l1
                case neg =>
                  as_aux_lemma =>
                    have e2' : ((l2 : Int) != (l1 : Int)) = true := by simp; omega
                    go_wp2_with fail
                    go_ret
                    exact ⟨rfl, hB⟩
                subst e2
                by_cases e3 : l3 = l2
                case neg =>
                  as_aux_lemma =>
                    have e3' : ((l3 : Int) != (l2 : Int)) = true := by simp; omega
                    go_wp2_with fail
                    go_ret
                    exact ⟨rfl, hB⟩
                subst e3
                by_cases e9 : l9 < l3 + 1
                case pos =>
                  as_aux_lemma =>
                    go_wp2_with fail
                    go_ret
                    exact ⟨rfl, hB⟩
                by_cases p1 : s1 < 0
                case pos =>
                  as_aux_lemma =>
                    go_wp2_with fail
                    go_ret
                    exact ⟨rfl, hB⟩
                by_cases q1 : (l3 : Int) < s1
                case pos =>
                  as_aux_lemma =>
                    go_wp2_with fail
                    go_ret
                    exact ⟨rfl, hB⟩
                by_cases p2 : s2 < 0
                case pos =>
                  as_aux_lemma =>
                    go_wp2_with fail
                    go_ret
                    exact ⟨rfl, hB⟩
                by_cases q2 : (l3 : Int) < s2
                case pos =>
                  as_aux_lemma =>
                    go_wp2_with fail
                    go_ret
                    exact ⟨rfl, hB⟩
                obtain ⟨m1, rfl⟩ : ∃ n : Nat, s1 = n := ⟨s1.toNat, by omega⟩
                have hm1 : m1 ≤ l3 := by omega
                obtain ⟨m2, rfl⟩ : ∃ n : Nat, s2 = n := ⟨s2.toNat, by omega⟩
                have hm2 : m2 ≤ l3 := by omega
                obtain ⟨rb0, off, ha9, hcr⟩ : ∃ rb0 off, a9 = some ⟨rb0, off, none⟩ ∧ ∀ j, j < l9 → w4.cell? ⟨rb0, off + j, none⟩ = some (.bool (M j)) := h9.bare (by omega)
                subst ha9
                have hS4 : Src w4 ob bb tb eb l3 ops bs tos (fun i j => se (i * 4 + j)) := src_of co cbb ct ce
                clear h9 cbb ce hbig bt
                go_wp2_with fail
                clear p1 q1 p2 q2
                go_loop [30] (fun i => ∃ k : Nat, k ≤ l3 ∧ i = .int .i64 k ∧ ∀ j, j < k → ops j = 6 → 0 ≤ tos j ∧ tos j ≤ l3) (fun i => l3 - (intOf i).toNat)
                case atStart => exact ⟨0, Nat.zero_le _, rfl, fun j hj => by omega⟩
                case round =>
                  obtain ⟨k, hk, rfl, hup⟩ := hrel
                  by_cases hlt : k < l3
                  · obtain rfl := hoa (by omega)
                    obtain rfl := hta (by omega)
                    have g0 := co k (by omega)
                    have g2 := ct k (by omega)
                    have HU : Hid (∀ j, j < k → ops j = 6 → 0 ≤ tos j ∧ tos j ≤ l3) := hup
                    clear hup co ct hoa hta hba hea hS4 hcr
                    by_cases h6 : ops k = 6
                    · have e6 : (ops k == 6) = true := by simp [h6]
                      have H6 : Hid (ops k = 6) := h6
                      clear h6
                      by_cases t0 : tos k < 0
                      · go_wp2_with fail
                        go_ret
                        exact ⟨rfl, hB⟩
                      · by_cases t1 : (l3 : Int) < tos k
                        · go_wp2_with fail
                          go_ret
                          exact ⟨rfl, hB⟩
                        · go_wp2_with fail
                          go_round
                          case rel =>
                            refine ⟨k + 1, by omega, by go_num, fun j hj h => ?_⟩
                            by_cases e : j = k
                            · subst e; omega
                            · exact HU.out j (by omega) h
                          case measure => simp [intOf]; omega
                    · have e6 : (ops k == 6) = false := by simp [h6]
                      have H6 : Hid (¬ ops k = 6) := h6
                      clear h6
                      go_wp2_with fail
                      go_round
                      case rel =>
                        refine ⟨k + 1, by omega, by go_num, fun j hj h => ?_⟩
                        by_cases e : j = k
                        · subst e; exact absurd h H6.out
                        · exact HU.out j (by omega) h
                      case measure => simp [intOf]; omega
                  · as_aux_lemma =>
                    have hto : ∀ j, j < l3 → ops j = 6 → 0 ≤ tos j ∧ tos j ≤ l3 := fun j hj => hup j (by omega)
                    clear hup
                    have cl1 := clone_any rb0 off l9 c9 M w4 b9 (World.block_lt_of_cell? _ _ (hcr 0 (by omega))) hcr
                    clear hcr
                    go_wp2_with fail
                    refine cl1.mono ?_
                    rintro e w5 ⟨rfl, r5, hb5, -⟩
                    clear cl1
                    have cl2 := clone_any w4.heap.size 0 l9 l9 M w5 b9 r5.lt (fun i hi => by rw [Nat.zero_add]; exact r5.cell hi)
                    go_wp2_with fail
                    refine cl2.mono ?_
                    rintro e w6 ⟨rfl, r6, hb6, -⟩
                    clear cl2
                    have r56 := r5.of_block (hb6.block _ r5.lt)
                    have cl2 := clone_any w4.heap.size 0 l9 l9 M w6 b9 r56.lt (fun i hi => by rw [Nat.zero_add]; exact r56.cell hi)
                    go_wp2_with fail
                    refine cl2.mono ?_
                    rintro e w7 ⟨rfl, r7, hb7, -⟩
                    clear cl2
                    have hb7' : Below w7.heap.size w7 (w7.alloc (.cells #[.int .i64 (m1 : Int), .int .i64 (m2 : Int)] 3)) := (Below.refl _ _).alloc (Nat.le_refl _) _
                    have h67 : Below w6.heap.size w6 (w7.alloc (.cells #[.int .i64 (m1 : Int), .int .i64 (m2 : Int)] 3)) := hb7.trans (hb7'.mono hb7.size)
                    have h57 : Below w5.heap.size w5 (w7.alloc (.cells #[.int .i64 (m1 : Int), .int .i64 (m2 : Int)] 3)) := hb6.trans (h67.mono hb6.size)
                    have h47 : Below w4.heap.size w4 (w7.alloc (.cells #[.int .i64 (m1 : Int), .int .i64 (m2 : Int)] 3)) := hb5.trans (h57.mono hb5.size)
                    have r57 := r5.of_block (h57.block _ r5.lt)
                    have cl3 := closure_any oa ta ob tb w4.heap.size w7.heap.size l3 l9 2 oc tc l9 2 hoa hta ops tos M (pick2 m1 m2) (w7.alloc (.cells #[.int .i64 (m1 : Int), .int .i64 (m2 : Int)] 3)) (by omega) b9 (by omega) (fun i hi => cell_later h47 (co i (by omega))) (fun i hi => cell_later h47 (ct i (by omega))) r57 (src_two w7 m1 m2) (pick2_le hm1 hm2) hto
                    clear co ct r56 r57
                    go_wp2_with fail
                    refine cl3.mono ?_
                    rintro e w8 ⟨rfl, W, hW, r8, hb8⟩
                    clear cl3
                    have s5 := hb5.size
                    have s6 := hb6.size
                    have s7 := hb7.size
                    have l5 := r5.lt
                    have l6 := r6.lt
                    have l7 := r7.lt
                    have hsz : (w7.alloc (.cells #[.int .i64 (m1 : Int), .int .i64 (m2 : Int)] 3)).heap.size = w7.heap.size + 1 := by simp
                    rw [hsz] at r8 hb8
                    have k78 : Below w7.heap.size w7 w8 := hb7'.trans (hb8.mono (by omega))
                    have k68 : Below w6.heap.size w6 w8 := hb7.trans (k78.mono hb7.size)
                    have k58 : Below w5.heap.size w5 w8 := hb6.trans (k68.mono hb6.size)
                    have k48 : Below w4.heap.size w4 w8 := hb5.trans (k58.mono hb5.size)
                    have ra := r6.of_block (k68.block _ r6.lt)
                    have rb := r7.of_block (k78.block _ r7.lt)
                    have z8 := r8.lt
                    clear r5 r6 r7 hb5 hb6 hb7 hb7' hb8 h67 h57 h47 k78 k68 k58 hsz
                    obtain ⟨A, hA⟩ : ∃ x, x = w5.heap.size := ⟨_, rfl⟩
                    obtain ⟨Bb, hBb⟩ : ∃ x, x = w6.heap.size := ⟨_, rfl⟩
                    obtain ⟨C, hC⟩ : ∃ x, x = w7.heap.size + 1 := ⟨_, rfl⟩
                    have HA : Hid (A = w5.heap.size ∧ Bb = w6.heap.size ∧ C = w7.heap.size + 1) := ⟨hA, hBb, hC⟩
                    have q1 : w4.heap.size ≤ A := by omega
                    have q2 : A < Bb := by omega
                    have q3 : Bb < C := by omega
                    rw [← hA] at ra
                    rw [← hBb] at rb
                    rw [← hC] at r8
                    clear hA hBb hC s5 s6 s7 l5 l6 l7 z8
                    have cl4 := zzreach_any oa ba ta ea ob bb tb eb A l3 l9 oc bc tc ec l9 hoa hba hta hea ops bs tos _ x1 x2 x3 x4 t M m1 w8 (by omega) b9 hm1 (hS4.later k48) ra hto
                    rw [HA.out.1] at cl4
                    go_wp2_with fail
                    refine cl4.mono ?_
                    rintro e w9 ⟨rfl, M1, hM1, ra1, g1⟩
                    clear cl4 ra
                    rw [← HA.out.1] at ra1 g1
                    have k49 := k48.grown g1 k48.size (fun k hk => by cases hk; exact q1)
                    have rb1 := rb.of_block (g1.block _ rb.lt (by simp; omega))
                    have r81 := r8.of_block (g1.block _ r8.lt (by simp; omega))
                    clear rb r8 k48 g1
                    have cl4 := zzreach_any oa ba ta ea ob bb tb eb A l3 l9 oc bc tc ec l9 hoa hba hta hea ops bs tos _ x1 x2 x3 x4 t M1 m2 w9 (by omega) b9 hm2 (hS4.later k49) ra1 hto
                    rw [HA.out.1] at cl4
                    go_wp2_with fail
                    refine cl4.mono ?_
                    rintro e w10 ⟨rfl, M2, hM2, ra2, g1⟩
                    clear cl4 ra1
                    rw [← HA.out.1] at ra2 g1
                    have k40 := k49.grown g1 k49.size (fun k hk => by cases hk; exact q1)
                    have rb2 := rb1.of_block (g1.block _ rb1.lt (by simp; omega))
                    have r82 := r81.of_block (g1.block _ r81.lt (by simp; omega))
                    clear rb1 r81 k49 g1
                    have cl4 := zzreach_any oa ba ta ea ob bb tb eb Bb l3 l9 oc bc tc ec l9 hoa hba hta hea ops bs tos _ x1 x2 x3 x4 t M m2 w10 (by omega) b9 hm2 (hS4.later k40) rb2 hto
                    rw [HA.out.2.1] at cl4
                    go_wp2_with fail
                    refine cl4.mono ?_
                    rintro e w11 ⟨rfl, N1, hN1, rb3, g1⟩
                    clear cl4 rb2
                    rw [← HA.out.2.1] at rb3 g1
                    have k41 := k40.grown g1 k40.size (fun k hk => by cases hk; omega)
                    have ra3 := ra2.of_block (g1.block _ ra2.lt (by simp; omega))
                    have r83 := r82.of_block (g1.block _ r82.lt (by simp; omega))
                    clear ra2 r82 k40 g1
                    have cl4 := zzreach_any oa ba ta ea ob bb tb eb Bb l3 l9 oc bc tc ec l9 hoa hba hta hea ops bs tos _ x1 x2 x3 x4 t N1 m1 w11 (by omega) b9 hm1 (hS4.later k41) rb3 hto
                    rw [HA.out.2.1] at cl4
                    clear hS4 hto hoa hba hta hea
                    go_wp2_with fail
                    refine cl4.mono ?_
                    rintro e w12 ⟨rfl, N2, hN2, rb4, g1⟩
                    clear cl4 rb3
                    rw [← HA.out.2.1] at rb4 g1
                    have k42 := k41.grown g1 k41.size (fun k hk => by cases hk; omega)
                    have ra4 := ra3.of_block (g1.block _ ra3.lt (by simp; omega))
                    have r84 := r83.of_block (g1.block _ r83.lt (by simp; omega))
                    clear ra3 r83 k41 g1
                    have eq1 := (reached_twice (pick2_iff m1 m2) hM1 hM2).unique hW
                    have eq2 := (reached_twice (fun s => (pick2_iff m1 m2 s).trans Or.comm) hN1 hN2).unique hW
                    have cl5 := same_any A C l9 l9 l9 M2 W w12 b9 (fun i hi => ra4.cell hi) (fun i hi => r84.cell hi) (fun i _ => eq1 i)
                    have cl6 := fun n => same_any Bb C l9 l9 l9 N2 W (w12.drewN n) b9 (fun i hi => rb4.cell hi) (fun i hi => r84.cell hi) (fun i _ => eq2 i)
                    rw [HA.out.1, HA.out.2.2] at cl5
                    rw [HA.out.2.1, HA.out.2.2] at cl6
                    have fin : Below w.heap.size w w12 := hB.trans (k42.mono hB.size)
                    clear eq1 eq2 ra4 rb4 r84 k42 hW hM1 hM2 hN1 hN2 HA q1 q2 q3
                    go_wp2_with fail
                    refine cl5.mono ?_
                    rintro e w13 ⟨rfl, n9, rfl⟩
                    clear cl5
                    have cl7 := cl6 n9
                    clear cl6
                    go_wp2_with fail
                    refine cl7.mono ?_
                    rintro e w14 ⟨rfl, n10, rfl⟩
                    clear cl7
                    go_wp2_with fail
                    go_ret
                    exact ⟨rfl, below_drewN fin _⟩
end Go.Proofs.Qxb6623461a
