/-
  The law FnRepeatedLeastDuplicateAndSorts (3).
-/
import Derived.Test.Qxb6618381aOwn
namespace Go.Proofs.Qxb6618381a
open Go.RowKit Plain Go.Sort

set_option maxRecDepth 100000 in
set_option maxHeartbeats 4000000 in
theorem walk3 (a : Option Addr) (n c b o : Nat) (A : Nat → Option Addr) (L C : Nat → Nat) (cs : Nat → Bs) (w : World) (ha : 0 < n → a = some ⟨b, o, none⟩)
    (hc : ∀ i, i < n → w.cell? ⟨b, o + i, none⟩ = some (.slice (A i) (L i) (C i))) (hbs : ∀ i, i < n → L i ≤ 1048576 → BA w 0 w.heap.size (.slice (A i) (L i) (C i)) (cs i)) :
    Calls Try.prog 3 #[.slice a n c] w fun e w' => e = .returned (.bool true) ∧ Below w.heap.size w w' := by
  have cb := zzBytes5 a n c b o A L C w ha hc
  have q24 : ∀ (w : World) (a : Option Addr) (n c n' c' : Nat), (binOp .neq 24 (.slice a n c) (.slice none n' c')).run Try.prog w = .ok (.bool (!a.isNone)) w := fun w a n c n' c' => run_neq_slice_nil_any w _ _ a n c n' c' Try.underlying24
  go_enter Try.func3, Try.ntmps3
  go_wp2_with fail
  refine cb.mono ?_
  rintro e w' ⟨bb, rfl, rfl, hbig⟩
  clear cb
  cases bb with
  | false =>
    clear hbig
    go_wp2_with fail
    go_ret
    exact ⟨rfl, Below.refl _ _⟩
  | true =>
    obtain ⟨hn, hL⟩ := hbig rfl
    clear hbig
    have cl := cloneA_own hn ⟨a, c, b, o, rfl, ha, hc⟩ (fun i hi => hbs i hi (hL i hi)) (Nat.le_refl _)
    clear hbs
    by_cases h12 : 4096 < n
    · clear hc hL
      go_wp2_with fail
      go_ret
      exact ⟨rfl, Below.refl _ _⟩
    go_wp2_with fail
    go_loopw [3, 4] (fun z i wr => ∃ k t : Nat, k ≤ n ∧ i = .int .i64 k ∧ z = .int .i64 t ∧ t ≤ 1048576 ∧ w = wr) (fun _ i _ => n - (intOf i).toNat)
    case atStart => exact ⟨0, 0, Nat.zero_le _, by go_num, by go_num, by omega, rfl⟩
    case round =>
      obtain ⟨k, t, hk, rfl, rfl, ht, rfl⟩ := hrel
      by_cases hlt : k < n
      · obtain rfl := ha (by omega)
        have g1 := hc k hlt
        have g2 := hL k hlt
        clear hc ha hL cl
        generalize L k = l at g1 g2
        by_cases h2 : (t : Int) + (24 + l) > 1048576
        · go_wp2_with fail
          go_ret
          exact ⟨rfl, Below.refl _ _⟩
        · go_wp2_with fail
          go_roundw
          case rel => exact ⟨k + 1, t + (24 + l), by omega, by go_num, by go_num, by omega, by first | rfl | trivial⟩
          case measure => simp [intOf]; omega
      · clear hc ha hL
        go_wp2_with fail
        refine cl.mono ?_
        rintro e w1 ⟨a1, c1, V1, rfl, ho1, hb1⟩
        clear cl
        obtain ⟨N0, hN0⟩ : ∃ x, x = w.heap.size := ⟨_, rfl⟩
        rw [← hN0] at ho1 hb1
        have HN0 : Hid (N0 = w.heap.size) := hN0
        have s1 := hb1.size
        rw [← hN0] at s1
        clear hN0
        have cl := cloneA_own hn ho1.r.1.lr ho1.2.1 ho1.2.2.1
        go_wp2_with fail
        refine cl.mono ?_
        rintro e w2 ⟨a2, c2, V2, rfl, ho2, hb2⟩
        clear cl
        obtain ⟨N1, hN1⟩ : ∃ x, x = w1.heap.size := ⟨_, rfl⟩
        rw [← hN1] at ho1 ho2 hb2 s1
        have s2 := hb2.size
        rw [← hN1] at s2
        replace ho1 : Own w2 N0 N1 (.slice a1 n c1) n V1 cs := ho1.keep (by omega) (fun _ b _ h => hb2.block b h)
        replace hb2 : Below N0 w w2 := hb1.trans (hb2.mono s1)
        clear hb1 hN1
        obtain ⟨N2, hN2⟩ : ∃ x, x = w2.heap.size := ⟨_, rfl⟩
        rw [← hN2] at ho2 s2
        have HN2 : Hid (N2 = w2.heap.size) := hN2
        clear hN2
        go_wp2_with fail
        go_loopw [6, 7, 8] (fun hv wv i wr => ∃ (k m : Nat) (h : Bool), k ≤ n ∧ hv = .bool h ∧ i = .int .i64 k ∧ wr = w2.drewN m ∧ WantP cs n k h w2 (N1 + 1) N2 wv) (fun _ _ i _ => n - (intOf i).toNat)
        case atStart => exact ⟨0, 0, false, Nat.zero_le _, rfl, by go_num, rfl, by simp, fun _ j hj => absurd hj (by omega)⟩
        case round =>
          obtain ⟨k, m, h, hk, rfl, rfl, hw, hW⟩ := hrel
          have HW : Hid (wr = w2.drewN m) := hw
          by_cases hlt : k < n
          · have o2 : Own wr N1 N2 (.slice a2 n c2) n V2 cs := by rw [hw]; exact ho2.drew
            have hocc := occurs_any hn hlt o2.r.1.lr o2.2.1
            obtain ⟨rfl, hcell⟩ := o2.r.cell (by omega)
            have hck := hcell k hlt
            have HB : Hid (BA w2 (N1 + 1) N2 (V2 k) (cs k)) := ho2.2.1 k hlt
            clear hcell o2 ho1 ho2 hw
            by_cases hd : Dup (lof cs n) (cs k)
            · rw [@decide_eq_true _ (Classical.propDecidable _) ((occ_dup hlt).2 hd)] at hocc
              cases h with
              | false =>
                as_aux_lemma =>
                  go_wp2_with fail
                  refine hocc.mono ?_
                  rintro e w' ⟨rfl, q, rfl⟩
                  clear hocc
                  go_wp2_with fail
                  go_roundw
                  case rel => exact ⟨k + 1, m + q, true, by omega, rfl, by go_num, by rw [HW.out, World.drewN_drewN], hW.first hd HB.out⟩
                  case measure => simp [intOf]; omega
              | true =>
                obtain ⟨x, hx, hxd, hxm⟩ := hW.1 rfl
                clear hW
                as_aux_lemma =>
                  go_wp2_with fail
                  refine hocc.mono ?_
                  rintro e w' ⟨rfl, q, rfl⟩
                  clear hocc
                  have hcmp := cmp_any (w := wr.drewN q) (by rw [HW.out]; exact HB.out.drew.drew) (by rw [HW.out]; exact hx.drew.drew)
                  generalize hz : cmpL (cs k) x = z at hcmp
                  have HZ : Hid (cmpL (cs k) x = z) := hz
                  clear hz
                  by_cases hl : z < 0
                  · go_wp2_with fail
                    refine hcmp.mono ?_
                    rintro e w' ⟨rfl, q2, rfl⟩
                    clear hcmp
                    go_wp2_with fail
                    go_roundw
                    case rel => exact ⟨k + 1, m + (q + q2), true, by omega, rfl, by go_num, by rw [HW.out, World.drewN_drewN], WantP.less hxm (cmpL_neg.1 (by rw [HZ.out]; exact hl)) hd HB.out⟩
                    case measure => simp [intOf]; omega
                  · go_wp2_with fail
                    refine hcmp.mono ?_
                    rintro e w' ⟨rfl, q2, rfl⟩
                    clear hcmp
                    go_wp2_with fail
                    go_roundw
                    case rel => exact ⟨k + 1, m + (q + q2), true, by omega, rfl, by go_num, by rw [HW.out, World.drewN_drewN], WantP.stay hx hxd hxm (fun h => by have := cmpL_neg.2 h; rw [HZ.out] at this; omega)⟩
                    case measure => simp [intOf]; omega
            · rw [@decide_eq_false _ (Classical.propDecidable _) (fun h => hd ((occ_dup hlt).1 h))] at hocc
              as_aux_lemma =>
                go_wp2_with fail
                refine hocc.mono ?_
                rintro e w' ⟨rfl, q, rfl⟩
                clear hocc
                go_wp2_with fail
                go_roundw
                case rel => exact ⟨k + 1, m + q, h, by omega, rfl, by go_num, by rw [HW.out, World.drewN_drewN], hW.skip hd⟩
                case measure => simp [intOf]; omega
          · obtain rfl : k = n := by omega
            have sr : wr.heap.size = N2 := by rw [hw, HN2.out]; rfl
            have o2 : Own wr N1 N2 (.slice a2 k c2) k V2 cs := by rw [hw]; exact ho2.drew
            have o1 : Own wr N0 N1 (.slice a1 k c1) k V1 cs := by rw [hw]; exact ho1.drew
            have br : Below N0 w wr := by rw [hw]; exact below_drewN hb2 _
            have wr' : WantP cs k k h wr (N1 + 1) N2 u7 := by
              rw [hw]
              exact ⟨fun e => (hW.1 e).imp fun x hx => ⟨hx.1.drew, hx.2⟩, hW.2⟩
            have cl := cloneA_own hn o2.r.1.lr o2.2.1 o2.2.2.1
            clear hw HW hW ho1 ho2 hb2 HN2 hlt hk
            go_wp2_with fail
            refine cl.mono ?_
            rintro e w3 ⟨a3, c3, V3, rfl, o3, b3⟩
            clear cl
            rw [sr] at o3 b3
            have s3 := b3.size
            rw [sr] at s3
            replace o1 : Own w3 N0 N1 (.slice a1 k c1) k V1 cs := o1.keep (by omega) (fun _ b _ h => b3.block b (by omega))
            have o2' : WantP cs k k h w3 (N1 + 1) N2 u7 := ⟨fun e => (wr'.1 e).imp fun x hx => ⟨hx.1.keep (fun b _ h => b3.block b h), hx.2⟩, wr'.2⟩
            replace b3 : Below N0 w w3 := br.trans (b3.mono (by omega))
            clear br o2 wr' sr
            obtain ⟨N3, hN3⟩ : ∃ x, x = w3.heap.size := ⟨_, rfl⟩
            rw [← hN3] at o3 s3
            have hins := ins_own hn o3
            go_wp2_with fail
            refine hins.mono ?_
            rintro e w4 ⟨rfl, V4, cs4, o4, p4, as4, k4⟩
            clear hins o3
            have s4 := k4.size
            rw [← hN3] at s4
            have kk : ∀ b, b < N2 → w4.heap[b]? = w3.heap[b]? := fun b h => k4.block b (by omega) (by omega)
            replace o1 : Own w4 N0 N1 (.slice a1 k c1) k V1 cs := o1.keep (by omega) (fun _ b _ h => kk b (by omega))
            replace o2' : WantP cs k k h w4 (N1 + 1) N2 u7 := ⟨fun e => (o2'.1 e).imp fun x hx => ⟨hx.1.keep (fun b _ h => kk b h), hx.2⟩, o2'.2⟩
            have b4 : Below N0 w w4 := k4.below b3 (by omega) (by omega)
            clear b3 kk k4 hN3
            have hrep := rep_own hn o1
            go_wp2_with fail
            refine hrep.mono ?_
            rintro e w5 ⟨r, ok, rfl, ⟨V5, cs5, o5, p5, as5, k5⟩, ht, hf⟩
            clear hrep
            have s5 := k5.size
            have kk : ∀ b, N1 < b → b < w4.heap.size → w5.heap[b]? = w4.heap[b]? := fun b h1 h2 => k5.block b h2 (by omega)
            replace o4 : OwnR w5 N2 N3 (.slice a3 k c3) k V4 cs4 := o4.keep (by omega) (fun hp b h1 h2 => k5.block b (by omega) (by have := o1.2.2.2 hp; omega))
            replace o2' : WantP cs k k h w5 (N1 + 1) N2 u7 := ⟨fun e => (o2'.1 e).imp fun x hx => ⟨hx.1.keep (fun b h1 h => kk b (by omega) (by omega)), hx.2⟩, o2'.2⟩
            have b5 : Below N0 w w5 := k5.below b4 (by omega) (by omega)
            have heq : ∀ i, i < k → cs5 i = cs4 i := lof_eq (sorted_one (p5.trans p4.symm) as5.pairwise as4.pairwise)
            have HEQ : Hid (∀ i, i < k → cs5 i = cs4 i) := heq
            clear b4 kk k5 p4 p5 as4 as5 heq o1
            obtain rfl : ok = h := by
              cases ok <;> cases h
              · rfl
              · obtain ⟨x, _, hx⟩ := o2'.least
                exact absurd hx.1 ((hf rfl).2 x)
              · obtain ⟨x, hx, _⟩ := ht rfl
                exact absurd hx.1 (o2'.no x)
              · rfl
            go_upto_if 75 with fail
            go_cut [79] (fun _ wx => ∃ q, wx = w5.drewN q)
            case first =>
              as_aux_lemma =>
                cases ok with
                | true =>
                  obtain ⟨x, hx, bx⟩ := ht rfl
                  obtain ⟨y, by', hy⟩ := o2'.least
                  obtain rfl := hx.unique hy
                  have he := eq_any bx by'
                  rw [decide_eq_true rfl] at he
                  clear ht hf o2'
                  go_wp2_with fail
                  refine he.mono ?_
                  rintro e w' ⟨rfl, q, rfl⟩
                  go_wp2_with fail
                  go_meet
                  case rel => exact ⟨q, rfl⟩
                | false =>
                  obtain ⟨rfl, _⟩ := hf rfl
                  clear ht hf o2'
                  go_wp2_with fail
                  go_meet
                  case rel => exact ⟨0, rfl⟩
            case rest =>
              obtain ⟨q, hq⟩ := hcut
              replace o5 : OwnR wc N0 N1 (.slice a1 k c1) k V5 cs5 := by rw [hq]; exact o5.drew
              replace o4 : OwnR wc N2 N3 (.slice a3 k c3) k V4 cs4 := by rw [hq]; exact o4.drew
              replace b5 : Below N0 w wc := by rw [hq]; exact below_drewN b5 _
              clear hq ht hf o2'
              as_aux_lemma =>
                go_wp2_with fail
                go_loopw [12] (fun i wr => ∃ j m : Nat, j ≤ k ∧ i = .int .i64 j ∧ wr = wc.drewN m) (fun i _ => k - (intOf i).toNat)
                case atStart => exact ⟨0, 0, Nat.zero_le _, by go_num, rfl⟩
                case round =>
                  obtain ⟨j, m, hj, rfl, hw⟩ := hrel
                  have HW : Hid (wr = wc.drewN m) := hw
                  by_cases hlt : j < k
                  · have o5r : OwnR wr N0 N1 (.slice a1 k c1) k V5 cs5 := by rw [hw]; exact o5.drew
                    have o4r : OwnR wr N2 N3 (.slice a3 k c3) k V4 cs4 := by rw [hw]; exact o4.drew
                    obtain ⟨rfl, hc5⟩ := o5r.cell (by omega)
                    obtain ⟨rfl, hc4⟩ := o4r.cell (by omega)
                    have g5 := hc5 j hlt
                    have g4 := hc4 j hlt
                    have he := fun q => eq_any (w := wr.drewN q) (o5r.2.1 j hlt).drew (o4r.2.1 j hlt).drew
                    rw [decide_eq_true (HEQ.out j hlt)] at he
                    have hlt' : (j : Int) < (k : Int) := by omega
                    clear hw hc5 hc4 o5r o4r o5 o4
                    go_wp2_with fail
                    go_quiet (first | (go_at_call 11; refine Calls.quiet_of (he _)))
                    go_wp2_with fail
                    go_roundw
                    case rel => exact ⟨j + 1, m + nq, by omega, by go_num, by rw [HW.out, World.drewN_drewN]⟩
                    case measure => simp [intOf]; omega
                  · clear hw o5 o4
                    go_wp2_with fail
                    go_ret
                    refine ⟨rfl, ?_⟩
                    rw [← HN0.out, HW.out]
                    exact below_drewN b5 _
end Go.Proofs.Qxb6618381a
