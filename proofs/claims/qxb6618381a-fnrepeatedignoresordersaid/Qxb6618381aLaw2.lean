/-
  The law FnRepeatedIgnoresOrder (4).
-/
import Derived.Test.Qxb6618381aRot
namespace Go.Proofs.Qxb6618381a
open Go.RowKit Plain Go.Sort

set_option maxRecDepth 100000 in
set_option maxHeartbeats 4000000 in
theorem walk4 (a : Option Addr) (n c b o : Nat) (q : Int) (A : Nat → Option Addr) (L C : Nat → Nat) (cs : Nat → Bs) (w : World) (ha : 0 < n → a = some ⟨b, o, none⟩)
    (hc : ∀ i, i < n → w.cell? ⟨b, o + i, none⟩ = some (.slice (A i) (L i) (C i))) (hbs : ∀ i, i < n → L i ≤ 1048576 → BA w 0 w.heap.size (.slice (A i) (L i) (C i)) (cs i)) :
    Calls Try.prog 4 #[.slice a n c, .int .i64 q] w fun e w' => e = .returned (.bool true) ∧ Below w.heap.size w w' := by
  have cb := zzBytes12 a n c b o q A L C w ha hc
  have q24 : ∀ (w : World) (a : Option Addr) (n c n' c' : Nat), (binOp .neq 24 (.slice a n c) (.slice none n' c')).run Try.prog w = .ok (.bool (!a.isNone)) w := fun w a n c n' c' => run_neq_slice_nil_any w _ _ a n c n' c' Try.underlying24
  go_enter Try.func4, Try.ntmps4
  go_wp2_with fail
  refine cb.mono ?_
  rintro e w' ⟨bb, rfl, rfl, hbig⟩
  clear cb
  cases bb with
  | false =>
    clear hbig
    go_wp2_with fail
    go_ret
    exact ⟨rfl, Below.refl _ _⟩
  | true =>
    obtain ⟨hn, hL⟩ := hbig rfl
    clear hbig
    have cl := cloneA_own hn ⟨a, c, b, o, rfl, ha, hc⟩ (fun i hi => hbs i hi (hL i hi)) (Nat.le_refl _)
    clear hbs
    by_cases h12 : 4096 < n
    · clear hc hL
      go_wp2_with fail
      go_ret
      exact ⟨rfl, Below.refl _ _⟩
    go_wp2_with fail
    go_loopw [5, 6] (fun z i wr => ∃ k t : Nat, k ≤ n ∧ i = .int .i64 k ∧ z = .int .i64 t ∧ t ≤ 1048576 ∧ w = wr) (fun _ i _ => n - (intOf i).toNat)
    case atStart => exact ⟨0, 0, Nat.zero_le _, by go_num, by go_num, by omega, rfl⟩
    case round =>
      obtain ⟨k, t, hk, rfl, rfl, ht, rfl⟩ := hrel
      by_cases hlt : k < n
      · obtain rfl := ha (by omega)
        have g1 := hc k hlt
        have g2 := hL k hlt
        clear hc ha hL cl
        generalize L k = l at g1 g2
        by_cases h2 : (t : Int) + (24 + l) > 1048576
        · go_wp2_with fail
          go_ret
          exact ⟨rfl, Below.refl _ _⟩
        · go_wp2_with fail
          go_roundw
          case rel => exact ⟨k + 1, t + (24 + l), by omega, by go_num, by go_num, by omega, by first | rfl | trivial⟩
          case measure => simp [intOf]; omega
      · clear hc ha hL
        by_cases hq0 : q < 0
        · clear cl
          go_wp2_with fail
          go_ret
          exact ⟨rfl, Below.refl _ _⟩
        by_cases hq1 : q > (n : Int)
        · clear cl
          go_wp2_with fail
          go_ret
          exact ⟨rfl, Below.refl _ _⟩
        obtain ⟨kq, rfl⟩ : ∃ x : Nat, q = (x : Int) := ⟨q.toNat, by omega⟩
        have hkq : kq ≤ n := by omega
        go_wp2_with fail
        refine cl.mono ?_
        rintro e w1 ⟨a1, c1, V1, rfl, ho1, hb1⟩
        clear cl
        obtain ⟨N0, hN0⟩ : ∃ x, x = w.heap.size := ⟨_, rfl⟩
        rw [← hN0] at ho1 hb1
        have HN0 : Hid (N0 = w.heap.size) := hN0
        have s1 := hb1.size
        rw [← hN0] at s1
        clear hN0
        have cl := cloneA_own hn ho1.r.1.lr ho1.2.1 ho1.2.2.1
        go_wp2_with fail
        refine cl.mono ?_
        rintro e w2 ⟨a2, c2, V2, rfl, ho2, hb2⟩
        clear cl
        obtain ⟨N1, hN1⟩ : ∃ x, x = w1.heap.size := ⟨_, rfl⟩
        rw [← hN1] at ho1 ho2 hb2 s1
        have s2 := hb2.size
        rw [← hN1] at s2
        replace ho1 : Own w2 N0 N1 (.slice a1 n c1) n V1 cs := ho1.keep (by omega) (fun _ b _ h => hb2.block b h)
        replace hb2 : Below N0 w w2 := hb1.trans (hb2.mono s1)
        clear hb1 hN1
        have hmk := make_room n hn w2
        have hst := RS.start w2 n (rotc cs kq n)
        obtain ⟨N2, hN2⟩ : ∃ x, x = w2.heap.size := ⟨_, rfl⟩
        rw [← hN2] at ho2 s2 hst hmk
        have HN2 : Hid (N2 = w2.heap.size) := hN2
        have HST : Hid _ := hst
        clear hN2 hst
        go_wp2_with fail
        clear hmk
        go_loopw [8, 9] (fun rv i wr => ∃ j : Nat, j ≤ n - kq ∧ rv = .slice (some ⟨N2, 0, none⟩) j n ∧ i = .int .i64 ((kq + j : Nat) : Int) ∧ RS w2 wr N2 n j (rotc cs kq n)) (fun _ i _ => n - (intOf i).toNat)
        case atStart => exact ⟨0, Nat.zero_le _, rfl, rfl, HST.out⟩
        case round =>
          clear HST
          obtain ⟨j, hj, rfl, rfl, hR⟩ := hrel
          by_cases hlt2 : kq + j < n
          · have o2 : Own wr N1 N2 (.slice a2 n c2) n V2 cs := ho2.keep (by have := HN2.out; have := hR.2.2; omega) (fun _ b _ h => hR.2.1.block b h)
            obtain ⟨rfl, hcell⟩ := o2.r.cell (by omega)
            have hck := hcell (kq + j) hlt2
            have hcl := cloneB_any (o2.2.1 (kq + j) hlt2)
            have hcc : cs (kq + j) = rotc cs kq n j := by unfold rotc; rw [if_pos (by omega)]
            rw [hcc] at hcl
            clear hcell o2 ho1 ho2 hcc
            as_aux_lemma =>
              go_wp2_with fail
              refine hcl.mono ?_
              rintro e w3 ⟨v3, rfl, hv3, hb3⟩
              obtain ⟨a3, n3, c3, rfl⟩ := hv3.slice
              clear hcl
              have hR3 := hR.step hv3 hb3
              obtain ⟨u, hu, hfu⟩ := hR.cell (i := j) (by omega)
              have hN2r : N2 < wr.heap.size := by have := hR.2.2; omega
              have hb4 : Below wr.heap.size wr (w3.alloc (.cells #[.slice a3 n3 c3] 24)) := hb3.alloc hb3.size _
              have hu4 := (hb4.cell (p := ⟨N2, j, none⟩) hN2r).trans hu
              have hf4 := (hb4.frozen (p := ⟨N2, j, none⟩) hN2r).trans hfu
              have HR3 : Hid _ := hR3
              clear hR3 hb4 hu hfu hck hR hv3 hb3
              go_wp2_with fail
              go_roundw
              case rel => exact ⟨j + 1, by omega, rfl, by go_num, HR3.out⟩
              case measure => simp [intOf]; omega
          · have hjj : j = n - kq := by omega
            have HJ : Hid (j = n - kq) := hjj
            clear hjj
            obtain ⟨iv, hiv⟩ : ∃ iv : Int, iv = ((kq + j : Nat) : Int) := ⟨_, rfl⟩
            rw [← hiv]
            have hge : ¬ iv < (n : Int) := by omega
            clear hiv hlt2 hj
            go_wp2_with fail
            go_loopw [8, 10] (fun rv i wr => ∃ i' m : Nat, i' ≤ kq ∧ m = n - kq + i' ∧ rv = .slice (some ⟨N2, 0, none⟩) m n ∧ i = .int .i64 (i' : Int) ∧ RS w2 wr N2 n m (rotc cs kq n)) (fun _ i _ => kq - (intOf i).toNat)
            case atStart => exact ⟨0, j, Nat.zero_le _, HJ.out, rfl, by go_num, hR⟩
            case round =>
              clear hR HJ
              obtain ⟨j, m, hj, hm, rfl, rfl, hR⟩ := hrel
              have HM : Hid (m = n - kq + j) := hm
              clear hm
              by_cases hlt2 : j < kq
              · have hmn : m < n := by have := HM.out; omega
                have o2 : Own wr N1 N2 (.slice a2 n c2) n V2 cs := ho2.keep (by have := HN2.out; have := hR.2.2; omega) (fun _ b _ h => hR.2.1.block b h)
                obtain ⟨rfl, hcell⟩ := o2.r.cell (by omega)
                have hck := hcell j (by omega)
                have hcl := cloneB_any (o2.2.1 j (by omega))
                have hcc : cs j = rotc cs kq n m := by
                  have := HM.out
                  unfold rotc
                  rw [if_neg (by omega)]
                  congr 1
                  omega
                rw [hcc] at hcl
                have hjn : (j : Int) < (n : Int) := by omega
                clear hcell o2 ho1 ho2 hcc
                as_aux_lemma =>
                  go_wp2_with fail
                  refine hcl.mono ?_
                  rintro e w3 ⟨v3, rfl, hv3, hb3⟩
                  obtain ⟨a3, n3, c3, rfl⟩ := hv3.slice
                  clear hcl
                  have hR3 := hR.step hv3 hb3
                  obtain ⟨u, hu, hfu⟩ := hR.cell (i := m) hmn
                  have hN2r : N2 < wr.heap.size := by have := hR.2.2; omega
                  have hb4 : Below wr.heap.size wr (w3.alloc (.cells #[.slice a3 n3 c3] 24)) := hb3.alloc hb3.size _
                  have hu4 := (hb4.cell (p := ⟨N2, m, none⟩) hN2r).trans hu
                  have hf4 := (hb4.frozen (p := ⟨N2, m, none⟩) hN2r).trans hfu
                  have HR3 : Hid _ := hR3
                  clear hR3 hb4 hu hfu hck hR hv3 hb3
                  go_wp2_with fail
                  go_roundw
                  case rel => exact ⟨j + 1, m + 1, by omega, by have := HM.out; omega, rfl, by go_num, HR3.out⟩
                  case measure => simp [intOf]; omega
              · obtain rfl : m = n := by have := HM.out; omega
                clear HM
                have hsz := hR.2.2
                have sN2 := HN2.out
                have o1 : Own wr N0 N1 (.slice a1 m c1) m V1 cs := ho1.keep (by omega) (fun _ b _ h => hR.2.1.block b (by omega))
                have o2 : Own wr N1 N2 (.slice a2 m c2) m V2 cs := ho2.keep (by omega) (fun _ b _ h => hR.2.1.block b h)
                obtain ⟨V3, o3⟩ := hR.own (c := m)
                have br : Below N0 w wr := hb2.trans (hR.2.1.mono (by omega))
                have hperm := rot_perm cs kq m hkq
                have HP : Hid _ := hperm
                clear hperm ho1 ho2 hb2 hR HN2 sN2
                generalize rotc cs kq m = cc at o3 HP
                obtain ⟨w3, hw3⟩ : ∃ x, x = wr := ⟨_, rfl⟩
                subst hw3
                obtain ⟨N3, hN3⟩ : ∃ x, x = w3.heap.size := ⟨_, rfl⟩
                rw [← hN3] at o3 hsz
                have HN3 : Hid (N3 = w3.heap.size) := hN3
                clear hN3
                go_wp2_with fail
                go_loopw [11, 12] (fun hv i wr => ∃ (k q : Nat) (h : Bool), k ≤ m ∧ hv = .bool h ∧ i = .int .i64 k ∧ wr = w3.drewN q ∧ HasP cs m k h) (fun _ i _ => m - (intOf i).toNat)
                case atStart => exact ⟨0, 0, false, Nat.zero_le _, rfl, by go_num, rfl, by simp, fun _ j hj => absurd hj (by omega)⟩
                case round =>
                  obtain ⟨k, q, h, hk, rfl, rfl, hw, hH⟩ := hrel
                  have HW : Hid (wr = w3.drewN q) := hw
                  by_cases hlt3 : k < m
                  · have o2' : Own wr N1 N2 (.slice a2 m c2) m V2 cs := by rw [hw]; exact o2.drew
                    have hocc := occurs_any hn hlt3 o2'.r.1.lr o2'.2.1
                    clear o2' o1 o2 o3 hw
                    by_cases hd : Dup (lof cs m) (cs k)
                    · rw [@decide_eq_true _ (Classical.propDecidable _) ((occ_dup hlt3).2 hd)] at hocc
                      as_aux_lemma =>
                        go_wp2_with fail
                        refine hocc.mono ?_
                        rintro e w' ⟨rfl, q2, rfl⟩
                        clear hocc
                        go_wp2_with fail
                        go_roundw
                        case rel => exact ⟨k + 1, q + q2, true, by omega, rfl, by go_num, by rw [HW.out, World.drewN_drewN], fun _ => ⟨_, hd⟩, by simp⟩
                        case measure => simp [intOf]; omega
                    · rw [@decide_eq_false _ (Classical.propDecidable _) (fun h => hd ((occ_dup hlt3).1 h))] at hocc
                      as_aux_lemma =>
                        go_wp2_with fail
                        refine hocc.mono ?_
                        rintro e w' ⟨rfl, q2, rfl⟩
                        clear hocc
                        go_wp2_with fail
                        go_roundw
                        case rel => exact ⟨k + 1, q + q2, h, by omega, rfl, by go_num, by rw [HW.out, World.drewN_drewN], hH.skip hd⟩
                        case measure => simp [intOf]; omega
                  · obtain rfl : k = m := by omega
                    replace o1 : Own wr N0 N1 (.slice a1 k c1) k V1 cs := by rw [hw]; exact o1.drew
                    replace o2 : Own wr N1 N2 (.slice a2 k c2) k V2 cs := by rw [hw]; exact o2.drew
                    replace o3 : Own wr N2 N3 (.slice (some ⟨N2, 0, none⟩) k k) k V3 cc := by rw [hw]; exact o3.drew
                    replace br : Below N0 w wr := by rw [hw]; exact below_drewN br _
                    have sr : wr.heap.size = N3 := by rw [hw, HN3.out]; rfl
                    have HSR : Hid (wr.heap.size = N3) := sr
                    clear hw HW hlt3 HN3 sr
                    have hrep := rep_own hn o1
                    go_wp2_with fail
                    refine hrep.mono ?_
                    rintro e w5 ⟨g1, ok1, rfl, ⟨V5, cs5, o5, p5, as5, k5⟩, ht5, hf5⟩
                    clear hrep
                    have s5 := k5.size
                    rw [HSR.out] at s5
                    have hz : 0 < k → N0 < N1 := o1.2.2.2
                    replace o2 : Own w5 N1 N2 (.slice a2 k c2) k V2 cs := o2.keep (by rw [HSR.out]; exact s5) (fun hp b h1 h2 => k5.block b (by rw [HSR.out]; omega) (by have := hz hp; omega))
                    replace o3 : Own w5 N2 N3 (.slice (some ⟨N2, 0, none⟩) k k) k V3 cc := o3.keep (by rw [HSR.out]; exact s5) (fun hp b h1 h2 => k5.block b (by rw [HSR.out]; omega) (by have := hz hp; omega))
                    have b5 : Below N0 w w5 := k5.below br (by omega) (by rw [HSR.out]; omega)
                    clear k5 br o1 HSR
                    have hrep := rep_own hn o3
                    go_wp2_with fail
                    refine hrep.mono ?_
                    rintro e w6 ⟨g2, ok2, rfl, ⟨V6, cs6, o6, p6, as6, k6⟩, ht6, hf6⟩
                    clear hrep o3
                    have s6 := k6.size
                    have kk : ∀ b, b < N2 → w6.heap[b]? = w5.heap[b]? := fun b h => k6.block b (by omega) (by omega)
                    replace o2 : Own w6 N1 N2 (.slice a2 k c2) k V2 cs := o2.keep s6 (fun _ b _ h => kk b h)
                    replace o5 : OwnR w6 N0 N1 (.slice a1 k c1) k V5 cs5 := o5.keep s6 (fun _ b _ h => kk b (by omega))
                    have b6 : Below N0 w w6 := k6.below b5 (by omega) (by omega)
                    have heq : ∀ i, i < k → cs5 i = cs6 i := lof_eq (sorted_one (p5.trans (p6.trans HP.out).symm) as5.pairwise as6.pairwise)
                    have HEQ : Hid (∀ i, i < k → cs5 i = cs6 i) := heq
                    obtain ⟨rfl, rfl, hT⟩ := two_of HP.out hH ht5 hf5 ht6 hf6 (fun b _ h => kk b (by omega))
                    clear heq kk k6 p5 p6 as5 as6 ht5 hf5 ht6 hf6 hH b5 s5 s6 HP
                    obtain ⟨x, bx1, bx2, hdx, hfx⟩ := hT
                    have he := eq_any bx1 bx2
                    rw [decide_eq_true rfl] at he
                    go_wp2_with fail
                    refine he.mono ?_
                    rintro e w' ⟨rfl, q2, rfl⟩
                    clear he
                    obtain ⟨w7, hw7⟩ : ∃ x, x = w6.drewN q2 := ⟨_, rfl⟩
                    replace o2 : Own w7 N1 N2 (.slice a2 k c2) k V2 cs := by rw [hw7]; exact o2.drew
                    replace o5 : OwnR w7 N0 N1 (.slice a1 k c1) k V5 cs5 := by rw [hw7]; exact o5.drew
                    replace o6 : OwnR w7 N2 N3 (.slice (some ⟨N2, 0, none⟩) k k) k V6 cs6 := by rw [hw7]; exact o6.drew
                    replace b6 : Below N0 w w7 := by rw [hw7]; exact below_drewN b6 _
                    replace bx1 : BA w7 (N0 + 1) N1 g1 x := by rw [hw7]; exact bx1.drew
                    rw [← hw7]
                    clear hw7 bx2
                    go_upto_if 117 with fail
                    go_cut [133] (fun _ wx => ∃ q, wx = w7.drewN q)
                    case first =>
                      cases ok2 with
                      | false =>
                        obtain ⟨rfl, rfl⟩ := hfx rfl
                        clear hdx hfx o2 o5 o6 bx1
                        as_aux_lemma =>
                          go_wp2_with fail
                          go_meet
                          case rel => exact ⟨0, rfl⟩
                      | true =>
                        have hdup := hdx rfl
                        clear hdx hfx o5 o6
                        as_aux_lemma =>
                          go_wp2_with fail
                          go_loopw [17, 18] (fun cv i wr => ∃ j q ct : Nat, j ≤ k ∧ ct ≤ j ∧ cv = .int .i64 (ct : Int) ∧ i = .int .i64 j ∧ wr = w7.drewN q ∧ Hid (ct = (lof cs j).count x)) (fun _ i _ => k - (intOf i).toNat)
                          case atStart => exact ⟨0, 0, 0, Nat.zero_le _, Nat.zero_le _, by go_num, by go_num, rfl, rfl⟩
                          case round =>
                            obtain ⟨j, q, ct, hj, hct, rfl, rfl, hw, HC⟩ := hrel
                            have HW : Hid (wr = w7.drewN q) := hw
                            by_cases hlt4 : j < k
                            · have o2r : Own wr N1 N2 (.slice a2 k c2) k V2 cs := by rw [hw]; exact o2.drew
                              obtain ⟨rfl, hc2⟩ := o2r.r.cell (by omega)
                              have g2' := hc2 j hlt4
                              have he := eq_any (o2r.2.1 j hlt4) (show BA wr (N0 + 1) N1 g1 x by rw [hw]; exact bx1.drew)
                              clear hw hc2 o2r o2
                              by_cases hd : cs j = x
                              · rw [decide_eq_true hd] at he
                                have hcs := count_succ cs j x
                                rw [if_pos hd, ← HC.out] at hcs
                                have HCS : Hid _ := hcs
                                clear hcs hd
                                go_wp2_with fail
                                refine he.mono ?_
                                rintro e w' ⟨rfl, q2, rfl⟩
                                clear he
                                go_wp2_with fail
                                go_roundw
                                case rel => exact ⟨j + 1, q + q2, ct + 1, by omega, by omega, by go_num, by go_num, by rw [HW.out, World.drewN_drewN], HCS.out.symm⟩
                                case measure => simp [intOf]; omega
                              · rw [decide_eq_false hd] at he
                                have hcs := count_succ cs j x
                                rw [if_neg hd, ← HC.out] at hcs
                                have HCS : Hid _ := hcs
                                clear hcs hd
                                go_wp2_with fail
                                refine he.mono ?_
                                rintro e w' ⟨rfl, q2, rfl⟩
                                clear he
                                go_wp2_with fail
                                go_roundw
                                case rel => exact ⟨j + 1, q + q2, ct, by omega, by omega, rfl, by go_num, by rw [HW.out, World.drewN_drewN], HCS.out.symm⟩
                                case measure => simp [intOf]; omega
                            · obtain rfl : j = k := by omega
                              have h2 : 2 ≤ ct := by rw [HC.out]; exact hdup
                              have h2' : ¬ (ct : Int) < 2 := by omega
                              clear hw o2 hdup h2
                              go_wp2_with fail
                              go_meet
                              case rel => exact ⟨q, HW.out⟩
                    case rest =>
                      obtain ⟨q, hq⟩ := hcut
                      replace o5 : OwnR wc N0 N1 (.slice a1 k c1) k V5 cs5 := by rw [hq]; exact o5.drew
                      replace o6 : OwnR wc N2 N3 (.slice (some ⟨N2, 0, none⟩) k k) k V6 cs6 := by rw [hq]; exact o6.drew
                      replace b6 : Below N0 w wc := by rw [hq]; exact below_drewN b6 _
                      clear hq hdx hfx bx1 o2
                      as_aux_lemma =>
                        go_wp2_with fail
                        go_loopw [19] (fun i wr => ∃ j m : Nat, j ≤ k ∧ i = .int .i64 j ∧ wr = wc.drewN m) (fun i _ => k - (intOf i).toNat)
                        case atStart => exact ⟨0, 0, Nat.zero_le _, by go_num, rfl⟩
                        case round =>
                          obtain ⟨j, m, hj, rfl, hw⟩ := hrel
                          have HW : Hid (wr = wc.drewN m) := hw
                          by_cases hlt : j < k
                          · have o5r : OwnR wr N0 N1 (.slice a1 k c1) k V5 cs5 := by rw [hw]; exact o5.drew
                            have o6r : OwnR wr N2 N3 (.slice (some ⟨N2, 0, none⟩) k k) k V6 cs6 := by rw [hw]; exact o6.drew
                            obtain ⟨rfl, hc5⟩ := o5r.cell (by omega)
                            have hc6 := (o6r.cell (by omega)).2
                            have g5 := hc5 j hlt
                            have g6 := hc6 j hlt
                            have he := fun q => eq_any (w := wr.drewN q) (o5r.2.1 j hlt).drew (o6r.2.1 j hlt).drew
                            rw [decide_eq_true (HEQ.out j hlt)] at he
                            have hlt' : (j : Int) < (k : Int) := by omega
                            clear hw hc5 hc6 o5r o6r o5 o6
                            go_wp2_with fail
                            go_quiet (first | (go_at_call 11; refine Calls.quiet_of (he _)))
                            go_wp2_with fail
                            go_roundw
                            case rel => exact ⟨j + 1, m + nq, by omega, by go_num, by rw [HW.out, World.drewN_drewN]⟩
                            case measure => simp [intOf]; omega
                          · clear hw o5 o6
                            go_wp2_with fail
                            go_ret
                            refine ⟨rfl, ?_⟩
                            rw [← HN0.out, HW.out]
                            exact below_drewN b6 _
end Go.Proofs.Qxb6618381a
