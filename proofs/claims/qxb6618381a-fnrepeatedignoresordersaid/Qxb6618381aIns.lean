/-
  zzInsertionSort (9).
-/
import Derived.Test.Qxb6618381aRep
import Derived.Sort.WalkA
namespace Go.Proofs.Qxb6618381a
open Go.RowKit Plain Go.Sort

theorem ltN_pos (cs : Nat → Bs) (n x y : Nat) : ltOf (cfN cs n) x y = decide (cfN cs n y x > 0) := by
  rw [ltN]
  rw [decide_eq_decide]
  exact cmpL_pos.symm

set_option maxHeartbeats 1000000 in
theorem ins_raw {w : World} {rb lo hi n c : Nat} {V : Nat → Value} {cs : Nat → Bs} (hn : n ≤ 1048576) (hr : w.rowIs rb 24 n V) (hb : ∀ i, i < n → BA w lo hi (V i) (cs i)) (hhi : hi ≤ w.heap.size) (hrb : rb < lo) :
    Calls Try.prog 9 #[.slice (some ⟨rb, 0, none⟩) n c] w fun e w' =>
      e = .returned (.tuple #[]) ∧ ∃ m, w' = putRow (tV V n) (Sort.ahead w m) rb 0 (Sort.insertionSort (ltOf (cfN cs n)) (Array.range n) 0 n) := by
  have hH := holdsN hr
  have hds : (Array.range n).size = n := by simp
  have hba : ∀ m dk x, BA (putRow (tV V n) (Sort.ahead w m) rb 0 dk) lo hi (tV V n x) (tC cs n x) := fun m dk x => by
    have hk := sw_kp (tV V n) w rb m dk #[]
    have e : sortWorld (tV V n) w rb 0 m dk #[] = putRow (tV V n) (Sort.ahead w m) rb 0 dk := by unfold sortWorld; rw [grow_empty]
    rw [e] at hk
    exact (t_ba hb x).keep (fun b h1 h2 => hk.block b (by omega) (by omega))
  have hsl : ∀ x, ∃ a l c, tV V n x = .slice a l c := fun x => (t_ba hb x).slice
  generalize hd : Array.range n = d at hH hds ⊢
  clear hd hb hr
  generalize tV V n = T at hH hba hsl ⊢
  have HBA : Hid _ := hba
  have HSL : Hid _ := hsl
  have HH : Hid _ := hH
  clear hba hsl hH
  go_enter Try.func9, Try.ntmps9
  go_wp2
  go_loopw [2] (fun vi wr => ∃ (i m : Nat) (dk : Array Nat), vi = .int .i64 i ∧ 0 < i ∧ i ≤ n + 1 ∧ dk.size = n ∧ wr = putRow T (Sort.ahead w m) rb 0 dk ∧
      insOuter (ltOf (cfN cs n)) 0 n i dk = insOuter (ltOf (cfN cs n)) 0 n (0 + 1) d) (fun vi _ => n + 1 - (intOf vi).toNat)
  case atStart => exact ⟨1, 0, d, by go_num, by omega, by omega, hds, (putRow_self _ _ _ _ _ HH.out).symm, rfl⟩
  case round =>
    obtain ⟨i, m0, dk, rfl, hai, hib, hsk, hwr, hO⟩ := hrel
    have HO : Hid (insOuter (ltOf (cfN cs n)) 0 n i dk = insOuter (ltOf (cfN cs n)) 0 n (0 + 1) d) := hO
    clear hO
    by_cases hlt : i < n
    · go_wp2
      go_loopw [3] (fun vj wr2 => ∃ (j m : Nat) (dj : Array Nat), vj = .int .i64 j ∧ j ≤ i ∧ dj.size = n ∧ wr2 = putRow T (Sort.ahead w m) rb 0 dj ∧
          insInner (ltOf (cfN cs n)) 0 j dj = insInner (ltOf (cfN cs n)) 0 i dk) (fun vj _ => (intOf vj).toNat)
      case atStart => exact ⟨i, m0, dk, rfl, Nat.le_refl _, hsk, rfl, rfl⟩
      case round =>
        obtain ⟨j, m, dj, rfl, hji, hsj, hw2, hI⟩ := hrel
        obtain ⟨G, hG⟩ : ∃ G : Nat → Nat, ∀ t, G t = dj[t]! := ⟨fun t => dj[t]!, fun _ => rfl⟩
        have hcw : ∀ t, t < n → wr.cell? ⟨rb, t, none⟩ = some (T (G t)) := fun t ht => by
          have := cell?_putRow T (Sort.ahead w m) rb 0 d dj (holds_ahead _ _ _ _ _ _ HH.out) (by omega) t (by omega)
          rw [Nat.zero_add] at this
          rw [hw2, hG]; exact this
        have hfw : ∀ t, t < n → wr.frozen? ⟨rb, t, none⟩ = false := fun t ht => by
          have := ((holds_ahead _ _ m _ _ _ HH.out) t (by omega)).2
          rw [Nat.zero_add] at this
          rw [hw2, frozen?_putRow]; exact this
        have hbw : ∀ q x, BA (wr.drewN q) lo hi (T x) (tC cs n x) := fun q x => by rw [hw2]; exact (HBA.out m dj x).drew
        have HBW : Hid _ := hbw
        have HW : Hid (wr = putRow T (Sort.ahead w m) rb 0 dj) := hw2
        have HG : Hid (∀ t, G t = dj[t]!) := hG
        have HI : Hid (insInner (ltOf (cfN cs n)) 0 j dj = insInner (ltOf (cfN cs n)) 0 i dk) := hI
        clear hw2 hG hI hbw
        have out : (j ≤ 0 ∨ ltOf (cfN cs n) dj[j]! dj[j - 1]! = false) → ∀ q, ∃ i' n' dk', Value.int .i64 ((i : Int) + 1) = .int .i64 (i' : Nat) ∧ 0 < i' ∧ i' ≤ n + 1 ∧ dk'.size = n ∧
            wr.drewN q = putRow T (Sort.ahead w n') rb 0 dk' ∧ insOuter (ltOf (cfN cs n)) 0 n i' dk' = insOuter (ltOf (cfN cs n)) 0 n (0 + 1) d := fun hs q =>
          ⟨i + 1, m + q, dj, by go_num, by omega, by omega, hsj, by rw [HW.out]; exact putRow_drewN _ _ _ _ _ _ _,
            by rw [← HO.out, insOuter_go _ _ _ _ _ hlt, ← HI.out, insInner_stop _ _ _ _ hs]⟩
        have OUT : Hid _ := out
        clear out
        have hjn : j < n := by omega
        by_cases hja : 0 < j
        · have c1 := hcw (j - 1) (by omega)
          have c2 := hcw j hjn
          have f1 := hfw (j - 1) (by omega)
          have f2 := hfw j hjn
          obtain ⟨a1, l1, q1, e1⟩ := HSL.out (G (j - 1))
          obtain ⟨a2, l2, q2, e2⟩ := HSL.out (G j)
          have hcmp := fun q => cmp_any (HBW.out q (G (j - 1))) (HBW.out q (G j))
          change ∀ q, Calls Try.prog 8 #[T (G (j - 1)), T (G j)] (wr.drewN q) fun e w' => e = .returned (.int .i64 (cfN cs n (G (j - 1)) (G j))) ∧ ∃ n, w' = (wr.drewN q).drewN n at hcmp
          generalize hz : cfN cs n (G (j - 1)) (G j) = z at hcmp
          have HZ : Hid (cfN cs n (G (j - 1)) (G j) = z) := hz
          rw [e1] at c1 hcmp
          rw [e2] at c2 hcmp
          have E1 : Hid _ := e1
          have E2 : Hid _ := e2
          have hsub : ((j : Int) - 1).toNat = j - 1 := by omega
          clear hz e1 e2 hcw hfw
          by_cases hgt : z > 0
          · go_wp2
            go_quiet (first | (go_at_call 8; refine Calls.quiet_of (hcmp _)))
            go_wp2
            go_roundw
            case rel =>
              refine ⟨j - 1, m + nq, swp dj j (j - 1), by congr 1; omega, by omega, by rw [size_swp]; exact hsj, ?_, ?_⟩
              · rw [HW.out, ← E1.out, ← E2.out, HG.out, HG.out]
                have := swap_worldA T w m nq rb 0 dj j (j - 1) (by omega) (by omega)
                rw [Nat.zero_add, Nat.zero_add] at this
                exact this
              · rw [← HI.out, insInner_go _ 0 j dj hja (by rw [← HG.out, ← HG.out, ltN_pos, HZ.out]; exact decide_eq_true hgt)]
            case measure => simp [intOf]; omega
          · go_wp2
            go_quiet (first | (go_at_call 8; refine Calls.quiet_of (hcmp _)))
            go_wp2
            go_roundw
            case rel => exact OUT.out (Or.inr (by rw [← HG.out, ← HG.out, ltN_pos, HZ.out]; exact decide_eq_false (by omega))) nq
            case measure => simp [intOf]; omega
        · have hj0 : j = 0 := by omega
          subst hj0
          go_wp2
          go_quiet (fail)
          go_wp2
          go_roundw
          case rel => exact OUT.out (Or.inl (by omega)) nq
          case measure => simp [intOf]; omega
    · have HWr : Hid _ := hwr
      clear hwr
      go_wp2
      go_end0
      exact ⟨rfl, m0, by unfold Sort.insertionSort; rw [HWr.out, ← HO.out, insOuter_stop _ _ _ _ _ hlt]⟩

theorem ins_any {w : World} {rb lo hi n : Nat} {v : Value} {V : Nat → Value} {cs : Nat → Bs} (hn : n ≤ 1048576) (hv : Ls w rb v n V) (hb : ∀ i, i < n → BA w lo hi (V i) (cs i)) (hhi : hi ≤ w.heap.size) (hrb : rb < lo) :
    Calls Try.prog 9 #[v] w fun e w' => e = .returned (.tuple #[]) ∧ SortedW w rb lo hi v n cs w' := by
  obtain ⟨a, c, rfl, ha⟩ := hv
  by_cases h0 : 0 < n
  · obtain ⟨rfl, hr⟩ := ha h0
    refine (ins_raw hn hr hb hhi hrb).mono ?_
    rintro e w' ⟨he, m, rfl⟩
    have hi := insertionSort_holds (lt := ltOf (cfN cs n)) (swoN cs n) (Array.range n) 0 n (by omega) (by simp)
    have := sortedW_of (m := m) (c := c) (os := #[]) hr hb hhi hrb hi.1 hi.2
    unfold sortWorld at this
    rw [grow_empty] at this
    exact ⟨he, this⟩
  · have : n = 0 := by omega
    subst this
    clear ha
    go_enter Try.func9, Try.ntmps9
    go_wp2
    refine wp_loop_rounds 1 ?_
    rw [rounds_succ]
    go_wp2
    go_end0
    exact ⟨rfl, V, cs, ⟨_, _, rfl, by omega, by omega⟩, by omega, .rfl, fun _ _ _ h => by omega, Kp.refl _ _⟩
end Go.Proofs.Qxb6618381a
