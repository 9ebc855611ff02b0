/-
  THE WALK over FnOperationsAreSortedDistinctNamesOfPairs (3).
-/
import Derived.Test.Qxb6617543aCopy
namespace Go.Proofs.Qxb6617543a
open Go.RowKit Go.Sort Plain

theorem Try.info4 : (Try.prog.info? 4).map (fun i => (i.zero, i.size, i.bytes)) = some (some (.bool false), 1, 1) := by kernel_rfl
theorem Try.info24 : (Try.prog.info? 24).map (fun i => (i.zero, i.size, i.bytes)) = some (some (.agg #[.string ByteArray.empty, .string ByteArray.empty]), 2, 32) := by kernel_rfl
theorem Try.size24 : (Try.prog.info? 24).map (·.size) = some 2 := by kernel_rfl

/-- The cells of a zero [2]string. -/
def z24 : Array Value := (Value.agg #[.string ByteArray.empty, .string ByteArray.empty]).cells
theorem make22 (n : Nat) (hn : n ≤ 65536) : ∀ w : World, (Instr.makeSlice 22 (.int .i64 (n : Int)) (.int .i64 (n : Int))).run Try.prog w = .ok (.slice (some ⟨w.heap.size, 0, none⟩) n n) (w.alloc (.cells (madeCells z24 (n * 2)) 24)) := by
  intro w
  obtain ⟨i0, hi, hz0, hz1, hz2⟩ := info_parts Try.info24
  have := run_make (P := Try.prog) w 22 24 i0 _ Try.underlying22 hi hz0 .i64 .i64 (n : Int) (n : Int) (by omega) (by omega) (by rw [hz2]; omega) (by omega)
  rw [hz1] at this
  show _ = Result.ok _ (w.alloc (.cells (madeCells (Value.agg #[.string ByteArray.empty, .string ByteArray.empty]).cells (n * 2)) 24))
  simpa using this

/-- Name k of the list, as a Go string. -/
def nm (ss : List (List UInt8)) (k : Nat) : ByteArray := ⟨(names ss)[k]!.toArray⟩
theorem nm_toList (ss : List (List UInt8)) (k : Nat) : (nm ss k).toList = (names ss)[k]! := ByteArray.toList_mk _

theorem nm_cell {w : World} {g cap B : Nat} {ss : List (List UInt8)} (h : w.ownsRow B 9 1 (.slice (some ⟨g, 0, none⟩) (names ss).length cap) (names ss).length ((names ss).map encStr)) :
    ∀ i, i < (names ss).length → w.cell? ⟨g, i, none⟩ = some (.string (nm ss i)) := by
  intro i hi
  rw [h.cellAt i (by omega)]
  simp [hi, encStr, nm]

theorem nm_rise (ss : List (List UInt8)) (i : Nat) (hi : i + 1 < (names ss).length) : Op.bytesLess (nm ss i).toList (nm ss (i + 1)).toList = true := by
  rw [nm_toList, nm_toList, bytesLess_eq]
  exact decide_eq_true (names_lt ss i (i + 1) (by omega) hi)

/-- What the search asks. -/
theorem nm_find (ss : List (List UInt8)) (s : ByteArray) (k : Nat) (hk : k < (names ss).length) (he : (names ss)[k]! = s.data.toList) :
    (∀ i, i < k → Op.bytesLess (nm ss i).toList s.toList = true) ∧ (∀ i, k ≤ i → i < (names ss).length → Op.bytesLess (nm ss i).toList s.toList = false) ∧ ((nm ss k).toList == s.toList) = true := by
  have hs : s.toList = (names ss)[k]! := by rw [ByteArray.toList_eq, he]
  refine ⟨fun i hi => ?_, fun i hi hl => ?_, ?_⟩
  · rw [nm_toList, hs, bytesLess_eq]
    exact decide_eq_true (names_lt ss i k hi hk)
  · rw [nm_toList, hs, bytesLess_eq]
    refine decide_eq_false (fun h => ?_)
    by_cases e : i = k
    · subst e; exact List.lt_irrefl _ h
    · exact List.lt_asymm h (names_lt ss k i (by omega) hl)
  · rw [nm_toList, hs]; simp

theorem nm_there {ss : List (List UInt8)} {x : List UInt8} (h : x ∈ ss) : ∃ k, k < (names ss).length ∧ (names ss)[k]! = x := by
  obtain ⟨k, hk, e⟩ := List.mem_iff_getElem.1 ((mem_names ss x).2 h)
  exact ⟨k, hk, by rw [getElem!_pos _ k hk]; exact e⟩

/-- Of the first t names of the pairs each has been seen. -/
def SeenTo (ss : List (List UInt8)) (S : Nat → ByteArray) (F : Nat → Bool) (t : Nat) : Prop := ∀ j k, j < t → k < (names ss).length → (names ss)[k]! = (S j).data.toList → F k = true

theorem row_mark {w : World} {b m : Nat} {F : Nat → Bool} (h : w.rowIs b 4 m (fun j => .bool (F j))) (x : Nat) : (w.setCell ⟨b, x, none⟩ (.bool true)).rowIs b 4 m (fun j => .bool ((fun j => if j = x then true else F j) j)) :=
  (h.set x (.bool true)).congr fun j _ => by
    show (if j = x then Value.bool true else Value.bool (F j)) = Value.bool (if j = x then true else F j)
    split <;> rfl

theorem seen_step {ss : List (List UInt8)} {S : Nat → ByteArray} {F : Nat → Bool} {t x : Nat} (hF : SeenTo ss S F t) (hx : x < (names ss).length) (he : (names ss)[x]! = (S t).data.toList) :
    SeenTo ss S (fun j => if j = x then true else F j) (t + 1) := by
  intro j k hj hk hjk
  by_cases e : k = x
  · simp [e]
  · show (if k = x then true else F k) = true
    rw [if_neg e]
    by_cases ej : j = t
    · subst ej
      have hkx : (names ss)[k]! = (names ss)[x]! := by rw [hjk, he]
      rcases (by omega : k < x ∨ x < k) with h | h
      · have := names_lt ss k x h hx; rw [hkx] at this; exact absurd this (List.lt_irrefl _)
      · have := names_lt ss x k h hk; rw [hkx] at this; exact absurd this (List.lt_irrefl _)
    · exact hF j k (by omega) hk hjk

set_option maxRecDepth 100000 in
set_option maxHeartbeats 4000000 in
theorem walk3 (a : Option Addr) (n c : Nat) (S : Nat → ByteArray) (w : World) (h0 : InS w a n 2 (fun j => .string (S j))) (hS : ∀ j, j < n * 2 → (S j).size ≤ maxLen) :
    Calls Try.prog 3 #[.slice a n c] w fun e w' => e = .returned (.bool true) ∧ Below w.heap.size w w' := by
  obtain ⟨pb0, off0, ha0, hc0⟩ : ∃ pb off, (0 < n → a = some ⟨pb, off, none⟩) ∧ ∀ j, j < n * 2 → w.cell? ⟨pb, off + j, none⟩ = some (.string (S j)) := h0.bare2
  have cb := bytes_any a pb0 off0 n c S w ha0 hc0
  clear ha0 hc0
  have q25 : ∀ (w : World) (a : Option Addr) (n c n' c' : Nat), (binOp .eql 25 (.slice a n c) (.slice none n' c')).run Try.prog w = .ok (.bool a.isNone) w := fun w a n c n' c' => Lib.run_eql_slice_nil w _ _ a n c n' c' Try.underlying25
  go_enter Try.func3, Try.ntmps3
  go_wp2_with fail
  refine cb.mono ?_
  rintro e w' ⟨b, rfl, rfl⟩
  clear cb
  cases b with
  | false =>
    go_wp2_with fail
    go_ret
    exact ⟨rfl, Below.refl _ _⟩
  | true =>
    by_cases hbig : 4096 < n
    · go_wp2_with fail
      go_ret
      exact ⟨rfl, Below.refl _ _⟩
    go_upto_if 20 with fail
    go_cut [0] (fun s wx => Cp wx s n 2 (fun j => .string (S j)) ∧ Below w.heap.size w wx)
    case first =>
      rcases h0 with ⟨rfl, rfl⟩ | ⟨x, rfl, hc⟩
      · go_wp2_with fail
        go_meet
        case rel => exact ⟨cp_nil _ _ _ _, Below.refl _ _⟩
      · have hmk := make22 n (by omega)
        have hcp := run_copy_in (P := Try.prog) w 22 24 2 n c x (madeCells z24 (n * 2)) (fun j => .string (S j)) Try.underlying22 Try.size24 (by simp [size_madeCells]) hc (fun _ => rfl)
        go_wp2_with fail
        go_meet
        case rel => exact ⟨cp_new _ _ _ _ _, (Below.refl _ _).alloc (Nat.le_refl _) _⟩
    case rest =>
      obtain ⟨⟨pa, pc, pb, rfl, hpa, hc⟩, hb0⟩ := hcut
      clear h0
      obtain ⟨w1, hw1⟩ : ∃ x, x = wc := ⟨_, rfl⟩
      subst hw1
      go_wp2_with fail
      go_loopw [4, 5] (fun t i wr => ∃ (k m : Nat) (z : Int), k ≤ n ∧ t = .int .i64 z ∧ i = .int .i64 k ∧ wr = w1.drewN m) (fun _ i _ => n - (intOf i).toNat)
      case atStart => exact ⟨0, 0, 0, Nat.zero_le _, rfl, rfl, rfl⟩
      case round =>
        obtain ⟨k, m, z, hk, rfl, rfl, rfl⟩ := hrel
        by_cases hlt : k < n
        · obtain rfl := hpa (by omega)
          have g0 := hc (k * 2) (by omega)
          have g1 := hc (k * 2 + 1) (by omega)
          have hlt' : (k : Int) < (n : Int) := by omega
          clear hpa hc hS
          go_wp2_with fail
          go_quiet (fail)
          go_wp2_with fail
          · go_ret
            exact ⟨rfl, below_drewN hb0 _⟩
          · go_roundw
            case rel => exact ⟨k + 1, m + nq, _, by omega, rfl, by go_num, rfl⟩
            case measure => simp [intOf]; omega
        · have hb1 : Below w.heap.size w (w1.drewN m) := below_drewN hb0 m
          have hc1 : ∀ j, j < n * 2 → (w1.drewN m).cell? ⟨pb, j, none⟩ = some (.string (S j)) := fun j hj => by simpa using hc j hj
          obtain ⟨w2, hw2⟩ : ∃ x, x = w1.drewN m := ⟨_, rfl⟩
          rw [← hw2] at hb1 hc1 ⊢
          clear hw2 hc hb0
          have hz := zzops_any pa pb n pc S w2 (by omega) hpa hc1 hS
          go_wp2_with fail
          refine hz.mono ?_
          rintro e w3 ⟨ss, hlen, hsub, hsup, hb3, hend⟩
          clear hz hS
          have hb13 : Below w.heap.size w w3 := hb1.trans (hb3.mono hb1.size)
          rcases hend with ⟨hss, rfl⟩ | ⟨g, cap, hne, rfl, hgb, hown⟩
          · -- nothing was gathered: there are no pairs
            obtain rfl : n = 0 := by
              rcases Nat.eq_zero_or_pos n with h | h
              · exact h
              · have := hsup 0 (by omega); rw [hss] at this; simp at this
            go_wp2_with fail
            go_ret
            exact ⟨rfl, hb13⟩
          · have hnpos : 0 < n := by
              rcases Nat.eq_zero_or_pos n with h | h
              · subst h
                obtain ⟨x, hx⟩ := List.exists_mem_of_ne_nil ss hne
                obtain ⟨j, hj, _⟩ := hsub x hx
                omega
              · exact h
            obtain rfl := hpa hnpos
            have hcells := nm_cell hown
            have hMle := length_names ss
            have hMpos : 0 < (names ss).length := by
              obtain ⟨k, hk, _⟩ := nm_there (hsup 0 (by omega))
              omega
            have hrise := nm_rise ss
            obtain ⟨M, hM⟩ : ∃ M, M = (names ss).length := ⟨_, rfl⟩
            rw [← hM] at hcells hMle hMpos hrise ⊢
            have HM : Hid (M = (names ss).length) := hM
            have hne0 : ((n : Int) == 0) = false := by simp; omega
            have hMe0 : ((M : Int) == 0) = false := by simp; omega
            clear hM hown hgb hpa
            go_wp2_with fail
            go_loopw [7] (fun i wr => ∃ (k m : Nat), k + 1 ≤ M ∧ i = .int .i64 ((k : Int) + 1) ∧ wr = w3.drewN m) (fun i _ => M - (intOf i).toNat)
            case atStart => exact ⟨0, 0, by omega, rfl, rfl⟩
            case round =>
              obtain ⟨k, m, hk, rfl, rfl⟩ := hrel
              by_cases hlt : k + 1 < M
              · have r0 := hcells k (by omega)
                have r1 := hcells (k + 1) hlt
                have hr := hrise k hlt
                have hlt' : (k : Int) + 1 < (M : Int) := by omega
                have hlt'' : (k : Int) < (M : Int) := by omega
                clear hcells hrise hsub hsup
                go_wp2_with fail
                go_quiet (fail)
                go_wp2_with fail
                go_roundw
                case rel => exact ⟨k + 1, m + nq, by omega, by go_num, rfl⟩
                case measure => simp [intOf]; omega
              · have hb4 : Below w.heap.size w (w3.drewN m) := below_drewN hb13 m
                have hp4 : ∀ j, j < n * 2 → (w3.drewN m).cell? ⟨pb, j, none⟩ = some (.string (S j)) := fun j hj => by simpa using cell_later hb3 (hc1 j hj)
                have hc4 : ∀ i, i < M → (w3.drewN m).cell? ⟨g, i, none⟩ = some (.string (nm ss i)) := fun i hi => by simpa using hcells i hi
                have hM3 : M ≤ 8192 := by omega
                obtain ⟨w4, hw4⟩ : ∃ x, x = w3.drewN m := ⟨_, rfl⟩
                rw [← hw4] at hb4 hp4 hc4 ⊢
                have hmk := run_make_row' (P := Try.prog) 27 4 (.bool false) 1 Try.underlying27 Try.info4 rfl .i64 .i64 M (by omega) (by omega)
                clear hw4 hcells hrise hc1 hb3 hb13 hb1
                go_wp2_with fail
                go_loopw [9, 10, 11] (fun i q x wr => ∃ (k : Nat) (F : Nat → Bool), k ≤ n ∧ i = .int .i64 k ∧ SeenTo ss S F (k * 2) ∧ wr.rowIs w4.heap.size 4 M (fun j => .bool (F j)) ∧ Below w4.heap.size w4 wr) (fun i _ _ _ => n - (intOf i).toNat)
                case atStart => exact ⟨0, fun _ => false, Nat.zero_le _, rfl, fun j k hj => by omega, World.rowIs_made w4 (.bool false) M 4, (Below.refl _ _).alloc (Nat.le_refl _) _⟩
                case round =>
                  clear hmk
                  obtain ⟨i, F, hi, rfl, hF, hrow, hbel⟩ := hrel
                  by_cases hlt2 : i < n
                  · go_wp2_with fail
                    go_loopw [10, 11] (fun q x wr => ∃ (k : Nat) (F : Nat → Bool), k ≤ 2 ∧ q = .int .i64 k ∧ SeenTo ss S F (i * 2 + k) ∧ wr.rowIs w4.heap.size 4 M (fun j => .bool (F j)) ∧ Below w4.heap.size w4 wr) (fun q _ _ => 2 - (intOf q).toNat)
                    case atStart => exact ⟨0, F, by omega, rfl, hF, hrow, hbel⟩
                    case round =>
                      clear hF hrow hbel F
                      obtain ⟨q, F, hq, rfl, hF, hrow, hbel⟩ := hrel
                      by_cases hq2 : q < 2
                      · obtain ⟨x, hx, hxe⟩ := nm_there (hsup (i * 2 + q) (by omega))
                        obtain ⟨f1, f2, f3⟩ := nm_find ss (S (i * 2 + q)) x hx hxe
                        rw [← HM.out] at hx f2
                        have hpc : wr.cell? ⟨pb, i * 2 + q, none⟩ = some (.string (S (i * 2 + q))) := cell_later hbel (hp4 (i * 2 + q) (by omega))
                        have hfind := find_any g M cap x (nm ss) (S (i * 2 + q)) wr (by omega) hx (fun j hj => cell_later hbel (hc4 j hj)) f1 f2 f3
                        have hcx := hrow.cell hx
                        have hfx := hrow.frozen x
                        have HX : Hid ((names ss)[x]! = (S (i * 2 + q)).data.toList) := hxe
                        clear f1 f2 f3 hxe
                        go_wp2_with fail
                        refine hfind.mono ?_
                        rintro e w5 ⟨rfl, hw5⟩
                        subst hw5
                        clear hfind
                        go_wp2_with fail
                        go_roundw
                        case rel =>
                          refine ⟨q + 1, fun j => if j = x then true else F j, by omega, by go_num, ?_, row_mark hrow x, hbel.setCell (Nat.le_refl _) _⟩
                          rw [← Nat.add_assoc]
                          exact seen_step hF (HM.out ▸ hx) HX.out
                        case measure => simp [intOf]; omega
                      · obtain rfl : q = 2 := by omega
                        go_wp2_with fail
                        go_roundw
                        case rel => exact ⟨i + 1, F, by omega, by go_num, by rw [Nat.add_mul]; exact hF, hrow, hbel⟩
                        case measure => simp [intOf]; omega
                  · obtain rfl : i = n := by omega
                    have hall : ∀ k, k < M → F k = true := by
                      intro k hk
                      rw [HM.out] at hk
                      have hmem : (names ss)[k]! ∈ names ss := by rw [getElem!_pos _ k hk]; exact List.getElem_mem hk
                      obtain ⟨j, hj, he⟩ := hsub _ ((mem_names ss _).1 hmem)
                      exact hF j k hj hk he
                    have hcf : ∀ k, k < M → wr.cell? ⟨w4.heap.size, k, none⟩ = some (.bool true) := fun k hk => by rw [hrow.cell hk, hall k hk]
                    have fin : Below w.heap.size w wr := hb4.trans (hbel.mono hb4.size)
                    clear hall hF hrow hbel hsub hsup hp4 hc4
                    go_wp2_with fail
                    go_loop [12] (fun x => ∃ k : Nat, k ≤ M ∧ x = .int .i64 k) (fun x => M - (intOf x).toNat)
                    case atStart => exact ⟨0, Nat.zero_le _, rfl⟩
                    case round =>
                      obtain ⟨k, hk, rfl⟩ := hrel
                      by_cases hlt3 : k < M
                      · have hck := hcf k hlt3
                        clear hcf
                        go_wp2_with fail
                        go_round
                        case rel => exact ⟨k + 1, by omega, by go_num⟩
                        case measure => simp [intOf]; omega
                      · clear hcf
                        go_wp2_with fail
                        go_ret
                        exact ⟨rfl, fin⟩
end Go.Proofs.Qxb6617543a
