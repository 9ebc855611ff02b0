/-
  A byte slice by its contents; zzEqBytes, zzCmpBytes, bytes.Compare, bytes.Equal said of contents.
-/
import Derived.Test.Qxb6618381aWalks
import Derived.Lib.Bytealg
import Derived.Lib.BytesEntry
import Derived.Laws.BytesArg
namespace Go.Proofs.Qxb6618381a
open Go.RowKit Plain

/-- The value is a slice of bytes that holds bs; its block lies from lo on, ahead of hi. -/
def BA (w : World) (lo hi : Nat) (v : Value) (bs : Bs) : Prop :=
  bs.length ≤ 1048576 ∧ ∃ a c b o, v = .slice a bs.length c ∧ (0 < bs.length → a = some ⟨b, o, none⟩ ∧ lo ≤ b ∧ b < hi) ∧ ∀ j, j < bs.length → w.cell? ⟨b, o + j, none⟩ = some (.int .u8 ((bs.getD j 0).toNat : Nat))

theorem BA.keep {w w' : World} {lo hi : Nat} {v : Value} {bs : Bs} (h : BA w lo hi v bs) (k : ∀ b, lo ≤ b → b < hi → w'.heap[b]? = w.heap[b]?) : BA w' lo hi v bs := by
  obtain ⟨hl, a, c, b, o, hv, ha, hc⟩ := h
  refine ⟨hl, a, c, b, o, hv, ha, fun j hj => ?_⟩
  have := ha (by omega)
  rw [← hc j hj]
  exact World.cell?_of_block (w := w) (k b this.2.1 this.2.2)

theorem BA.drew {w : World} {lo hi n : Nat} {v : Value} {bs : Bs} (h : BA w lo hi v bs) : BA (w.drewN n) lo hi v bs := by
  obtain ⟨hl, a, c, b, o, hv, ha, hc⟩ := h
  exact ⟨hl, a, c, b, o, hv, ha, fun j hj => by rw [← hc j hj]; simp⟩

theorem BA.wide {w : World} {lo hi lo' hi' : Nat} {v : Value} {bs : Bs} (h : BA w lo hi v bs) (h1 : lo' ≤ lo) (h2 : hi ≤ hi') : BA w lo' hi' v bs := by
  obtain ⟨hl, a, c, b, o, hv, ha, hc⟩ := h
  exact ⟨hl, a, c, b, o, hv, fun h => ⟨(ha h).1, by have := (ha h).2.1; omega, by have := (ha h).2.2; omega⟩, hc⟩

theorem ba_nil (w : World) (lo hi : Nat) (a : Option Addr) (c : Nat) : BA w lo hi (.slice a 0 c) [] := ⟨by simp, a, c, 0, 0, rfl, by simp, by simp⟩

theorem BA.one {w : World} {lo hi : Nat} {v : Value} {bs : Bs} (h : BA w lo hi v bs) : v.oneCell' = true := by
  obtain ⟨hl, a, c, b, o, rfl, ha, hc⟩ := h
  rfl

theorem getD_eq {a b : Bs} (hl : a.length = b.length) (h : ∀ i, i < a.length → a.getD i 0 = b.getD i 0) : a = b := by
  apply List.ext_getElem hl
  intro i h1 h2
  have := h i h1
  simpa [List.getD, h1, h2] using this

theorem cast_eq {x y : UInt8} (h : ((x.toNat : Nat) : Int) = ((y.toNat : Nat) : Int)) : x = y := UInt8.toNat.inj (by omega)

theorem eq_any {w : World} {l1 h1 l2 h2 : Nat} {va vb : Value} {a b : Bs} (ha : BA w l1 h1 va a) (hb : BA w l2 h2 vb b) :
    Calls Try.prog 11 #[va, vb] w fun e w' => e = .returned (.bool (decide (a = b))) ∧ ∃ n, w' = w.drewN n := by
  obtain ⟨hla, a1, c1, b1, o1, rfl, ha1, hc1⟩ := ha
  obtain ⟨hlb, a2, c2, b2, o2, rfl, ha2, hc2⟩ := hb
  refine eq_raw a1 a2 a.length b.length c1 c2 b1 o1 b2 o2 (fun i => ((a.getD i 0).toNat : Nat)) (fun i => ((b.getD i 0).toNat : Nat)) _ w hla (fun h => (ha1 h).1) (fun h => (ha2 h).1) hc1 hc2 ?_
  rw [decide_eq_true_iff]
  constructor
  · rintro rfl; exact ⟨rfl, fun _ _ => rfl⟩
  · rintro ⟨hl, h⟩; exact getD_eq hl (fun i hi => cast_eq (h i hi))

theorem cmpL_pre : ∀ (k : Nat) (a b : Bs), k < a.length → k < b.length → (∀ j, j < k → a.getD j 0 = b.getD j 0) → a.getD k 0 < b.getD k 0 → a < b
  | 0, x :: a, y :: b, _, _, _, h => by
    simp at h; exact List.Lex.rel h
  | k + 1, x :: a, y :: b, h1, h2, h3, h => by
    have h0 := h3 0 (by omega)
    simp at h0
    subst h0
    exact List.Lex.cons (cmpL_pre k a b (by simpa using h1) (by simpa using h2) (fun j hj => by have := h3 (j + 1) (by omega); simpa using this) (by simpa using h))

theorem pre_lt : ∀ (a b : Bs), a.length < b.length → (∀ j, j < a.length → a.getD j 0 = b.getD j 0) → a < b
  | [], y :: b, _, _ => List.Lex.nil
  | x :: a, y :: b, h, h3 => by
    have h0 := h3 0 (by simp)
    simp at h0
    subst h0
    exact List.Lex.cons (pre_lt a b (by simpa using h) (fun j hj => by have := h3 (j + 1) (by simpa using hj); simpa using this))

theorem cmpL_of_lt {a b : Bs} (h : a < b) : cmpL a b = -1 := by unfold cmpL; rw [if_pos h]
theorem cmpL_of_gt {a b : Bs} (h : b < a) : cmpL a b = 1 := by unfold cmpL; rw [if_neg (List.lt_asymm h), if_pos h]
theorem cmpL_self (a : Bs) : cmpL a a = 0 := by unfold cmpL; rw [if_neg (List.lt_irrefl a), if_neg (List.lt_irrefl a)]

theorem cmp_any {w : World} {l1 h1 l2 h2 : Nat} {va vb : Value} {a b : Bs} (ha : BA w l1 h1 va a) (hb : BA w l2 h2 vb b) :
    Calls Try.prog 8 #[va, vb] w fun e w' => e = .returned (.int .i64 (cmpL a b)) ∧ ∃ n, w' = w.drewN n := by
  obtain ⟨hla, a1, c1, b1, o1, rfl, ha1, hc1⟩ := ha
  obtain ⟨hlb, a2, c2, b2, o2, rfl, ha2, hc2⟩ := hb
  refine cmp_raw a1 a2 a.length b.length c1 c2 b1 o1 b2 o2 (fun i => ((a.getD i 0).toNat : Nat)) (fun i => ((b.getD i 0).toNat : Nat)) _ w hla hlb (fun h => (ha1 h).1) (fun h => (ha2 h).1) hc1 hc2 ?_ ?_ ?_
  · intro k k1 k2 hp hk
    exact cmpL_of_lt (cmpL_pre k a b k1 k2 (fun j hj => cast_eq (hp j hj)) (by rw [UInt8.lt_iff_toNat_lt]; omega))
  · intro k k1 k2 hp hk
    exact cmpL_of_gt (cmpL_pre k b a k2 k1 (fun j hj => (cast_eq (hp j hj)).symm) (by rw [UInt8.lt_iff_toNat_lt]; omega))
  · intro hp
    refine ⟨fun h => cmpL_of_lt (pre_lt a b h fun j hj => cast_eq (hp j hj (by omega))), fun h => cmpL_of_gt (pre_lt b a h fun j hj => (cast_eq (hp j (by omega) hj)).symm), fun h => ?_⟩
    have : a = b := getD_eq h (fun i hi => cast_eq (hp i hi (by omega)))
    subst this
    exact cmpL_self a

theorem compareBytes_eq : ∀ a b : Bs, Lib.compareBytes a b = cmpL a b
  | [], [] => by rw [cmpL_self]; rfl
  | [], y :: b => by rw [cmpL_of_lt (List.Lex.nil)]; rfl
  | x :: a, [] => by rw [cmpL_of_gt (List.Lex.nil)]; rfl
  | x :: a, y :: b => by
    unfold Lib.compareBytes
    split
    · rename_i h; rw [cmpL_of_lt (List.Lex.rel h)]
    · split
      · rename_i h; rw [cmpL_of_gt (List.Lex.rel h)]
      · rename_i h1 h2
        have : x = y := UInt8.le_antisymm (UInt8.not_lt.1 h2) (UInt8.not_lt.1 h1)
        subst this
        rw [compareBytes_eq a b]
        unfold cmpL
        simp

/-- The numbers of a list of bytes. -/
def nums (bs : Bs) : List Int := bs.map fun x => ((x.toNat : Nat) : Int)
theorem bytesOf_nums (bs : Bs) : Lib.bytesOf (nums bs) = bs := by
  unfold Lib.bytesOf nums
  rw [List.map_map]
  conv => rhs; rw [← List.map_id bs]
  apply List.map_congr_left
  intro x _
  simp
theorem nums_getD (bs : Bs) (j : Nat) (h : j < bs.length) : (nums bs).getD j 0 = ((bs.getD j 0).toNat : Nat) := by
  simp [nums, List.getD, h]

theorem BA.bytes {w : World} {lo hi : Nat} {v : Value} {bs : Bs} (h : BA w lo hi v bs) : (Extern.Bytes.bytesOf v).run Try.prog w = .ok ⟨bs.toArray⟩ w := by
  obtain ⟨hl, a, c, b, o, rfl, ha, hc⟩ := h
  cases a with
  | none =>
    have h0 : bs = [] := by
      cases bs with
      | nil => rfl
      | cons x l => have := ha (by simp); simp at this
    subst h0
    rfl
  | some x =>
    by_cases h0 : 0 < bs.length
    · obtain ⟨e, _, _⟩ := ha h0
      obtain rfl : x = _ := by simpa using e
      have hl := Lib.run_loadBytesX (P := Try.prog) w (nums bs) ⟨b, o, none⟩ .empty (fun j y hj => by
        have hjl : j < (nums bs).length := (List.getElem?_eq_some_iff.1 hj).1
        have hjl' : j < bs.length := by simpa [nums] using hjl
        have e : (⟨b, o, none⟩ : Addr).add j = ⟨b, o + j, none⟩ := by unfold Addr.add; split <;> simp_all
        rw [e, hc j hjl', ← nums_getD bs j hjl', List.getD_eq_getElem?_getD, hj]
        rfl)
      have hx : (nums bs).length = bs.length := by simp [nums]
      rw [hx, bytesOf_nums] at hl
      show (Extern.Bytes.loadBytes _ _ _).run _ _ = _
      rw [hl]
      congr 1
      apply ByteArray.ext
      show (#[] : Array UInt8) ++ bs.toArray = bs.toArray
      simp
    · have h0 : bs = [] := by
        cases bs with
        | nil => rfl
        | cons x l => exact absurd (by simp) h0
      subst h0
      rfl

theorem BA.conv {w : World} {lo hi : Nat} {v : Value} {bs : Bs} (h : BA w lo hi v bs) : (convert 24 9 v).run Try.prog w = .ok (.string ⟨bs.toArray⟩) w := by
  obtain ⟨hl, a, c, b, o, rfl, ha, hc⟩ := h
  by_cases h0 : 0 < bs.length
  · obtain ⟨rfl, _, _⟩ := ha h0
    have := run_convert_bytes_arg (P := Try.prog) w 24 5 Try.underlying24 Try.underlying5 b o bs.length c (nums bs) (by simp [nums]) (fun i hi => by rw [nums_getD bs i hi]; exact hc i hi) 9 Try.underlying9
    rw [this]
    congr 2
    apply ByteArray.ext
    have e : (strOfNums (nums bs)).data.toList = bs := by rw [strOfNums_data]; exact bytesOf_nums bs
    apply Array.toList_inj.1
    exact e
  · have h0 : bs = [] := by
      cases bs with
      | nil => rfl
      | cons x l => exact absurd (by simp) h0
    subst h0
    cases a with
    | none => exact run_convert_bytes_nil (P := Try.prog) w 24 5 Try.underlying24 Try.underlying5 0 c 9 Try.underlying9
    | some x =>
      show (convert 24 9 (Value.slice (some x) 0 c)).run Try.prog w = _
      rw [run_convert_bytes_string w 24 9 5 _ 0 c Try.underlying24 Try.underlying5 Try.underlying9]
      rfl

theorem run_cmp {w : World} {l1 h1 l2 h2 : Nat} {va vb : Value} {a b : Bs} (ha : BA w l1 h1 va a) (hb : BA w l2 h2 vb b) :
    (Extern.BytealgCompare.compare #[va, vb]).run Try.prog w = .ok (.int .i64 (cmpL a b)) w := by
  change Sem.run Try.prog (do pure (goInt (Extern.BytealgCompare.cmp (← Extern.Bytes.bytesOf va) (← Extern.Bytes.bytesOf vb)))) w = _
  simp only [Sem.run_bind, Sem.run_pure, ha.bytes, hb.bytes, Result.andThen]
  rw [Lib.cmp_eq]
  show _ = Result.ok (Value.int .i64 (cmpL a b)) w
  rw [← compareBytes_eq]
  rfl

set_option maxHeartbeats 1000000 in
theorem compare_any {w : World} {l1 h1 l2 h2 : Nat} {va vb : Value} {a b : Bs} (ha : BA w l1 h1 va a) (hb : BA w l2 h2 vb b) :
    Calls Try.prog 16 #[va, vb] w fun e w' => e = .returned (.int .i64 (cmpL a b)) ∧ w' = w := by
  have hrun := run_cmp ha hb
  generalize cmpL a b = r at hrun ⊢
  clear ha hb
  go_enter Try.func16, Try.ntmps16
  go_wp2
  rw [run_callFunc_extern Try.func20 (by kernel_rfl) (by kernel_rfl) (by kernel_rfl) (e := Extern.BytealgCompare.compare) (by kernel_rfl), hrun]
  simp only [Result.andThen]
  rw [Oper.upon_value]
  go_wp2
  go_ret
  exact ⟨rfl, rfl⟩

set_option maxHeartbeats 1000000 in
theorem equal_any {w : World} {l1 h1 l2 h2 : Nat} {va vb : Value} {a b : Bs} (ha : BA w l1 h1 va a) (hb : BA w l2 h2 vb b) :
    Calls Try.prog 17 #[va, vb] w fun e w' => e = .returned (.bool (decide (a = b))) ∧ w' = w := by
  have e1 := ha.conv
  have e2 := hb.conv
  have e3 : ((⟨a.toArray⟩ : ByteArray).toList == (⟨b.toArray⟩ : ByteArray).toList) = decide (a = b) := by
    rw [Lib.toList_data, Lib.toList_data]
    by_cases h : a = b
    · subst h; simp
    · rw [decide_eq_false h, beq_eq_false_iff_ne]
      simpa using h
  rw [← e3]
  clear ha hb e3
  generalize (⟨a.toArray⟩ : ByteArray) = s at e1 ⊢
  generalize (⟨b.toArray⟩ : ByteArray) = t at e2 ⊢
  go_enter Try.func17, Try.ntmps17
  go_wp2
  go_ret
  exact ⟨rfl, rfl⟩
end Go.Proofs.Qxb6618381a
