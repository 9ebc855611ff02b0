/-
  THE WALKS over (CommutativityTable).operations (7) and ZZOperationsOf (5).
-/
import Derived.Test.Qxb6617543aFind
import Derived.Test.Qxb6617543aKeys
import Derived.Test.Qxb6617543aShelf
import Derived.Maps.Own
import Derived.Maps.OwnSet
import Derived.Maps.RangeWalk
import Derived.Sort.OwnSorted
import Derived.Sort.Grow
import Derived.Lib.OwnBridge
import Derived.Shelf.Slices.In.SortNone
import Derived.Deep.LoopGhost
namespace Go.Proofs.Qxb6617543a
open Go.RowKit Go.Maps Go.Sort

/-- The pairs: S (2 * i), S (2 * i + 1) are pair i's names. The map D holds just the first k pairs. -/
def HasPairs (D : DataW Unit) (S : Nat → ByteArray) (k : Nat) : Prop := IsMap D ∧ ∀ kl, Maps.has D kl = true ↔ ∃ i, i < k ∧ keyOf Try.prog 33 (Pr (S (i * 2)) (S (i * 2 + 1))) = some kl

theorem hasPairs_start (S : Nat → ByteArray) : HasPairs (.map []) S 0 := ⟨isMap_empty, fun kl => by simp [Maps.has]⟩

theorem hasPairs_step {D : DataW Unit} {S : Nat → ByteArray} {k : Nat} {kl : Lit} (h : HasPairs D S k) (hk : keyOf Try.prog 33 (Pr (S (k * 2)) (S (k * 2 + 1))) = some kl) (d : DataW Unit) : HasPairs (D.put kl d) S (k + 1) := by
  refine ⟨h.1.put kl d, fun kl' => ?_⟩
  by_cases e : kl' = kl
  · subst e
    rw [has_put_same h.1 (law.key hk)]
    exact ⟨fun _ => ⟨k, by omega, hk⟩, fun _ => rfl⟩
  · rw [has_put_other e, h.2 kl']
    constructor
    · rintro ⟨i, hi, hh⟩
      exact ⟨i, by omega, hh⟩
    · rintro ⟨i, hi, hh⟩
      by_cases e2 : i = k
      · subst e2; rw [hk] at hh; cases hh; exact absurd rfl e
      · exact ⟨i, by omega, hh⟩

theorem mk29 (n : Nat) (w : World) : (Instr.makeMap 29 (some (.int .i64 (n : Int)))).run Try.prog w = .ok (.map (some w.heap.size)) (w.alloc (.map #[] 0)) := by
  simp [Instr.makeMap, run_underlying Try.underlying29, asInt, asIntOf]

/-- The state while the table is filled: the map at block B, the table at block B + 1. -/
structure Tab (w : World) (B n k : Nat) (S : Nat → ByteArray) (wr : World) : Prop where
  owns : ∃ D : DataW Unit, wr.ownsMap Try.prog 33 unitElem B k D ∧ HasPairs D S k
  cell : wr.cell? ⟨B + 1, 0, none⟩ = some (.map (some B))
  below : Below B w wr
  size : B + 1 < wr.heap.size

theorem Try.info9 : (Try.prog.info? 9).map (fun i => (i.zero, i.size, i.bytes)) = some (some (.string ByteArray.empty), 1, 16) := by kernel_rfl

def mkP (p : ByteArray × ByteArray) : Value := Pr p.1 p.2
def mkU (_ : Unit) : Value := .agg #[]
theorem invP (key : Value) (kl : Lit) (h : keyOf Try.prog 33 key = some kl) : ∃ x, key = mkP x := by obtain ⟨a, b, e⟩ := key_inv h; exact ⟨(a, b), e⟩
theorem invU (v : Value) (y : DataW Unit × List MemPlace) (h : unitElem v = some y) : ∃ c, v = mkU c := ⟨(), (unitElem_inv h).1⟩

/-- While the map is ranged over: which entries are still to come, what has been gathered. -/
structure Col (w : World) (B r n : Nat) (D : DataW Unit) (S : Nat → ByteArray) (left : Lit → Bool) (cnt : Nat) (ss : List (List UInt8)) (v : Value) (wr : World) : Prop where
  rg : wr.ranges Try.prog 33 unitElem B r n D left cnt
  own : wr.ownsRow (r + 1) 9 1 v ss.length (ss.map encStr)
  below : Below w.heap.size w wr
  sub : ∀ x ∈ ss, ∃ j, j < n * 2 ∧ x = (S j).data.toList
  sup : ∀ i kl, i < n → keyOf Try.prog 33 (Pr (S (i * 2)) (S (i * 2 + 1))) = some kl → left kl = false → (S (i * 2)).data.toList ∈ ss ∧ (S (i * 2 + 1)).data.toList ∈ ss
  lft : ∀ kl, left kl = true → Maps.has D kl = true
  len : ss.length + 2 * cnt ≤ 2 * n
  nil : ss = [] → v = .slice none 0 0

theorem encStr_data (a : ByteArray) : encStr a.data.toList = .string a := by simp [encStr]

theorem Col.step {w wr w2 w3 : World} {B r n cnt cnt2 : Nat} {D : DataW Unit} {S : Nat → ByteArray} {left : Lit → Bool} {ss : List (List UInt8)} {v v' : Value} {a b : ByteArray} {kl : Lit} {o1 o2 : Obj}
    (C : Col w B r n D S left cnt ss v wr) (hB : B < r) (hr : w.heap.size ≤ r) (hD : HasPairs D S n) (hkey : keyOf Try.prog 33 (Pr a b) = some kl) (hlk : left kl = true)
    (hrg2 : w2.ranges Try.prog 33 unitElem B r n D (fun z => left z && !z.sameKey kl) cnt2) (hlt : cnt2 < cnt) (hg2 : wr.grownBy w2 (some r))
    (hown' : w3.ownsRow (r + 1) 9 1 v' (ss.length + 2) (ss.map encStr ++ [.string a, .string b])) (hgrow : ((w2.alloc o1).alloc o2).grownBy w3 v.ownBlock) :
    Col w B r n D S (fun z => left z && !z.sameKey kl) cnt2 (ss ++ [a.data.toList, b.data.toList]) v' w3 := by
  have hlow : ∀ k, v.ownBlock = some k → r + 1 ≤ k := fun k hk => (C.own.lt k hk).1
  have hrl : r < w2.heap.size := hrg2.lt
  have hpair : ∀ i kl', keyOf Try.prog 33 (Pr (S (i * 2)) (S (i * 2 + 1))) = some kl' → kl' = kl → a = S (i * 2) ∧ b = S (i * 2 + 1) := by
    intro i kl' h e
    subst e
    have := law.inj hkey h
    simpa using this
  refine ⟨?_, ?_, ?_, ?_, ?_, ?_, ?_, ?_⟩
  · exact ((hrg2.alloc o1).alloc o2).kept hgrow (fun e => by have := hlow B e.symm; omega) (fun e => by have := hlow r e.symm; omega)
  · have : (ss ++ [a.data.toList, b.data.toList]).map encStr = ss.map encStr ++ [.string a, .string b] := by simp [encStr_data]
    rw [this]
    simpa using hown'
  · have h1 := C.below.grown hg2 C.below.size (fun k hk => by cases hk; exact hr)
    have h2 := (h1.alloc h1.size o1)
    have h3 := (h2.alloc h2.size o2)
    exact h3.grown hgrow h3.size (fun k hk => by have := hlow k hk; omega)
  · intro x hx
    rcases List.mem_append.1 hx with hx | hx
    · exact C.sub x hx
    · obtain ⟨i, hi, hk⟩ := (hD.2 kl).1 (C.lft kl hlk)
      obtain ⟨e1, e2⟩ := hpair i kl hk rfl
      simp at hx
      rcases hx with rfl | rfl
      · exact ⟨i * 2, by omega, by rw [e1]⟩
      · exact ⟨i * 2 + 1, by omega, by rw [e2]⟩
  · intro i kl' hi hk hl
    cases hlk' : left kl' with
    | false =>
      obtain ⟨h1, h2⟩ := C.sup i kl' hi hk hlk'
      exact ⟨List.mem_append.2 (.inl h1), List.mem_append.2 (.inl h2)⟩
    | true =>
      have hs : kl'.sameKey kl = true := by
        have hl' : (left kl' && !kl'.sameKey kl) = false := hl
        rw [hlk'] at hl'
        simpa using hl'
      obtain ⟨e1, e2⟩ := hpair i kl' hk (WideAt.sameKey_eq hs)
      subst e1 e2
      simp
  · intro kl' h
    have h' : (left kl' && !kl'.sameKey kl) = true := h
    exact C.lft kl' (Bool.and_eq_true_iff.1 h').1
  · have := C.len; simp; omega
  · intro h; simp at h

theorem size_le {w : World} {B n : Nat} {D : DataW Unit} (h : w.ownsMap Try.prog 33 unitElem B n D) : Maps.size D ≤ n := by
  obtain ⟨es, clock, hb, F, hs, rfl⟩ := h
  rw [size_eq, length_sorted]
  simpa using hs

theorem two_new (w2 : World) (a b : ByteArray) : ∀ j u, ([.string a, .string b] : List Value)[j]? = some u → ((w2.alloc (.cells #[.string a, .string b] 33)).alloc (.cells #[.string a, .string b] 9)).cell? ((⟨w2.heap.size + 1, 0, none⟩ : Addr).add j) = some u := by
  intro j u hj
  have hr : ((w2.alloc (.cells #[.string a, .string b] 33)).alloc (.cells #[.string a, .string b] 9)).rowIs (w2.heap.size + 1) 9 2 (fun i => ([.string a, .string b] : List Value)[i]!) := by
    have h0 := World.rowIs_alloc (w2.alloc (.cells #[.string a, .string b] 33)) #[.string a, .string b] 9 (fun i => ([.string a, .string b] : List Value)[i]!) (fun i hi => by
      match i, hi with
      | 0, _ => rfl
      | 1, _ => rfl)
    simpa using h0
  match j, hj with
  | 0, hj => simp at hj; subst hj; exact hr.cell (i := 0) (by omega)
  | 1, hj => simp at hj; subst hj; exact hr.cell (i := 1) (by omega)

/-- What operations leaves. -/
def LeftOps (w : World) (n : Nat) (S : Nat → ByteArray) (e : Ending) (w' : World) : Prop :=
  ∃ ss : List (List UInt8), ss.length ≤ 2 * n ∧ (∀ x ∈ ss, ∃ j, j < n * 2 ∧ x = (S j).data.toList) ∧ (∀ j, j < n * 2 → (S j).data.toList ∈ ss) ∧ Below w.heap.size w w' ∧
    ((ss = [] ∧ e = .returned (.slice none 0 0)) ∨ ∃ g cap, ss ≠ [] ∧ e = .returned (.slice (some ⟨g, 0, none⟩) (Plain.names ss).length cap) ∧ w.heap.size ≤ g ∧
      w'.ownsRow w.heap.size 9 1 (.slice (some ⟨g, 0, none⟩) (Plain.names ss).length cap) (Plain.names ss).length ((Plain.names ss).map encStr))

theorem ownsRow_lower {w : World} {b b' : Nat} {e : TypeId} {v : Value} {n : Nat} {xs : List Value} (h : w.ownsRow b e 1 v n xs) (hb : b' ≤ b) : w.ownsRow b' e 1 v n xs := by
  refine ⟨h.1, ?_⟩
  rcases h.2 with h | ⟨g, cap, cur, h1, h2, r⟩
  · exact .inl h
  · exact .inr ⟨g, cap, cur, h1, by omega, r⟩

/-- THE END, outside the walk (after the guide's worked 'Uniq'): from what the two contracts leave. -/
theorem end_own {w wr : World} {g cap : Nat} {ss : List (List UInt8)} (hown : wr.ownsRow (w.heap.size + 1 + 1) 9 1 (.slice (some ⟨g, 0, none⟩) ss.length cap) ss.length (ss.map encStr)) (hbg : w.heap.size + 1 + 1 ≤ g) (hbel : Below w.heap.size w wr) (nn q : Nat) (os : Array Obj) :
    let w3 := putRow encStr (Sort.ahead (grow (putRow encStr (Sort.ahead wr nn) g 0 (ss.mergeSort fun x y => decide (x ≤ y)).toArray) os) q) g 0 (Lib.compact (ss.mergeSort fun x y => decide (x ≤ y)) ++ List.replicate (ss.length - (Lib.compact (ss.mergeSort fun x y => decide (x ≤ y))).length) []).toArray
    Below w.heap.size w w3 ∧ w.heap.size ≤ g ∧ w3.ownsRow w.heap.size 9 1 (.slice (some ⟨g, 0, none⟩) (Plain.names ss).length cap) (Plain.names ss).length ((Plain.names ss).map encStr) := by
  have hl2 : (ss.mergeSort fun x y => decide (x ≤ y)).length = ss.length := List.length_mergeSort ss
  have hle := Lib.compact_length_le (ss.mergeSort fun x y => decide (x ≤ y))
  rcases hown.2 with ⟨h0, _⟩ | ⟨g', cap', cur, hv, hbase, hb, h1, h2, h3, h4⟩
  · cases h0
  cases hv
  have hs := ownsRow_sorted (n := nn) (os := os) (ts := ss.mergeSort fun x y => decide (x ≤ y)) hl2 hbase hb h1 h2 h3
  have hc := Lib.ownsRow_putRow (q := q) (k := (Lib.compact (ss.mergeSort fun x y => decide (x ≤ y))).length) (ys := Lib.compact (ss.mergeSort fun x y => decide (x ≤ y)) ++ List.replicate (ss.length - (Lib.compact (ss.mergeSort fun x y => decide (x ≤ y))).length) []) hs (by simp; omega) (by omega)
  rw [List.take_left] at hc
  exact ⟨Lib.below_putRow (hbel.grown (grownBy_sorted _) hbel.size (fun j hj => by cases hj; omega)) (by omega), by omega, ownsRow_lower hc (by omega)⟩

set_option maxHeartbeats 1000000 in
theorem ops_any (B n : Nat) (D : DataW Unit) (S : Nat → ByteArray) (w : World) (hn : n ≤ 4096) (hown : w.ownsMap Try.prog 33 unitElem B n D) (hD : HasPairs D S n) (hK : ∀ i, i < n → ∃ kl, keyOf Try.prog 33 (Pr (S (i * 2)) (S (i * 2 + 1))) = some kl) :
    Calls Try.prog 7 #[.agg #[.map (some B)]] w (LeftOps w n S) := by
  have hBl := hown.lt
  obtain ⟨i0, hi, hz0, hz1, hz2⟩ := info_parts Try.info9
  have hown1 := hown.alloc (.cells #[.map (some B)] 31)
  go_enter Try.func7, Try.ntmps7
  go_wp2_with (at_range; refine wpList_range_own _ rfl _ 29 rfl 33 32 law Try.underlying29 unitElem B n D rfl hown1 ?_; intro w0 hrg0 hg0 hs0; go_frame)
  simp only [World.size_alloc] at hrg0 hs0 ⊢
  go_loopw [3] (fun v wr => ∃ left cnt ss, Col w B (w.heap.size + 1) n D S left cnt ss v wr) (fun _ wr => wr.rangeLeft B (w.heap.size + 1))
  case atStart =>
    refine ⟨_, _, [], hrg0, World.ownsRow_nil _ _ _ _, ((Below.refl _ _).alloc (Nat.le_refl _) _).grown hg0 (by simp) (by simp), by simp, fun i kl hi hk hl => ?_, fun _ h => h, ?_, fun _ => rfl⟩
    · rw [(hD.2 kl).2 ⟨i, hi, hk⟩] at hl; cases hl
    · have := size_le hown; simp; omega
  case round =>
    clear hrg0 hg0 hs0 hown hown1
    obtain ⟨left, cnt, ss, C⟩ := hrel
    have hrg := C.rg
    go_wp2_with (at_next; refine wpList_next_ranges _ rfl _ rfl 33 law unitElem mkP mkU invP invU B (w.heap.size + 1) n D left cnt (by simp [Act.eval]) hrg ?_ ?_)
    · intro _ hl0
      have hall : ∀ j, j < n * 2 → (S j).data.toList ∈ ss := by
        intro j hj
        obtain ⟨kl, hkl⟩ := hK (j / 2) (by omega)
        obtain ⟨m0, m1⟩ := C.sup (j / 2) kl (by omega) hkl (hl0 kl)
        rcases (by omega : j = j / 2 * 2 ∨ j = j / 2 * 2 + 1) with e | e
        · rw [e]; exact m0
        · rw [e]; exact m1
      have hlen := C.len
      have hsub := C.sub
      have hbel := C.below
      have hCown := C.own
      have hCnil := C.nil
      clear C hrg hl0 hK hD
      by_cases hnil : u3 = .slice none 0 0
      · have hss : ss = [] := by
          rcases hCown.2 with ⟨_, h0⟩ | ⟨g, cap, cur, h0, _⟩
          · exact List.eq_nil_of_length_eq_zero h0
          · rw [hnil] at h0; cases h0
        subst hnil hss
        have hsort : Calls Try.prog 8 #[.slice none 0 0] wr fun e w' => e = .returned (.tuple #[]) ∧ w' = wr := calls_of_every_depth fun D => AnyS.slices_Sort_string_none_alone Try.lays190 D none 0 wr
        have hcomp : Calls Try.prog 9 #[.slice none 0 0] wr fun e w' => e = .returned (.slice none 0 0) ∧ w' = wr := Any.slices_Compact_string_empty Try.lays194 none 0 wr
        go_wp2_with fail
        refine hsort.mono ?_
        rintro e w' ⟨rfl, hw⟩
        subst hw
        go_wp2_with fail
        refine hcomp.mono ?_
        rintro e w'' ⟨rfl, hw⟩
        subst hw
        go_wp2_with fail
        go_ret
        exact ⟨[], by simp, by simp, hall, hbel, .inl ⟨rfl, rfl⟩⟩
      · obtain ⟨g, cap, hu, hbg, hgl, hncap, hcm, hlen2, hH⟩ := Lib.holds_of_ownsRow hCown hnil
        have hne : Hid (ss ≠ []) := fun h => hnil (hCnil h)
        clear hnil hCnil
        subst hu
        have hsort : Calls Try.prog 8 #[.slice (some ⟨g, 0, none⟩) ss.length cap] wr _ := Any.slices_Sort_string Try.lays190 g 0 cap ss wr hH hgl (by omega)
        go_wp2_with fail
        refine hsort.mono ?_
        rintro e w' ⟨rfl, nn, os, rfl⟩
        clear hsort
        have hl2 : (ss.mergeSort fun x y => decide (x ≤ y)).length = ss.length := List.length_mergeSort ss
        have hH2 : Holds encStr (grow (putRow encStr (Sort.ahead wr nn) g 0 (ss.mergeSort fun x y => decide (x ≤ y)).toArray) os) g 0 (ss.mergeSort fun x y => decide (x ≤ y)).toArray :=
          holds_grow encStr _ os g 0 _ (by simpa [putRow, mapBlock, Sort.ahead] using hgl) (holds_putRow encStr _ g 0 _ _ (holds_ahead encStr wr nn g 0 _ hH) (by simp))
        have hcomp : Calls Try.prog 9 #[.slice (some ⟨g, 0, none⟩) (ss.mergeSort fun x y => decide (x ≤ y)).length cap] _ _ := Any.slices_Compact_string Try.lays194 g 0 cap (ss.mergeSort fun x y => decide (x ≤ y)) _ hH2 (by omega) (by omega)
        rw [hl2] at hcomp
        have X : Hid (wr.ownsRow (w.heap.size + 1 + 1) 9 1 (.slice (some ⟨g, 0, none⟩) ss.length cap) ss.length (ss.map encStr) ∧ w.heap.size + 1 + 1 ≤ g) := ⟨hCown, hbg⟩
        clear hH2 hl2 hH hCown
        go_wp2_with fail
        refine hcomp.mono ?_
        rintro e w'' ⟨rfl, q, rfl⟩
        clear hcomp
        go_wp2_with fail
        go_ret
        obtain ⟨x1, x2, x3⟩ := end_own X.out.1 X.out.2 hbel nn q os
        exact ⟨ss, by omega, hsub, hall, x1, .inr ⟨g, cap, hne.out, rfl, x2, x3⟩⟩
    · intro a b c kl yd yp w2 cnt2 hkey hlk hv hat hrg2 hlt hg2 hs2 hen
      have hkey' : keyOf Try.prog 33 (Pr a b) = some kl := hkey
      have hen' : Sem.run Try.prog (Instr.entry (Value.pointer (some { block := w.heap.size + 1, off := 0 }))) w2 = Result.ok (Value.tuple #[Pr a b, .agg #[]]) w2 := hen
      have hl := C.len
      have hsz := hrg2.lt
      have hown2 : ((w2.alloc (.cells #[.string a, .string b] 33)).alloc (.cells #[.string a, .string b] 9)).ownsRow (w.heap.size + 1 + 1) 9 1 u3 ss.length (ss.map encStr) :=
        ((C.own.kept hg2 (.inr (fun e => by have := (C.own.lt _ e).1; omega))).alloc _).alloc _
      have HK : Hid (keyOf Try.prog 33 (Pr a b) = some kl) := hkey'
      clear hkey hkey' hen hv hat hs2 hrg
      go_wp2_with (at_builtin; refine wpList_append_own _ rfl _ _ 25 rfl (w.heap.size + 1 + 1) 9 i0 (.string ByteArray.empty) 1 16 Try.underlying25 hi hz0 hz1 hz2 rfl (by decide) _ _ _ rfl hown2 ⟨w2.heap.size + 1, 0, none⟩ 2 2 [.string a, .string b] rfl rfl ?c1 ?c2 ?c3 ?c4 ?c5 ?_)
      case c1 => exact two_new _ _ _
      case c2 => intro u hu; simp at hu; rcases hu with rfl | rfl <;> rfl
      case c3 => unfold maxLen; omega
      case c4 => omega
      case c5 => simp; omega
      intro v' w3 hown' hgrow _
      have C' := C.step (by omega) (by omega) hD HK.out hlk hrg2 hlt hg2 hown' hgrow
      clear hown' hgrow hg2 hown2
      go_wp2_with fail
      go_roundw
      case rel => exact ⟨_, _, _, C'⟩
      case measure => rw [C'.rg.left_eq, C.rg.left_eq]; omega

theorem LeftOps.from_ {w wr : World} {n : Nat} {S : Nat → ByteArray} {e : Ending} {w' : World} (h : LeftOps wr n S e w') (hb : Below w.heap.size w wr) : LeftOps w n S e w' := by
  obtain ⟨ss, h1, h2, h3, h4, h5⟩ := h
  refine ⟨ss, h1, h2, h3, hb.trans (h4.mono hb.size), ?_⟩
  rcases h5 with h5 | ⟨g, cap, r0, r1, r2, r3⟩
  · exact .inl h5
  · exact .inr ⟨g, cap, r0, r1, Nat.le_trans hb.size r2, ownsRow_lower r3 hb.size⟩

set_option maxHeartbeats 1000000 in
theorem zzops_any (a : Option Addr) (pb n c : Nat) (S : Nat → ByteArray) (w : World) (hn : n ≤ 4096) (ha : 0 < n → a = some ⟨pb, 0, none⟩) (hc : ∀ j, j < n * 2 → w.cell? ⟨pb, j, none⟩ = some (.string (S j))) (hS : ∀ j, j < n * 2 → (S j).size ≤ maxLen) :
    Calls Try.prog 5 #[.slice a n c] w (LeftOps w n S) := by
  have hmk := mk29 n
  go_enter Try.func5, Try.ntmps5
  go_wp2_with fail
  go_loopw [4] (fun i wr => ∃ k : Nat, k ≤ n ∧ i = .int .i64 k ∧ Tab w w.heap.size n k S wr) (fun i _ => n - (intOf i).toNat)
  case atStart =>
    refine ⟨0, Nat.zero_le _, rfl, ⟨.map [], (World.ownsMap_made _ _ _ _).alloc _, hasPairs_start S⟩, ?_, ((Below.refl _ _).alloc (Nat.le_refl _) _).alloc (by simp) _, by simp⟩
    simp [go_sem]
  case round =>
    obtain ⟨k, hk, rfl, tb⟩ := hrel
    by_cases hlt : k < n
    · obtain rfl := ha (by omega)
      clear ha
      obtain ⟨D, hown, hD⟩ := tb.owns
      have hcell := tb.cell
      have g0 := cell_later (w := w) (wx := wr) (by exact tb.below) (hc (k * 2) (by omega))
      have g1 := cell_later (w := w) (wx := wr) (by exact tb.below) (hc (k * 2 + 1) (by omega))
      obtain ⟨kl, hkl⟩ := key_mk (S (k * 2)) (S (k * 2 + 1)) (hS _ (by omega)) (hS _ (by omega))
      obtain ⟨w1, hrun, hown1, hg1⟩ := hown.drew.update law Try.underlying29 (by unfold maxLen; omega) hkl unitElem_mk
      have HK : Hid (keyOf Try.prog 33 (Pr (S (k * 2)) (S (k * 2 + 1))) = some kl) := hkl
      clear hkl hc
      go_wp2_with fail
      go_region
      have tb' : Tab w w.heap.size n (k + 1) S w1 := by
        refine ⟨⟨_, hown1, hasPairs_step hD HK.out _⟩, ?_, tb.below.drew.grown hg1 tb.below.size (fun j hj => by cases hj; exact Nat.le_refl _), Nat.lt_of_lt_of_le tb.size hg1.size⟩
        exact hg1.cell (a := ⟨w.heap.size + 1, 0, none⟩) tb.cell (by simp)
      clear hrun hown1 hg1 hown hD tb g0 g1 hcell
      go_wp2_with fail
      go_roundw
      case rel => exact ⟨k + 1, by omega, by go_num, tb'⟩
      case measure => simp [intOf]; omega
    · have ek : k = n := by omega
      obtain ⟨D, hown, hD⟩ := tb.owns
      have hcell := tb.cell
      have hbel := tb.below
      rw [ek] at hown hD
      have hcall := ops_any w.heap.size n D S wr hn hown hD (fun i hi => key_mk _ _ (hS _ (by omega)) (hS _ (by omega)))
      clear hown hD ek tb
      go_wp2_with fail
      refine hcall.mono ?_
      intro e w' hl
      have hl' := hl.from_ hbel
      obtain ⟨ss, h1, h2, h3, h4, h5⟩ := hl'
      rcases h5 with ⟨hs, rfl⟩ | ⟨g, cap, r0, rfl, r2, r3⟩
      · clear hcall hl
        go_wp2_with fail
        go_ret
        exact ⟨ss, h1, h2, h3, h4, .inl ⟨hs, rfl⟩⟩
      · clear hcall hl
        go_wp2_with fail
        go_ret
        exact ⟨ss, h1, h2, h3, h4, .inr ⟨g, cap, r0, rfl, r2, r3⟩⟩
end Go.Proofs.Qxb6617543a
