/-
  THE WALK over zzB1Closure (7): breadth first.
-/
import Derived.Test.Qxb6623461aPat
namespace Go.Proofs.Qxb6623461a
open Go.RowKit Plain

theorem Try.info3 : (Try.prog.info? 3).map (fun i => (i.zero, i.size, i.bytes)) = some (some (.int .i64 0), 1, 8) := by kernel_rfl

abbrev I (x : Nat) : Value := .int .i64 (x : Int)

/-- The state of the search in world wr: the marks at block B, the queue v, nothing below B turned. -/
structure St (w : World) (B L n : Nat) (E : Nat → Nat → Prop) (M : Nat → Bool) (S : Nat → Prop) (W : Nat → Bool) (Q : List Nat) (h : Nat) (v : Value) (wr : World) : Prop where
  row : wr.rowIs B 4 L (fun i => .bool (W i))
  own : wr.ownsRow (B + 1) 3 1 v Q.length (Q.map I)
  below : Below B w wr
  bfs : Bfs E M S n L W Q h

section
variable {w wr w1 : World} {B L n h x : Nat} {E : Nat → Nat → Prop} {M W : Nat → Bool} {S : Nat → Prop} {Q : List Nat} {v v' : Value}

/-- What append's law asks of the queue behind the mark and the new one-cell slice. -/
theorem St.ready (s : St w B L n E M S W Q h v wr) (x : Nat) (o : Obj) : ((wr.setCell ⟨B, x, none⟩ (.bool true)).alloc o).ownsRow (B + 1) 3 1 v Q.length (Q.map I) :=
  (ownsRow_setCell_below s.own (by show B < B + 1; omega) _).alloc _

theorem St.weaker {S' : Nat → Prop} (s : St w B L n E M S W Q h v wr) (hS : ∀ s, S s → S' s) : St w B L n E M S' W Q h v wr := ⟨s.row, s.own, s.below, s.bfs.weaker hS⟩

theorem St.size (s : St w B L n E M S W Q h v wr) : B < wr.heap.size := s.row.lt

/-- x is marked and queued. -/
theorem St.push (s : St w B L n E M S W Q h v wr) (hB : B = w.heap.size) {o : Obj} (hx : W x = false) (hn : x ≤ n) (hL : x < L) (hh : h ≤ Q.length) (hc : ∃ s, S s ∧ Clo E M s x)
    (hown : w1.ownsRow (B + 1) 3 1 v' (Q.length + 1) (Q.map I ++ [I x])) (hg : ((wr.setCell ⟨B, x, none⟩ (.bool true)).alloc o).grownBy w1 v.ownBlock) :
    St w B L n E M S (put W x) (Q ++ [x]) h v' w1 := by
  have hlt := s.size
  have hne : some B ≠ v.ownBlock := fun e => by have := (s.own.lt B e.symm).1; omega
  refine ⟨?_, by simpa using hown, ?_, s.bfs.push hx hn hL hh hc⟩
  · refine ((row_put (s := x) s.row).alloc o).of_block (hg.block B (by simp [World.setCell]; omega) hne)
  · refine ((s.below.setCell (Nat.le_refl _) _).alloc (by rw [size_setCell]; omega) o).grown hg (by simp [World.setCell]; omega) (fun k hk => ?_)
    have := (s.own.lt k hk).1
    omega

theorem St.next (s : St w B L n E M S W Q h v wr) (hx : Q[h]? = some x) (hv : ∀ u, E x u → W u = true) : St w B L n E M S W Q (h + 1) v wr := ⟨s.row, s.own, s.below, s.bfs.next hx hv⟩

/-- The queue's value; the cell at place h. -/
theorem St.shape (s : St w B L n E M S W Q h v wr) : ∃ ao cp, v = .slice ao Q.length cp := by
  rcases s.own.2 with ⟨h1, h2⟩ | ⟨g, cap, cur, h1, _⟩
  · exact ⟨none, 0, by rw [h1, h2]⟩
  · exact ⟨_, cap, h1⟩

theorem St.at_ (s : St w B L n E M S W Q h v wr) (hh : h < Q.length) : ∃ g cp x, v = .slice (some ⟨g, 0, none⟩) Q.length cp ∧ Q[h]? = some x ∧ wr.cell? ⟨g, h, none⟩ = some (I x) := by
  rcases s.own.2 with ⟨h1, h2⟩ | ⟨g, cap, cur, h1, _⟩
  · omega
  · refine ⟨g, cap, Q[h], h1, List.getElem?_eq_getElem hh, ?_⟩
    have := (h1 ▸ s.own).cellAt h (by omega)
    rw [this]
    simp [hh]

/-- 'want[y] = true; queue = append(queue, y)' -/
theorem wpList_push {ops : Array Oper} {rest : List Oper} {o : Oper} {a : Act} {R : Exit → Act → World → Prop} (hgd : o.guard = none) (sx xx : Operand)
    (ho : o.op = .call { callee := .builtin .append, args := #[sx, xx], argTypes := #[23, 23] }) (s : St w B L n E M S W Q h v wr) (hB : B = w.heap.size) (y : Nat) (Y : Int) (hY : Y = (y : Int))
    (hy : W y = false) (hyn : y ≤ n) (hnL : n < L) (hL : L ≤ 65536) (hh : h ≤ Q.length) (hc : ∃ s, S s ∧ Clo E M s y) (hs : a.eval sx = v) (hx : a.eval xx = .slice (some ⟨wr.heap.size, 0, none⟩) 1 1)
    (K : ∀ v' w', St w B L n E M S (put W y) (Q ++ [y]) h v' w' → wpList Try.prog ops R rest (a.put o.dst v') w') :
    wpList Try.prog ops R (o :: rest) a ((wr.setCell ⟨B, y, none⟩ (.bool true)).alloc (.cells #[.int .i64 Y] 3)) := by
  obtain ⟨i0, hi, hz0, hz1, hz2⟩ := info_parts Try.info3
  subst hY
  have hql := s.bfs.len
  have hsz := s.size
  refine wpList_append_own _ hgd sx xx 23 ho (B + 1) 3 i0 (.int .i64 0) 1 8 Try.underlying23 hi hz0 hz1 hz2 rfl (by decide) v Q.length (Q.map I) hs (s.ready y _) ⟨wr.heap.size, 0, none⟩ 1 1 [I y] hx rfl ?_ ?_ ?_ ?_ ?_ ?_
  · have := cell_one_new (wr.setCell ⟨B, y, none⟩ (.bool true)) (I y) 3; rwa [size_setCell] at this
  · intro u hu; simp at hu; subst hu; rfl
  · unfold maxLen; omega
  · omega
  · simp [World.setCell]; omega
  · intro v' w3 hown' hgrow _
    exact K v' w3 (s.push hB hy hyn (by omega) hh hc hown' hgrow)
end

set_option maxRecDepth 100000 in
set_option maxHeartbeats 4000000 in
theorem closure_any (oa ta : Option Addr) (ob tb olb qb n L ns oc tc olc qc : Nat) (hoa : 0 < n → oa = some ⟨ob, 0, none⟩) (hta : 0 < n → ta = some ⟨tb, 0, none⟩) (ops tos : Nat → Int) (M : Nat → Bool) (S : Nat → Nat) (w : World) (hn : n < L) (hL : L ≤ 65536) (hns : ns ≤ 2)
    (hop : ∀ i, i < n → w.cell? ⟨ob, i, none⟩ = some (.int .u8 (ops i))) (hto : ∀ i, i < n → w.cell? ⟨tb, i, none⟩ = some (.int .i64 (tos i)))
    (hold : w.rowIs olb 4 L (fun i => .bool (M i))) (hS : ∀ k, k < ns → w.cell? ⟨qb, k, none⟩ = some (I (S k))) (hSn : ∀ k, k < ns → S k ≤ n)
    (htn : ∀ i, i < n → ops i = 6 → 0 ≤ tos i ∧ tos i ≤ n) :
    Calls Try.prog 7 #[.slice oa n oc, .slice ta n tc, .slice (some ⟨olb, 0, none⟩) L olc, .slice (some ⟨qb, 0, none⟩) ns qc] w fun e w' =>
      e = .returned (.slice (some ⟨w.heap.size, 0, none⟩) L L) ∧ ∃ W, ReachedFrom (Mv ops tos n) M (fun s => ∃ k, k < ns ∧ s = S k) W ∧ w'.rowIs w.heap.size 4 L (fun i => .bool (W i)) ∧ Below w.heap.size w w' := by
  obtain ⟨i0, hi, hz0, hz1, hz2⟩ := info_parts Try.info3
  have c1 := clone_any olb 0 L olc M w hL hold.lt (fun i hi => by rw [Nat.zero_add]; exact hold.cell hi)
  go_enter Try.func7, Try.ntmps7
  go_wp2_with fail
  refine c1.mono ?_
  rintro e w1 ⟨rfl, row1, hb1, hs1⟩
  clear c1
  go_wp2_with (at_make; refine wpList_make_own _ rfl _ _ 23 rfl (w.heap.size + 1) 3 i0 (.int .i64 0) 1 Try.underlying23 hi hz0 hz1 .i64 .i64 _ (n + 1) rfl rfl (by omega) (by rw [hz2]; omega) (by unfold maxLen; omega) (by omega) ?_; intro w2 hown2 hg2)
  have st0 : St w w.heap.size L n (Mv ops tos n) M (fun s => ∃ k, k < 0 ∧ s = S k) M [] 0 (.slice (some ⟨w.heap.size + 1, 0, none⟩) 0 (n + 1)) w2 :=
    ⟨row1.of_block (hg2.block _ (by omega) (by simp)), hs1 ▸ hown2, hb1.grown hg2 hb1.size (by simp), Bfs.start⟩
  clear hown2 hg2 row1 hb1
  go_loopw [11, 12] (fun v i wr => ∃ (k : Nat) (W : Nat → Bool) (Q : List Nat), k ≤ ns ∧ i = .int .i64 k ∧ St w w.heap.size L n (Mv ops tos n) M (fun s => ∃ j, j < k ∧ s = S j) W Q 0 v wr ∧ ∀ j, j < k → W (S j) = true)
    (fun _ i _ => ns - (intOf i).toNat)
  case atStart => exact ⟨0, M, [], Nat.zero_le _, rfl, st0, fun j hj => by omega⟩
  case round =>
    clear st0
    obtain ⟨k, W, Q, hk, rfl, st, hm⟩ := hrel
    by_cases hlt : k < ns
    · have hx := cell_later st.below (hS k hlt)
      have hxn := hSn k hlt
      have hrow := st.row.cell (i := S k) (by omega)
      have hfr := st.row.frozen (S k)
      obtain ⟨x, hxS⟩ : ∃ x, x = S k := ⟨_, rfl⟩
      rw [← hxS] at hx hxn hrow hfr
      have HX : Hid (x = S k) := hxS
      clear hxS
      cases hW : W x with
      | true =>
        rw [hW] at hrow
        go_wp2_with fail
        go_roundw
        case rel =>
          refine ⟨k + 1, W, Q, by omega, by go_num, st.weaker (fun s ⟨j, hj, e⟩ => ⟨j, by omega, e⟩), fun j hj => ?_⟩
          by_cases e : j = k
          · rw [e, ← HX.out]; exact hW
          · exact hm j (by omega)
        case measure => simp [intOf]; omega
      | false =>
        rw [hW] at hrow
        have hrd := st.ready x (.cells #[I x] 3)
        have hql := st.bfs.len
        have hsz := st.size
        go_wp2_with (at_builtin; refine wpList_append_own _ rfl _ _ 23 rfl (w.heap.size + 1) 3 i0 (.int .i64 0) 1 8 Try.underlying23 hi hz0 hz1 hz2 rfl (by decide) _ _ _ rfl hrd ⟨wr.heap.size, 0, none⟩ 1 1 [I x] rfl rfl ?c1 ?c2 ?c3 ?c4 ?c5 ?_)
        case c1 => have := cell_one_new (wr.setCell ⟨w.heap.size, x, none⟩ (.bool true)) (I x) 3; rwa [size_setCell] at this
        case c2 => intro u hu; simp at hu; subst hu; rfl
        case c3 => unfold maxLen; omega
        case c4 => omega
        case c5 => simp [World.setCell]; omega
        intro v' w3 hown' hgrow _
        have st' := (st.weaker (S' := fun s => ∃ j, j < k + 1 ∧ s = S j) (fun s ⟨j, hj, e⟩ => ⟨j, by omega, e⟩)).push rfl hW hxn (by omega) (Nat.zero_le _) ⟨x, ⟨k, by omega, HX.out⟩, Clo.base (st.bfs.newM hW)⟩ hown' hgrow
        clear hown' hgrow hrd hrow hfr hx st
        go_wp2_with fail
        go_roundw
        case rel =>
          refine ⟨k + 1, put W x, Q ++ [x], by omega, by go_num, st', fun j hj => ?_⟩
          by_cases e : j = k
          · rw [e, ← HX.out]; exact put_self
          · exact put_old (hm j (by omega))
        case measure => simp [intOf]; omega
    · have ek : k = ns := by omega
      rw [ek] at st hm
      clear ek
      go_wp2_with fail
      clear hlt hk
      go_loopw [11, 14] (fun v i wr => ∃ (h : Nat) (W : Nat → Bool) (Q : List Nat), h ≤ Q.length ∧ i = .int .i64 h ∧ St w w.heap.size L n (Mv ops tos n) M (fun s => ∃ j, j < ns ∧ s = S j) W Q h v wr ∧ ∀ j, j < ns → W (S j) = true)
        (fun _ i _ => L - (intOf i).toNat)
      case atStart => exact ⟨0, W, Q, Nat.zero_le _, rfl, st, hm⟩
      case round =>
        clear st hm W Q
        obtain ⟨h, W, Q, hh, rfl, st, hm⟩ := hrel
        have hql := st.bfs.len
        by_cases hlt : h < Q.length
        · obtain ⟨g, cp, x, rfl, hQ, hcx⟩ := st.at_ hlt
          have hxn := (st.bfs.from_ x (List.mem_of_getElem? hQ)).1
          have HQ : Hid (Q[h]? = some x) := hQ
          clear hQ
          by_cases hxe : x = n
          · have fin := st.next HQ.out (fun u hu => by have := hu.1; omega)
            have hxe' : ((x : Int) == (n : Int)) = true := by simp [hxe]
            clear hxe st
            go_wp2_with fail
            go_roundw
            case rel => exact ⟨h + 1, W, Q, by omega, by go_num, fin, hm⟩
            case measure => simp [intOf]; omega
          · have hxl : x < n := by omega
            obtain rfl := hoa (by omega)
            obtain rfl := hta (by omega)
            clear hoa hta
            have hxe' : ((x : Int) == (n : Int)) = false := by simp; omega
            clear hxe
            have hox := cell_later st.below (hop x hxl)
            have r1 := st.row.cell (i := x + 1) (by omega)
            have f1 := st.row.frozen (x + 1)
            by_cases ho : ops x = 4
            · have ed : ∀ u, Mv ops tos n x u ↔ u = x + 1 := fun u => by unfold Mv; omega
              have e4 : (ops x == 4) = true := by simp [ho]
              clear ho
              cases hW : W (x + 1) with
              | true =>
                rw [hW] at r1
                have fin := st.next HQ.out (fun u hu => by rw [(ed u).1 hu]; exact hW)
                clear st hW ed
                go_wp2_with fail
                go_roundw
                case rel => exact ⟨h + 1, W, Q, by omega, by go_num, fin, hm⟩
                case measure => simp [intOf]; omega
              | false =>
                rw [hW] at r1
                have hc := st.bfs.onward HQ.out ((ed (x + 1)).2 rfl) hW
                go_wp2_with (at_builtin; refine wpList_push rfl _ _ rfl st rfl (x + 1) _ (by omega) hW (by omega) hn hL hh hc rfl rfl ?_; intro v' w3 st')
                have fin := st'.next (x := x) (by rw [List.getElem?_append_left hlt]; exact HQ.out) (fun u hu => by rw [(ed u).1 hu]; exact put_self)
                go_roundw
                case rel => exact ⟨h + 1, put W (x + 1), Q ++ [x + 1], by simp; omega, by go_num, fin, fun j hj => put_old (hm j hj)⟩
                case measure => simp [intOf]; omega
            by_cases ho : ops x = 5
            · have ed : ∀ u, Mv ops tos n x u ↔ u = x + 1 := fun u => by unfold Mv; omega
              have e4 : (ops x == 4) = false := by simp [ho]
              have e5 : (ops x == 5) = true := by simp [ho]
              clear ho
              cases hW : W (x + 1) with
              | true =>
                rw [hW] at r1
                have fin := st.next HQ.out (fun u hu => by rw [(ed u).1 hu]; exact hW)
                clear st hW ed
                go_wp2_with fail
                go_roundw
                case rel => exact ⟨h + 1, W, Q, by omega, by go_num, fin, hm⟩
                case measure => simp [intOf]; omega
              | false =>
                rw [hW] at r1
                have hc := st.bfs.onward HQ.out ((ed (x + 1)).2 rfl) hW
                go_wp2_with (at_builtin; refine wpList_push rfl _ _ rfl st rfl (x + 1) _ (by omega) hW (by omega) hn hL hh hc rfl rfl ?_; intro v' w3 st')
                have fin := st'.next (x := x) (by rw [List.getElem?_append_left hlt]; exact HQ.out) (fun u hu => by rw [(ed u).1 hu]; exact put_self)
                go_roundw
                case rel => exact ⟨h + 1, put W (x + 1), Q ++ [x + 1], by simp; omega, by go_num, fin, fun j hj => put_old (hm j hj)⟩
                case measure => simp [intOf]; omega
            have e4 : (ops x == 4) = false := by simp; omega
            have e5 : (ops x == 5) = false := by simp; omega
            by_cases h6 : ops x = 6
            · obtain ⟨t0, t1⟩ := htn x hxl h6
              have e6 : (ops x == 6) = true := by simp [h6]
              obtain ⟨t, ht⟩ : ∃ t : Nat, tos x = t := ⟨(tos x).toNat, by omega⟩
              have hct := cell_later st.below (hto x hxl)
              rw [ht] at hct t1
              have ed : ∀ u, Mv ops tos n x u ↔ u = x + 1 ∨ u = t := fun u => by unfold Mv; rw [ht]; simp; omega
              have htn' : t ≤ n := by omega
              clear h6 ht t0 t1 htn
              cases hW : W (x + 1) with
              | true =>
                rw [hW] at r1
                have r2 := st.row.cell (i := t) (by omega)
                have f2 := st.row.frozen t
                cases hW2 : W t with
                | true =>
                  rw [hW2] at r2
                  have fin := st.next HQ.out (fun u hu => by rcases (ed u).1 hu with rfl | rfl; exact hW; exact hW2)
                  clear st hW hW2 ed
                  go_wp2_with fail
                  go_roundw
                  case rel => exact ⟨h + 1, W, Q, by omega, by go_num, fin, hm⟩
                  case measure => simp [intOf]; omega
                | false =>
                  rw [hW2] at r2
                  have hc := st.bfs.onward HQ.out ((ed t).2 (.inr rfl)) hW2
                  go_wp2_with (at_builtin; refine wpList_push rfl _ _ rfl st rfl t _ rfl hW2 htn' hn hL hh hc rfl rfl ?_; intro v' w3 st')
                  have fin := st'.next (x := x) (by rw [List.getElem?_append_left hlt]; exact HQ.out) (fun u hu => by rcases (ed u).1 hu with rfl | rfl; exact put_old hW; exact put_self)
                  go_roundw
                  case rel => exact ⟨h + 1, put W t, Q ++ [t], by simp; omega, by go_num, fin, fun j hj => put_old (hm j hj)⟩
                  case measure => simp [intOf]; omega
              | false =>
                rw [hW] at r1
                have hc := st.bfs.onward HQ.out ((ed (x + 1)).2 (.inl rfl)) hW
                have hxt : ∀ {v' : Value} {w3 : World}, St w w.heap.size L n (Mv ops tos n) M (fun s => ∃ j, j < ns ∧ s = S j) (put W (x + 1)) (Q ++ [x + 1]) h v' w3 → (Q ++ [x + 1])[h]? = some x ∧ h ≤ (Q ++ [x + 1]).length := fun _ =>
                  ⟨by rw [List.getElem?_append_left hlt]; exact HQ.out, by simp; omega⟩
                cases hW2 : put W (x + 1) t with
                | true =>
                  go_wp2_with (at_builtin; refine wpList_push rfl _ _ rfl st rfl (x + 1) _ (by omega) hW (by omega) hn hL hh hc rfl rfl ?_; intro v' w3 st'; have r2 := st'.row.cell (i := t) (by omega); rw [hW2] at r2)
                  have fin := st'.next (hxt st').1 (fun u hu => by rcases (ed u).1 hu with rfl | rfl; exact put_self; exact hW2)
                  go_roundw
                  case rel => exact ⟨h + 1, put W (x + 1), Q ++ [x + 1], by simp; omega, by go_num, fin, fun j hj => put_old (hm j hj)⟩
                  case measure => simp [intOf]; omega
                | false =>
                  go_wp2_with (first | (at_builtin; refine wpList_push rfl _ _ rfl st rfl (x + 1) _ (by omega) hW (by omega) hn hL hh hc rfl rfl ?_; intro v' w3 st'; have r2 := st'.row.cell (i := t) (by omega); have f2 := st'.row.frozen t; rw [hW2] at r2; have hc2 := st'.bfs.onward (hxt st').1 ((ed t).2 (.inr rfl)) hW2) | (at_builtin; refine wpList_push rfl _ _ rfl st' rfl t _ rfl hW2 htn' hn hL (hxt st').2 hc2 rfl rfl ?_; intro v'' w4 st''))
                  have fin := st''.next (x := x) (by rw [List.getElem?_append_left (by simp; omega)]; exact (hxt st').1) (fun u hu => by rcases (ed u).1 hu with rfl | rfl; exact put_old put_self; exact put_self)
                  go_roundw
                  case rel => exact ⟨h + 1, put (put W (x + 1)) t, Q ++ [x + 1] ++ [t], by simp; omega, by go_num, fin, fun j hj => put_old (put_old (hm j hj))⟩
                  case measure => simp [intOf]; omega
            · have e6 : (ops x == 6) = false := by simp [h6]
              have fin := st.next HQ.out (fun u hu => by unfold Mv at hu; omega)
              clear h6 ho st
              go_wp2_with fail
              go_roundw
              case rel => exact ⟨h + 1, W, Q, by omega, by go_num, fin, hm⟩
              case measure => simp [intOf]; omega
        · obtain ⟨ao, cp, rfl⟩ := st.shape
          have fin := st.bfs.end_ (by omega) (fun s ⟨j, hj, e⟩ => e ▸ hm j hj)
          go_wp2_with fail
          go_ret
          exact ⟨rfl, W, fin, st.row, st.below⟩
end Go.Proofs.Qxb6623461a
