import Derived.Test.Qxb6000555aMore
import Derived.Test.Qxb6000555aYears
import Derived.Deep.RegionLaw
import Derived.BigRegion
import Derived.Deep.DeepCutAuto
namespace Go.Proofs.Qxb6000555a
open Go.RowKit Go.Maps

variable {w : World} {N : Nat} {names : List ByteArray} {es : List (ByteArray × Int)}

/-- append onto a row of the call's own, as one step of a region that draws -/
theorem step_append_own {P : Program} {ops : Array Oper} {o : Oper} {a : Act} {w : World} {K : Act → World → Prop} {Q : Exit → Act → World → Prop} {E : Prop}
    (hg : o.guard = none) (s x : Operand) (t : TypeId) (hop : o.op = Op.call { callee := Callee.builtin Builtin.append, args := #[s, x], argTypes := #[t, t] })
    (base : Nat) (e : TypeId) (i : TypeInfo) (z : Value) (size bytes : Nat) (h1 : P.underlying t = some (.slice e)) (h2 : P.info? e = some i) (h3 : i.zero = some z) (h4 : i.size = size) (h5 : i.bytes = bytes) (h6 : z.cells.size = size) (h7 : 0 < size)
    (v : Value) (n : Nat) (xs : List Value) (hs : a.eval s = v) (hown : w.ownsRow base e size v n xs)
    (ad : Addr) (m c : Nat) (news : List Value) (hx : a.eval x = .slice (some ad) m c) (hn : news.length = m * size) (hc : ∀ j u, news[j]? = some u → w.cell? (ad.add j) = some u) (h1c : ∀ u ∈ news, u.oneCell' = true)
    (b1 : n + m ≤ maxLen) (b2 : (n + m) * bytes ≤ 140737488355328) (hbase : base ≤ w.heap.size)
    (hK : ∀ v' w', w'.ownsRow base e size v' (n + m) (xs ++ news) → w.grownBy w' v.ownBlock → (v' = .slice none 0 0 ↔ v = .slice none 0 0 ∧ m = 0) → K (a.put o.dst v') w') :
    if Region.wanted o (yielded ops a.tmps) = true then Oper.wp P o a w K Q else E := by
  have hw : Region.wanted o (yielded ops a.tmps) = true := by simp [Region.wanted, hg]
  rw [if_pos hw]
  exact wp_append_own w s x t hop base e i z size bytes h1 h2 h3 h4 h5 h6 h7 v n xs hs hown ad m c news hx hn hc h1c b1 b2 hbase hK

theorem cells_new4 (w : World) (B : Nat) (hB : w.heap.size = B) (x y z u : Value) (t : TypeId) : ∀ (j : Nat) (v : Value), [x, y, z, u][j]? = some v → ((w.alloc (.cells #[x, y, z, u] t)).drew).cell? ((⟨B, 0, none⟩ : Addr).add j) = some v := by
  intro j v hj
  subst hB
  rw [Addr.add_lit, Nat.zero_add]
  match j, hj with
  | 0, hj => simpa using hj
  | 1, hj => simpa using hj
  | 2, hj => simpa using hj
  | 3, hj => simpa using hj

/-- the store in the middle of 'add': the rows stand, the chain's cells are xs, the years' map is not yet turned -/
structure GMid (w : World) (N : Nat) (names : List ByteArray) (es : List (ByteArray × Int)) (xs : List Value) (vc vr : Value) (D1 D2 : DataW Unit) (n2 : Nat) : Prop where
  blk : w.heap[N + 3]? = some (.cells #[.map (some N), vc, vr, .slice none 0 0, .map (some (N + 1)), .map (some (N + 2))] 46 (0, 0))
  chains : w.ownsRow (N + 4) 49 3 vc names.length xs
  rows : w.ownsRow (N + 4) 52 4 vr es.length (rowCells es)
  idx : w.ownsMap Try.prog 9 (plainElem Try.prog 3) N names.length D1
  yrs : w.ownsMap Try.prog 58 (plainElem Try.prog 3) (N + 2) n2 D2
  idxIs : IdxIs D1 names
  nodup : names.Nodup
  small : ∀ nm ∈ names, nm.size ≤ maxLen
  wf : ∀ e ∈ es, (Lit.int .i64 e.2).wf = true

section
variable {vc vr : Value} {D1 D2 : DataW Unit} {n2 : Nat} {xs : List Value}

theorem GMid.toG (h : GMid w N names es (chCells names es) vc vr D1 D2 n2) (hn : n2 ≤ es.length * es.length) (hy : YrsIs D2 es) : IsG w N names es :=
  ⟨vc, vr, D1, D2, h.blk, h.chains, h.rows, h.idx, h.yrs.mono hn, h.idxIs, hy, h.nodup, h.small, h.wf⟩

theorem GMid.lt (h : GMid w N names es xs vc vr D1 D2 n2) : N + 3 < w.heap.size := lt_of_block h.blk
theorem GMid.c1 (h : GMid w N names es xs vc vr D1 D2 n2) : w.cell? ⟨N + 3, 1, none⟩ = some vc := by simp [World.cell?, h.blk]
theorem GMid.c2 (h : GMid w N names es xs vc vr D1 D2 n2) : w.cell? ⟨N + 3, 2, none⟩ = some vr := by simp [World.cell?, h.blk]
theorem GMid.c5 (h : GMid w N names es xs vc vr D1 D2 n2) : w.cell? ⟨N + 3, 5, none⟩ = some (.map (some (N + 2))) := by simp [World.cell?, h.blk]
theorem GMid.row (h : GMid w N names es xs vc vr D1 D2 n2) {i : Nat} {who : ByteArray} {y : Int} (hi : es[i]? = some (who, y)) :
    ∃ g cap, vr = .slice (some ⟨g, 0, none⟩) es.length cap ∧ w.cell? ⟨g, i * 4, none⟩ = some (.int .i64 y) ∧ w.cell? ⟨g, i * 4 + 2, none⟩ = some (.int .i64 i) ∧ w.cell? ⟨g, i * 4 + 3, none⟩ = some (.int .i64 (lastOf who (es.take i))) := by
  have hlt : i < es.length := (List.getElem?_eq_some_iff.1 hi).1
  obtain ⟨g, cap, hv⟩ := own_shape h.rows (by omega)
  have hown := h.rows
  rw [hv] at hown
  obtain ⟨a0, a1, a2⟩ := rowCells_at es i who y hi
  exact ⟨g, cap, hv, by rw [hown.cellAt _ (by omega), a0], by rw [hown.cellAt _ (by omega), a1], by rw [hown.cellAt _ (by omega), a2]⟩

/-- behind the append and the store of the rows -/
theorem rows_pushed {who : ByteArray} {y : Int} {w2 : World} {v' : Value} {cs1 : Array Value} {O2 : Obj} (hy : (Lit.int .i64 y).wf = true) (h : GAt w N names es vc vr D1 D2) (hgrow : (((w.alloc (.cells cs1 52)).alloc O2).drew).grownBy w2 vr.ownBlock)
    (hown2 : w2.ownsRow (N + 4) 52 4 v' (es.length + 1) (rowCells es ++ [.int .i64 y, .int .i64 0, .int .i64 es.length, .int .i64 (lastOf who es)])) :
    w2.cell? ⟨N + 3, 2, none⟩ = some vr ∧ w2.frozen? ⟨N + 3, 2, none⟩ = false ∧ GMid (w2.setCell ⟨N + 3, 2, none⟩ v') N names (es ++ [(who, y)]) (chCells names es) vc v' D1 D2 (es.length * es.length) ∧ Keep N w (w2.setCell ⟨N + 3, 2, none⟩ v') ∧
      (w2.setCell ⟨N + 3, 2, none⟩ v').heap[w.heap.size]? = some (.cells cs1 52 (0, 0)) := by
  have hlt := h.lt
  have g1 : w.grownBy ((w.alloc (.cells cs1 52)).alloc O2).drew none :=
    ⟨rfl, rfl, rfl, by simp; omega, fun k hk _ => by
      show ((w.alloc (.cells cs1 52)).alloc O2).heap[k]? = _
      rw [Below.heap_alloc _ _ k (by simp; omega), Below.heap_alloc _ _ k hk]⟩
  have hs2 : w.heap.size + 2 ≤ w2.heap.size := by have := hgrow.size; simpa using this
  have hne3 : some (N + 3) ≠ vr.ownBlock := fun e => by have := (h.rows.lt _ e.symm).1; omega
  have h1 := h.fresh g1
  have hblk2 : w2.heap[N + 3]? = _ := (hgrow.block (N + 3) h1.lt hne3).trans h1.blk
  have hch2 := h1.chains.kept hgrow (own_ne_own h1.chains h1.rows (by decide))
  have hidx2 := h1.idx.kept hgrow (map_ne_own h1.idx h1.rows)
  have hyrs2 := h1.yrs.kept hgrow (map_ne_own h1.yrs h1.rows)
  have g3 := grownBy_setCell w2 ⟨N + 3, 2, none⟩ v'
  have own3 : ∀ {e : TypeId} {size n : Nat} {v : Value} {xs : List Value}, w2.ownsRow (N + 4) e size v n xs → v.ownBlock = none ∨ v.ownBlock ≠ some (N + 3) := by
    intro e size n v xs hq
    right; intro e
    have := (hq.lt _ e).1; omega
  refine ⟨by simp [World.cell?, hblk2], by simp [World.frozen?, hblk2], ⟨?_, hch2.kept g3 (own3 hch2), ?_, hidx2.kept g3 (by simp), hyrs2.kept g3 (by simp), h.idxIs, h.nodup, h.small, ?_⟩, ?_, ?_⟩
  · rw [heap_setCell_same w2 (N + 3) 2 _ 46 v' hblk2]
    simp
  · have hk := hown2.kept g3 (own3 hown2)
    rw [rowCells_snoc]
    simpa [rowCell] using hk
  · intro e he
    rcases List.mem_append.1 he with h5 | h5
    · exact h.wf e h5
    · simp at h5; subst h5; exact hy
  · refine Keep.grown (Keep.grown (Keep.grown (Keep.refl N w) g1 (by omega) (by simp)) hgrow (by simp; omega) ?_) g3 (by omega) ?_
    · intro k hk
      refine ⟨by have := (h1.rows.lt k hk).1; omega, fun cs hq => ?_⟩
      obtain ⟨cur, hc⟩ := own_type h1.rows hk
      rw [hc] at hq; simp at hq
    · rintro k ⟨⟩
      refine ⟨by show N ≤ N + 3; omega, fun cs hq => ?_⟩
      rw [hblk2] at hq; simp at hq
  · rw [g3.block w.heap.size (by omega) (by simp; omega), hgrow.block w.heap.size (by simp; omega) (fun e => by have := (h.rows.lt _ e.symm).2; omega)]
    show ((w.alloc (.cells cs1 52)).alloc O2).heap[w.heap.size]? = _
    rw [Below.heap_alloc _ _ _ (by simp)]
    exact heap_alloc_new w _

/-- behind the two stores into the chain -/
theorem chain_turned {who : ByteArray} {y : Int} {gc cap ci : Nat} {w0 : World} (h : GMid w N names (es ++ [(who, y)]) (chCells names es) (.slice (some ⟨gc, 0, none⟩) names.length cap) vr D1 D2 n2) (hci : names[ci]? = some who) (hk : Keep N w0 w) :
    GMid ((w.setCell ⟨gc, ci * 3 + 1, none⟩ (.int .i64 es.length)).setCell ⟨gc, ci * 3 + 2, none⟩ (.int .i64 (cnt who es + 1 : Nat))) N names (es ++ [(who, y)]) (chCells names (es ++ [(who, y)])) (.slice (some ⟨gc, 0, none⟩) names.length cap) vr D1 D2 n2 ∧
      Keep N w0 ((w.setCell ⟨gc, ci * 3 + 1, none⟩ (.int .i64 es.length)).setCell ⟨gc, ci * 3 + 2, none⟩ (.int .i64 (cnt who es + 1 : Nat))) ∧
      ∀ (b : Nat) (cs : Array Value), w.heap[b]? = some (.cells cs 52 (0, 0)) → ((w.setCell ⟨gc, ci * 3 + 1, none⟩ (.int .i64 es.length)).setCell ⟨gc, ci * 3 + 2, none⟩ (.int .i64 (cnt who es + 1 : Nat))).heap[b]? = some (.cells cs 52 (0, 0)) := by
  obtain ⟨s1, g1⟩ := h.chains.stored (ci * 3 + 1) (.int .i64 es.length)
  obtain ⟨s2, g2⟩ := s1.stored (ci * 3 + 2) (.int .i64 (cnt who es + 1 : Nat))
  rw [← chCells_set names es ci who y h.nodup hci] at s2
  obtain ⟨cur, hcur⟩ := own_type h.chains (k := gc) rfl
  obtain ⟨cur1, hcur1⟩ := own_type s1 (k := gc) rfl
  have hgc : N + 4 ≤ gc := (h.chains.lt gc rfl).1
  have hlt := h.lt
  have hgl := (h.chains.lt gc rfl).2
  have hlt1 := g1.size
  have r1 := h.rows.kept g1 (own_ne_own h.rows h.chains (by decide))
  have r2 := r1.kept g2 (own_ne_own r1 s1 (by decide))
  have i1 := h.idx.kept g1 (by simp; omega)
  have i2 := i1.kept g2 (by simp; omega)
  have y1 := h.yrs.kept g1 (by simp; omega)
  have y2 := y1.kept g2 (by simp; omega)
  refine ⟨⟨?_, s2, r2, i2, y2, h.idxIs, h.nodup, h.small, h.wf⟩, Keep.grown (Keep.grown hk g1 (by omega) ?_) g2 (by omega) ?_, ?_⟩
  · rw [g2.block _ (by omega) (by simp; omega), g1.block _ (by omega) (by simp; omega)]
    exact h.blk
  · rintro k ⟨⟩
    exact ⟨by omega, fun cs hq => by rw [hcur] at hq; simp at hq⟩
  · rintro k ⟨⟩
    exact ⟨by omega, fun cs hq => by rw [hcur1] at hq; simp at hq⟩
  · intro b cs hb
    have hne : b ≠ gc := by rintro rfl; rw [hcur] at hb; simp at hb
    rw [g2.block b (by have := lt_of_block hb; omega) (by simp; exact hne), g1.block b (lt_of_block hb) (by simp; exact hne)]
    exact hb

theorem GMid.put {w1 w0 : World} {D2' : DataW Unit} (h : GMid w N names es xs vc vr D1 D2 n2) (hown : w1.ownsMap Try.prog 58 (plainElem Try.prog 3) (N + 2) (n2 + 1) D2') (hg : w.grownBy w1 (some (N + 2))) (hk : Keep N w0 w) :
    GMid w1 N names es xs vc vr D1 D2' (n2 + 1) ∧ Keep N w0 w1 := by
  have hlt := h.lt
  refine ⟨⟨(hg.block _ hlt (by simp)).trans h.blk, h.chains.kept hg (own_ne_map h.chains h.yrs), h.rows.kept hg (own_ne_map h.rows h.yrs), h.idx.kept hg (by simp), hown, h.idxIs, h.nodup, h.small, h.wf⟩, hk.grown hg (by omega) ?_⟩
  rintro k ⟨⟩
  refine ⟨by omega, fun cs hq => ?_⟩
  obtain ⟨es, clock, hb, _⟩ := h.yrs
  rw [hb] at hq; simp at hq
theorem GMid.drew (h : GMid w N names es xs vc vr D1 D2 n2) : GMid w.drew N names es xs vc vr D1 D2 n2 :=
  ⟨h.blk, h.chains, h.rows, h.idx, h.yrs, h.idxIs, h.nodup, h.small, h.wf⟩
end

set_option maxRecDepth 100000 in
set_option maxHeartbeats 1000000 in
theorem add_any (ci : Nat) (who : ByteArray) (y : Int) (hci : names[ci]? = some who) (hy : (Lit.int .i64 y).wf = true) (hes : es.length ≤ 1000000) (gc cap : Nat) (vr : Value) (D1 D2 : DataW Unit)
    (h : GAt w N names es (.slice (some ⟨gc, 0, none⟩) names.length cap) vr D1 D2) :
    Calls Try.prog 32 #[.pointer (some ⟨N + 3, 0, none⟩), .pointer (some ⟨gc, ci * 3, none⟩), .agg #[.int .i64 y, .int .i64 0, .int .i64 es.length, .int .i64 0]] w fun e w' => e = .returned (.tuple #[]) ∧ IsG w' N names (es ++ [(who, y)]) ∧ Keep N w w' := by
  have hlt := h.lt
  have h1 := h.c1
  have h2 := h.c2
  obtain ⟨g, cap', hv, k0, k1, k2⟩ := h.chain hci
  simp at hv
  obtain ⟨rfl, rfl⟩ := hv
  obtain ⟨ra, rcap, hvr⟩ := own_len h.rows
  subst hvr
  have H : Hid (GAt w N names es (.slice (some ⟨gc, 0, none⟩) names.length cap) (.slice ra es.length rcap) D1 D2) := h
  have HY : Hid (YrsIs D2 es) := h.yrsIs
  have hws := h.small who (List.mem_of_getElem? hci)
  clear h
  have hgc : gc < w.heap.size := World.block_lt_of_cell? w _ k0
  obtain ⟨i, hi, hz0, hz1, hz2⟩ := info_parts info52
  have hrw : Hid (w.ownsRow (N + 4) 52 4 (.slice ra es.length rcap) es.length (rowCells es)) := H.out.rows
  go_enter Try.func32, Try.ntmps32
  go_wp2
  go_cut [] (fun wc => ∃ g' cap', GMid wc N names (es ++ [(who, y)]) (chCells names es) (.slice (some ⟨gc, 0, none⟩) names.length cap) (.slice (some ⟨g', 0, none⟩) (es.length + 1) cap') D1 D2 (es.length * es.length) ∧ Keep N w wc ∧
      wc.heap[w.heap.size]? = some (.cells #[.int .i64 y, .int .i64 0, .int .i64 es.length, .int .i64 (lastOf who es)] 52 (0, 0)))
  case first =>
    go_region_law (refine step_append_own rfl (.tmp 22) (.tmp 24) 44 rfl (N + 4) 52 i _ 4 32 Try.underlying44 hi hz0 hz1 hz2 rfl (by decide) (.slice ra es.length rcap) es.length (rowCells es) (by simp [Act.eval]) ((hrw.out.alloc _).alloc _).drew ⟨w.heap.size + 1, 0, none⟩ 1 1 [.int .i64 y, .int .i64 0, .int .i64 es.length, .int .i64 (lastOf who es)] (by simp [Act.eval]) rfl (cells_new4 _ _ (by simp) _ _ _ _ _) (ints_oneCell .i64 [y, 0, es.length, lastOf who es]) (by unfold maxLen; omega) (by omega) (by simp; omega) ?_; intro v' w2 hown2 hgrow2 _; obtain ⟨g', cap', hv'⟩ := own_shape hown2 (by omega); obtain ⟨q1, q2, q3, q4, q5⟩ := rows_pushed (who := who) hy H.out hgrow2 hown2; rw [hv'] at q3 q4 q5; rw [hv']; have Q3 : Hid (_ ∧ _ ∧ _) := ⟨q3, q4, q5⟩; clear q3 q4 q5 hown2 hgrow2 hv')
    all_goals
      clear hi hz0 hz1 hz2 q1 q2 k0 k1 k2 h1 h2 hrw
      go_wp2_with fail
      go_meet
      case rel => exact ⟨g', cap', Q3.out⟩
  case rest =>
    obtain ⟨g', cap', hM, hK, hbox⟩ := hcut
    clear H k0 k1 k2 h1 h2 hrw hi hz0 hz1 hz2
    have hlen : (es ++ [(who, y)]).length = es.length + 1 := by simp
    obtain ⟨a0, a1, a2⟩ := chCells_at names es ci who hci
    have hlc : ci < names.length := (List.getElem?_eq_some_iff.1 hci).1
    have k1 : wc.cell? ⟨gc, ci * 3 + 1, none⟩ = some (.int .i64 (lastOf who es)) := by rw [hM.chains.cellAt _ (by omega), a1]
    have k2 : wc.cell? ⟨gc, ci * 3 + 2, none⟩ = some (.int .i64 (cnt who es)) := by rw [hM.chains.cellAt _ (by omega), a2]
    have f1 := hM.chains.frozenAt (ci * 3 + 1)
    have f2 := hM.chains.frozenAt (ci * 3 + 2)
    have hcl := cnt_le who es
    have HT := chain_turned hM hci hK
    have HT' : Hid _ := HT
    have HB : Hid (wc.heap[w.heap.size]? = some (.cells #[.int .i64 y, .int .i64 0, .int .i64 es.length, .int .i64 (lastOf who es)] 52 (0, 0))) := hbox
    clear HT hM hK hbox a0 a1 a2 hlen
    go_upto_region 4 with fail
    go_cut [] (fun w4 => GMid w4 N names (es ++ [(who, y)]) (chCells names (es ++ [(who, y)])) (.slice (some ⟨gc, 0, none⟩) names.length cap) (.slice (some ⟨g', 0, none⟩) (es.length + 1) cap') D1 D2 (es.length * es.length) ∧ Keep N w w4 ∧
      w4.heap[w.heap.size]? = some (.cells #[.int .i64 y, .int .i64 0, .int .i64 es.length, .int .i64 (lastOf who es)] 52 (0, 0)))
    case first =>
      go_wp2_with fail
      go_meet
      case rel =>
        obtain ⟨t1, t2, t3⟩ := HT'.out
        exact ⟨t1, t2, t3 _ _ HB.out⟩
    case rest =>
      obtain ⟨hM, hK, hbox⟩ := hcut
      clear k1 k2 f1 f2 HT' HB
      have hlen : (es ++ [(who, y)]).length = es.length + 1 := by simp
      obtain ⟨a0, a1, a2⟩ := chCells_at names (es ++ [(who, y)]) ci who hci
      have k0 : wc.cell? ⟨gc, ci * 3, none⟩ = some (.string who) := by rw [hM.chains.cellAt _ (by omega), a0]
      have k2 : wc.cell? ⟨gc, ci * 3 + 2, none⟩ = some (.int .i64 (cnt who es + 1 : Nat)) := by rw [hM.chains.cellAt _ (by omega), a2, cnt_snoc, if_pos rfl]
      have hsq : es.length * es.length ≤ (es.length + 1) * (es.length + 1) := Nat.mul_le_mul (by omega) (by omega)
      have HM : Hid (GMid wc N names (es ++ [(who, y)]) (chCells names (es ++ [(who, y)])) (.slice (some ⟨gc, 0, none⟩) names.length cap) (.slice (some ⟨g', 0, none⟩) (es.length + 1) cap') D1 D2 (es.length * es.length)) := hM
      have HL : Hid ((es ++ [(who, y)]).length = es.length + 1) := hlen
      clear hM a0 a1 a2 hlen
      by_cases hc : cnt who es < 32
      · go_wp2_with fail
        go_end0
        refine ⟨rfl, HM.out.toG (by rw [HL.out]; exact hsq) (HY.out.small hc), hK⟩
      · by_cases hc2 : cnt who es = 32
        · have hc3 : (32 : Int) ≤ (cnt who es : Int) := by omega
          have hc4 : (cnt who es : Int) ≤ 32 := by omega
          clear hc hc2
          go_wp2_with fail
          go_loopw [7] (fun s7 wr => ∃ (j : Int) (D : DataW Unit) (t : Nat), s7 = .int .i64 j ∧ (j = -1 ∨ ∃ (jn : Nat) (yj : Int), j = jn ∧ (es ++ [(who, y)])[jn]? = some (who, yj)) ∧
              GMid wr N names (es ++ [(who, y)]) (chCells names (es ++ [(who, y)])) (.slice (some ⟨gc, 0, none⟩) names.length cap) (.slice (some ⟨g', 0, none⟩) (es.length + 1) cap') D1 D (es.length * es.length + t) ∧ t + j ≤ es.length ∧ YrsPart D (es ++ [(who, y)]) who j ∧ Keep N w wr) (fun s7 _ => (intOf s7 + 1).toNat)
          case atStart => exact ⟨es.length, D2, 0, rfl, .inr ⟨es.length, y, rfl, by simp⟩, HM.out, by omega, HY.out.part, hK⟩
          case round =>
            clear k0 k2 HM hbox
            obtain ⟨j, D, t, rfl, hj, hM, htj, hP, hKr⟩ := hrel
            rcases hj with rfl | ⟨jn, yj, rfl, hjn⟩
            · go_wp2_with fail
              go_end0
              refine ⟨rfl, hM.toG ?_ (hP.full (by omega)), hKr⟩
              rw [HL.out]
              have : (es.length + 1) * (es.length + 1) = es.length * es.length + 2 * es.length + 1 := by rw [Nat.add_mul, Nat.mul_add]; omega
              omega
            · have hjl : jn < es.length + 1 := by have := (List.getElem?_eq_some_iff.1 hjn).1; rw [HL.out] at this; exact this
              obtain ⟨a0, a1, a2⟩ := chCells_at names (es ++ [(who, y)]) ci who hci
              have k0 : wr.cell? ⟨gc, ci * 3, none⟩ = some (.string who) := by rw [hM.chains.cellAt _ (by omega), a0]
              have k2 := hM.c2
              have k5 := hM.c5
              obtain ⟨gr, capr, hvr, r0, _, r3⟩ := hM.row hjn
              simp at hvr
              obtain ⟨rfl, hcr⟩ := hvr
              obtain ⟨kl, hkl⟩ := key58 who yj hws (hM.wf _ (List.mem_of_getElem? hjn))
              obtain ⟨w1, hrun, hown1, hgrow1⟩ := (hM.drew.yrs).update law58 Try.underlying42 (by unfold maxLen; have : es.length * es.length ≤ 1000000 * 1000000 := Nat.mul_le_mul hes hes; omega) hkl (plainElem_int (H := Unit) Try.underlying3 (a := jn) (WalkArith.wf_i64 (by omega)))
              obtain ⟨hM1, hK1⟩ := hM.drew.put hown1 hgrow1 (Keep.trans hKr ⟨(Below.refl _ _).drew, fun _ _ h => h⟩)
              have m2 := hM1.c2
              obtain ⟨gr1, capr1, hvr1, _, _, s3⟩ := hM1.row hjn
              simp at hvr1
              obtain ⟨hgr1, _⟩ := hvr1
              rw [← hgr1] at s3
              have hlb := lastOf_bounds who ((es ++ [(who, y)]).take jn)
              have HN : Hid _ := hM1
              have HP : Hid _ := hP
              have HK1 : Hid _ := hK1
              have HJ : Hid _ := hjn
              have hkl' : Hid _ := hkl
              have HRW : Hid _ := hM.rows
              clear hjn hP hK1 hM1 hkl
              clear hgr1 a0 a1 a2 hcr hM hown1 hgrow1
              go_wp2_with fail
              go_region
              go_wp2_with fail
              go_roundw
              case rel =>
                refine ⟨lastOf who ((es ++ [(who, y)]).take jn), _, t + 1, rfl, ?_, HN.out, ?_, HP.out.put HJ.out hkl'.out, HK1.out⟩
                · by_cases hneg : lastOf who ((es ++ [(who, y)]).take jn) = -1
                  · exact .inl hneg
                  · right
                    obtain ⟨y', hy'⟩ := lastOf_at who ((es ++ [(who, y)]).take jn) (lastOf who ((es ++ [(who, y)]).take jn)).toNat (by omega)
                    refine ⟨(lastOf who ((es ++ [(who, y)]).take jn)).toNat, y', by omega, ?_⟩
                    rw [List.getElem?_take] at hy'
                    split at hy'
                    · exact hy'
                    · simp at hy'
                · have hl2 : ((es ++ [(who, y)]).take jn).length ≤ jn := List.length_take_le _ _
                  omega
              case measure =>
                have hl2 : ((es ++ [(who, y)]).take jn).length ≤ jn := List.length_take_le _ _
                simp only [intOf]
                omega
        · have hM := HM.out
          have k5 := hM.c5
          have b0 : wc.cell? ⟨w.heap.size, 0, none⟩ = some (.int .i64 y) := by simp [World.cell?, hbox]
          obtain ⟨kl, hkl⟩ := key58 who y hws hy
          obtain ⟨w1, hrun, hown1, hgrow1⟩ := (hM.drew.yrs).update law58 Try.underlying42 (by unfold maxLen; have : es.length * es.length ≤ 1000000 * 1000000 := Nat.mul_le_mul hes hes; omega) hkl (plainElem_int (H := Unit) Try.underlying3 (a := es.length) (WalkArith.wf_i64 (by omega)))
          obtain ⟨hM1, hK1⟩ := hM.drew.put hown1 hgrow1 (Keep.trans hK ⟨(Below.refl _ _).drew, fun _ _ h => h⟩)
          have HF : Hid (IsG w1 N names (es ++ [(who, y)]) ∧ Keep N w w1) := by
            refine ⟨hM1.toG ?_ (HY.out.one (by omega) hkl), hK1⟩
            rw [HL.out]
            have : (es.length + 1) * (es.length + 1) = es.length * es.length + 2 * es.length + 1 := by rw [Nat.add_mul, Nat.mul_add]; omega
            omega
          have hc5 : 32 < cnt who es := by omega
          clear hM1 hK1 hM hown1 hgrow1 hkl hbox hc hc2 HM
          go_wp2_with fail
          go_region
          go_end0
          exact ⟨rfl, HF.out⟩

end Go.Proofs.Qxb6000555a
