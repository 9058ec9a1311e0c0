import Derived.Test.Qxb6000555aState
import Derived.WalkSpells
import Derived.WalkLawsBesides
namespace Go.Proofs.Qxb6000555a
open Go.RowKit Go.Maps

variable {w : World} {N : Nat} {names : List ByteArray} {es : List (ByteArray × Int)}

theorem own_ne_map {base : Nat} {e : TypeId} {size : Nat} {v : Value} {n : Nat} {xs : List Value} {P : Program} {k : TypeId} {R : Value → Option (DataW Unit × List MemPlace)} {b m : Nat} {D : DataW Unit} (h : w.ownsRow base e size v n xs) (hm : w.ownsMap P k R b m D) : v.ownBlock = none ∨ v.ownBlock ≠ some b := by
  right; intro e
  obtain ⟨cur, hc⟩ := own_type h e
  obtain ⟨es, clock, hb, _⟩ := hm
  rw [hc] at hb; simp at hb

theorem cells_new3 (w : World) (x y z : Value) (t : TypeId) : ∀ (j : Nat) (u : Value), [x, y, z][j]? = some u → (w.alloc (.cells #[x, y, z] t)).cell? ((⟨w.heap.size, 0, none⟩ : Addr).add j) = some u := by
  intro j u hj
  rw [Addr.add_lit, Nat.zero_add]
  match j, hj with
  | 0, hj => simpa using hj
  | 1, hj => simpa using hj
  | 2, hj => simpa using hj

set_option maxHeartbeats 400000 in
/-- ZZNewGrades -/
theorem new_any (w : World) :
    Calls Try.prog 10 #[] w fun e w' => e = .returned (.pointer (some ⟨w.heap.size + 3, 0, none⟩)) ∧ IsG w' w.heap.size [] [] ∧ w.grownBy w' none := by
  have hmm := @run_makeMap Try.prog
  go_enter Try.func10, Try.ntmps10
  go_wp2
  go_ret
  refine ⟨rfl, ⟨_, _, _, _, ?_, World.ownsRow_nil _ _ _ _, World.ownsRow_nil _ _ _ _, ?_, ?_, IdxIs.start, YrsIs.start, List.nodup_nil, by simp, by simp⟩, ?_⟩
  · have e := heap_alloc_new (((w.alloc (.map #[] 0)).alloc (.map #[] 0)).alloc (.map #[] 0)) (.cells #[.map (some w.heap.size), .slice none 0 0, .slice none 0 0, .slice none 0 0, .map (some (w.heap.size + 1)), .map (some (w.heap.size + 1 + 1))] 46)
    simpa using e
  · exact (((World.ownsMap_made w _ _ _).alloc _).alloc _).alloc _
  · have e := (World.ownsMap_made ((w.alloc (.map #[] 0)).alloc (.map #[] 0)) Try.prog 58 (plainElem (H := Unit) Try.prog 3)).alloc (.cells #[.map (some w.heap.size), .slice none 0 0, .slice none 0 0, .slice none 0 0, .map (some (w.heap.size + 1)), .map (some (w.heap.size + 1 + 1))] 46)
    simpa using e
  · exact ((((World.grownBy_alloc w _ none).trans (World.grownBy_alloc _ _ none)).trans (World.grownBy_alloc _ _ none)).trans (World.grownBy_alloc _ _ none))

set_option maxHeartbeats 400000 in
theorem count_any (h : IsG w N names es) :
    Calls Try.prog 13 #[.pointer (some ⟨N + 3, 0, none⟩)] w fun e w' => e = .returned (.int .i64 names.length) ∧ w' = w := by
  obtain ⟨vc, vr, D1, D2, h⟩ := h
  have h1 := h.c1
  obtain ⟨a, cap, hv⟩ := own_len h.chains
  rw [hv] at h1
  clear h hv
  go_enter Try.func13, Try.ntmps13
  go_wp2
  go_ret
  exact ⟨rfl, rfl⟩

set_option maxHeartbeats 400000 in
theorem who_any (h : IsG w N names es) (i : Nat) (nm : ByteArray) (hi : names[i]? = some nm) :
    Calls Try.prog 14 #[.pointer (some ⟨N + 3, 0, none⟩), .int .i64 i] w fun e w' => e = .returned (.string nm) ∧ w' = w := by
  obtain ⟨vc, vr, D1, D2, h⟩ := h
  have h1 := h.c1
  obtain ⟨g, cap, hv, k0, k1, k2⟩ := h.chain hi
  have hlt : i < names.length := (List.getElem?_eq_some_iff.1 hi).1
  rw [hv] at h1
  clear h hv hi
  go_enter Try.func14, Try.ntmps14
  go_wp2
  go_ret
  exact ⟨rfl, rfl⟩

set_option maxHeartbeats 400000 in
theorem length_any (h : IsG w N names es) (i : Nat) (nm : ByteArray) (hi : names[i]? = some nm) :
    Calls Try.prog 15 #[.pointer (some ⟨N + 3, 0, none⟩), .int .i64 i] w fun e w' => e = .returned (.int .i64 (cnt nm es)) ∧ w' = w := by
  obtain ⟨vc, vr, D1, D2, h⟩ := h
  have h1 := h.c1
  obtain ⟨g, cap, hv, k0, k1, k2⟩ := h.chain hi
  have hlt : i < names.length := (List.getElem?_eq_some_iff.1 hi).1
  rw [hv] at h1
  clear h hv hi
  go_enter Try.func15, Try.ntmps15
  go_wp2
  go_ret
  exact ⟨rfl, rfl⟩

set_option maxHeartbeats 400000 in
theorem last_any (h : IsG w N names es) (i : Nat) (nm : ByteArray) (hi : names[i]? = some nm) :
    Calls Try.prog 16 #[.pointer (some ⟨N + 3, 0, none⟩), .int .i64 i] w fun e w' => e = .returned (.int .i64 (lastOf nm es)) ∧ w' = w := by
  obtain ⟨vc, vr, D1, D2, h⟩ := h
  have h1 := h.c1
  obtain ⟨g, cap, hv, k0, k1, k2⟩ := h.chain hi
  have hlt : i < names.length := (List.getElem?_eq_some_iff.1 hi).1
  rw [hv] at h1
  clear h hv hi
  go_enter Try.func16, Try.ntmps16
  go_wp2
  go_ret
  exact ⟨rfl, rfl⟩

set_option maxHeartbeats 400000 in
theorem chainIndex_old (h : IsG w N names es) (i : Nat) (who : ByteArray) (hi : names[i]? = some who) :
    Calls Try.prog 29 #[.pointer (some ⟨N + 3, 0, none⟩), .string who] w fun e w' => e = .returned (.int .i64 i) ∧ w' = w := by
  obtain ⟨vc, vr, D1, D2, h⟩ := h
  have h0 := h.c0
  have hmem := List.mem_of_getElem? hi
  have hkey := WideMaps.keyOf_string_mk Try.underlying9 (h.small who hmem)
  have hhas : Maps.has D1 (.string who.data.toList) = true := (h.idxIs.has who).2 hmem
  have HV := h.idxIs.val who i hi
  have hv : Hid (D1.atKey (.string who.data.toList) (.lit (.int .i64 0)) = .lit (.int .i64 i)) := HV
  clear HV
  have hown := h.idx
  clear h hmem hi
  go_enter Try.func29, Try.ntmps29
  go_wp2_with (at_lookup; refine wpList_lookup_own_ok_int _ rfl _ _ 41 rfl 9 3 .i64 law9 Try.underlying41 Try.underlying3 (zero3 _) N names.length D1 rfl hown _ _ rfl hkey ?_; intro c hat _)
  go_ret
  have : (c : Int) = i := by
    have e := hv.out
    rw [hat] at e
    simpa using e
  rw [this]
  exact ⟨rfl, rfl⟩

/-- two rows of different element types do not share a block -/
theorem own_ne_own {base base' : Nat} {e e' : TypeId} {size size' : Nat} {v v' : Value} {n n' : Nat} {xs xs' : List Value} (h : w.ownsRow base e size v n xs) (h' : w.ownsRow base' e' size' v' n' xs') (hne : e ≠ e') : v.ownBlock = none ∨ v.ownBlock ≠ v'.ownBlock := by
  cases hv : v.ownBlock with
  | none => left; rfl
  | some k =>
    right; intro e
    obtain ⟨cur, hc⟩ := own_type h hv
    obtain ⟨cur', hc'⟩ := own_type h' e.symm
    rw [hc] at hc'
    simp at hc'
    exact hne hc'.2

theorem map_ne_own {base : Nat} {e : TypeId} {size : Nat} {v : Value} {n : Nat} {xs : List Value} {P : Program} {k : TypeId} {R : Value → Option (DataW Unit × List MemPlace)} {b m : Nat} {D : DataW Unit} (hm : w.ownsMap P k R b m D) (h : w.ownsRow base e size v n xs) : some b ≠ v.ownBlock := by
  intro e
  obtain ⟨cur, hc⟩ := own_type h e.symm
  obtain ⟨es, clock, hb, _⟩ := hm
  rw [hc] at hb; simp at hb

/-- what a new chain does to the store: the map's entry, the one-chain block, the append -/
theorem chain_pushed {vc vr : Value} {D1 D2 : DataW Unit} {who : ByteArray} {w1 w2 : World} {o : Obj} {v' : Value}
    (h : GAt w N names es vc vr D1 D2) (hn : who ∉ names) (hs : who.size ≤ maxLen) (hc0 : cnt who es = 0) (hl0 : lastOf who es = -1)
    (hown1 : w1.ownsMap Try.prog 9 (plainElem Try.prog 3) N (names.length + 1) (D1.put (.string who.data.toList) (.lit (.int .i64 names.length)))) (hgrow1 : w.grownBy w1 (some N))
    (hown2 : w2.ownsRow (N + 4) 49 3 v' (names.length + 1) (chCells names es ++ [.string who, .int .i64 (-1), .int .i64 0])) (hgrow2 : (w1.alloc o).grownBy w2 vc.ownBlock) :
    w2.cell? ⟨N + 3, 1, none⟩ = some vc ∧ w2.frozen? ⟨N + 3, 1, none⟩ = false ∧ GAt (w2.setCell ⟨N + 3, 1, none⟩ v') N (names ++ [who]) es v' vr (D1.put (.string who.data.toList) (.lit (.int .i64 names.length))) D2 ∧ Keep N w (w2.setCell ⟨N + 3, 1, none⟩ v') := by
  have hlt := h.lt
  have hs1 := hgrow1.size
  have hs2 : w1.heap.size + 1 ≤ w2.heap.size := by have := hgrow2.size; simpa using this
  have ga : w1.grownBy (w1.alloc o) none := World.grownBy_alloc w1 o none
  have hblk1 : (w1.alloc o).heap[N + 3]? = _ := (ga.block (N + 3) (by omega) (by simp)).trans ((hgrow1.block (N + 3) hlt (by simp)).trans h.blk)
  have hne3 : some (N + 3) ≠ vc.ownBlock := fun e => by have := (h.chains.lt _ e.symm).1; omega
  have hblk2 : w2.heap[N + 3]? = _ := (hgrow2.block (N + 3) (by simp; omega) hne3).trans hblk1
  have hch1 := (h.chains.kept hgrow1 (own_ne_map h.chains h.idx)).alloc o
  have hrows1 := (h.rows.kept hgrow1 (own_ne_map h.rows h.idx)).alloc o
  have hyrs1 := (h.yrs.kept hgrow1 (by simp)).alloc o
  have hmap1 := hown1.alloc o
  have hrows2 := hrows1.kept hgrow2 (own_ne_own hrows1 hch1 (by decide))
  have hyrs2 := hyrs1.kept hgrow2 (map_ne_own hyrs1 hch1)
  have hmap2 := hmap1.kept hgrow2 (map_ne_own hmap1 hch1)
  have g3 := grownBy_setCell w2 ⟨N + 3, 1, none⟩ v'
  have own3 : ∀ {e : TypeId} {size n : Nat} {v : Value} {xs : List Value}, w2.ownsRow (N + 4) e size v n xs → v.ownBlock = none ∨ v.ownBlock ≠ some (N + 3) := by
    intro e size n v xs hq
    right; intro e
    have := (hq.lt _ e).1; omega
  refine ⟨by simp [World.cell?, hblk2], by simp [World.frozen?, hblk2], ⟨?_, ?_, hrows2.kept g3 (own3 hrows2), ?_, hyrs2.kept g3 (by simp), h.idxIs.snoc hn, h.yrsIs, ?_, ?_, h.wf⟩, ?_⟩
  · rw [heap_setCell_same w2 (N + 3) 1 _ 46 v' hblk2]
    simp
  · have hk := hown2.kept g3 (own3 hown2)
    have e : chCells names es ++ [.string who, .int .i64 (-1), .int .i64 0] = chCells (names ++ [who]) es := by
      rw [chCells_snoc, chCell, hc0, hl0]; rfl
    rw [e] at hk
    simpa using hk
  · have hk := hmap2.kept g3 (by simp)
    simpa using hk
  · rw [List.nodup_append]
    refine ⟨h.nodup, by simp, ?_⟩
    intro a ha b hb e
    simp at hb
    subst hb
    exact hn (e ▸ ha)
  · intro nm hnm
    rcases List.mem_append.1 hnm with h1 | h1
    · exact h.small nm h1
    · simp at h1; subst h1; exact hs
  · refine Keep.grown (Keep.grown (Keep.alloc (Keep.grown (Keep.refl N w) hgrow1 (by omega) ?_) (by omega) o) hgrow2 (by simp; omega) ?_) g3 (by omega) ?_
    · rintro k ⟨⟩
      refine ⟨Nat.le_refl _, fun cs hq => ?_⟩
      obtain ⟨es, clock, hb, _⟩ := h.idx
      rw [hb] at hq; simp at hq
    · intro k hk
      refine ⟨by have := (h.chains.lt k hk).1; omega, fun cs hq => ?_⟩
      obtain ⟨cur, hc⟩ := own_type hch1 hk
      rw [hc] at hq; simp at hq
    · rintro k ⟨⟩
      refine ⟨by show N ≤ N + 3; omega, fun cs hq => ?_⟩
      rw [hblk2] at hq; simp at hq

set_option maxHeartbeats 400000 in
theorem chainIndex_new (h : IsG w N names es) (who : ByteArray) (hn : who ∉ names) (hs : who.size ≤ maxLen) (hc0 : cnt who es = 0) (hl0 : lastOf who es = -1) (hlen : names.length ≤ 1000000) :
    Calls Try.prog 29 #[.pointer (some ⟨N + 3, 0, none⟩), .string who] w fun e w' => e = .returned (.int .i64 names.length) ∧ IsG w' N (names ++ [who]) es ∧ Keep N w w' := by
  obtain ⟨vc, vr, D1, D2, h⟩ := h
  have h0 := h.c0
  have h1 := h.c1
  obtain ⟨a, cap, hv⟩ := own_len h.chains
  have hkey := WideMaps.keyOf_string_mk Try.underlying9 hs
  have hhas : Maps.has D1 (.string who.data.toList) = false := by
    cases hq : Maps.has D1 (.string who.data.toList)
    · rfl
    · exact absurd ((h.idxIs.has who).1 hq) hn
  have hown := h.idx
  have H : Hid (GAt w N names es vc vr D1 D2) := h
  have HV : Hid (vc = .slice a names.length cap) := hv
  have hlt := h.lt
  rw [hv] at h1
  clear h hv
  obtain ⟨i, hi, hz0, hz1, hz2⟩ := info_parts info49
  go_enter Try.func29, Try.ntmps29
  go_wp2_with (first | (at_lookup; refine wpList_lookup_own_ok_int _ rfl _ _ 41 rfl 9 3 .i64 law9 Try.underlying41 Try.underlying3 (zero3 _) N names.length D1 rfl hown _ _ rfl hkey ?_; intro c hat _) | (at_mapUpdate; refine wpList_mapUpdate_own _ rfl _ _ _ 41 rfl 9 3 law9 Try.underlying41 _ N names.length D1 rfl hown (by unfold maxLen; omega) _ _ _ rfl rfl hkey _ [] (plainElem_int Try.underlying3 (WalkArith.wf_i64 (by omega))) ?_; intro w1 hown1 hgrow1; have q1 := hgrow1.cell h1 (by simp); have c1 := (H.out.chains.kept hgrow1 (own_ne_map H.out.chains hown)); rw [HV.out] at c1) | (at_builtin; refine wpList_append_own _ rfl (.tmp 33) (.tmp 36) 43 rfl (N + 4) 49 i _ 3 32 Try.underlying43 hi hz0 hz1 hz2 rfl (by decide) (.slice a names.length cap) names.length _ rfl (c1.alloc _) ⟨w1.heap.size, 0, none⟩ 1 1 [.string who, .int .i64 (-1), .int .i64 0] rfl rfl ?c1 ?c2 (by unfold maxLen; omega) (by omega) (by have := hgrow1.size; simp; omega) ?_))
  case c1 => exact cells_new3 _ _ _ _ _
  case c2 => intro u hu; simp at hu; rcases hu with rfl | rfl | rfl <;> rfl
  intro v' w2 hown2 hgrow2 _
  obtain ⟨g', cap', hv'⟩ := own_shape hown2 (by omega)
  rw [← HV.out] at hgrow2
  obtain ⟨p1, p2, p3, p4⟩ := chain_pushed H.out hn hs hc0 hl0 hown1 hgrow1 hown2 hgrow2
  rw [HV.out] at p1
  have P3 : Hid (IsG (w2.setCell ⟨N + 3, 1, none⟩ v') N (names ++ [who]) es ∧ Keep N w (w2.setCell ⟨N + 3, 1, none⟩ v')) := ⟨⟨_, _, _, _, p3⟩, p4⟩
  rw [hv'] at P3
  rw [hv']
  clear p3 p4 hgrow2 hown2 hown1 hgrow1 H HV q1 c1 hown h0 h1 hv' hkey hhas hat
  go_wp2
  go_ret
  exact ⟨rfl, P3.out⟩

set_option maxHeartbeats 400000 in
/-- ZZChainIndex -/
theorem index_old (h : IsG w N names es) (i : Nat) (who : ByteArray) (hi : names[i]? = some who) :
    Calls Try.prog 11 #[.pointer (some ⟨N + 3, 0, none⟩), .string who] w fun e w' => e = .returned (.int .i64 i) ∧ w' = w := by
  go_enter Try.func11, Try.ntmps11
  go_wp2_with (go_at_call 29; refine (chainIndex_old h i who hi).mono ?_; rintro e w' ⟨rfl, rfl⟩)
  go_ret
  exact ⟨rfl, rfl⟩

set_option maxHeartbeats 400000 in
theorem index_new (h : IsG w N names es) (who : ByteArray) (hn : who ∉ names) (hs : who.size ≤ maxLen) (hc0 : cnt who es = 0) (hl0 : lastOf who es = -1) (hlen : names.length ≤ 1000000) :
    Calls Try.prog 11 #[.pointer (some ⟨N + 3, 0, none⟩), .string who] w fun e w' => e = .returned (.int .i64 names.length) ∧ IsG w' N (names ++ [who]) es ∧ Keep N w w' := by
  have H1 : Hid (cnt who es = 0) := hc0
  have H2 : Hid (lastOf who es = -1) := hl0
  clear hc0 hl0
  go_enter Try.func11, Try.ntmps11
  go_wp2_with (go_at_call 29; refine (chainIndex_new h who hn hs H1.out H2.out hlen).mono ?_; rintro e w' ⟨rfl, hg, hk⟩)
  go_ret
  exact ⟨rfl, hg, hk⟩

end Go.Proofs.Qxb6000555a
