import Derived.Test.Qxb6000555aMore
namespace Go.Proofs.Qxb6000555a
open Go.RowKit Go.Maps

theorem length0_any {w : World} {N : Nat} {names : List ByteArray} (h : IsG w N names []) (i : Nat) (nm : ByteArray) (hi : names[i]? = some nm) :
    Calls Try.prog 15 #[.pointer (some ⟨N + 3, 0, none⟩), .int .i64 i] w fun e w' => e = .returned (.int .i64 0) ∧ w' = w := length_any h i nm hi
theorem last0_any {w : World} {N : Nat} {names : List ByteArray} (h : IsG w N names []) (i : Nat) (nm : ByteArray) (hi : names[i]? = some nm) :
    Calls Try.prog 16 #[.pointer (some ⟨N + 3, 0, none⟩), .int .i64 i] w fun e w' => e = .returned (.int .i64 (-1)) ∧ w' = w := last_any h i nm hi

/-- the loop's relation, k names read -/
structure R1 (N g0 gg : Nat) (ss : List ByteArray) (w0 wr : World) (k : Nat) (nms : List ByteArray) (cs : List Value) : Prop where
  le : k ≤ ss.length
  isG : IsG wr N nms []
  got : wr.ownsRow (N + 4) 3 1 (.slice (some ⟨gg, 0, none⟩) ss.length ss.length) ss.length cs
  below : Below N w0 wr
  seen : ∀ (j : Nat) (s : ByteArray), j < k → ss[j]? = some s → ∃ i : Nat, nms[i]? = some s ∧ cs[j]? = some (.int .i64 i)
  back : ∀ (i : Nat) (s : ByteArray), nms[i]? = some s → ∃ j : Nat, j < k ∧ ss[j]? = some s
  len : nms.length ≤ k

theorem R1.drewN {N g0 gg : Nat} {ss : List ByteArray} {w0 wr : World} {k : Nat} {nms : List ByteArray} {cs : List Value} (h : R1 N g0 gg ss w0 wr k nms cs) (n : Nat) : R1 N g0 gg ss w0 (wr.drewN n) k nms cs :=
  ⟨h.le, h.isG.drewN n, h.got, below_drewN h.below n, h.seen, h.back, h.len⟩

theorem R1.next {N g0 gg : Nat} {ss : List ByteArray} {w0 wr wx : World} {k i : Nat} {nms nms' : List ByteArray} {cs : List Value} {s : ByteArray} (h : R1 N g0 gg ss w0 wr k nms cs) (hs : ss[k]? = some s)
    (hG : IsG wx N nms' []) (hgot : wx.ownsRow (N + 4) 3 1 (.slice (some ⟨gg, 0, none⟩) ss.length ss.length) ss.length cs) (hb : Below N w0 wx)
    (hpre : ∀ (i : Nat) (s : ByteArray), nms[i]? = some s → nms'[i]? = some s) (hi : nms'[i]? = some s) (hback : ∀ (i : Nat) (t : ByteArray), nms'[i]? = some t → nms[i]? = some t ∨ t = s) (hlen : nms'.length ≤ k + 1) (hNg : N ≤ gg) :
    R1 N g0 gg ss w0 (wx.setCell ⟨gg, k, none⟩ (.int .i64 i)) (k + 1) nms' (cs.set k (.int .i64 i)) := by
  have hlt : k < ss.length := (List.getElem?_eq_some_iff.1 hs).1
  have hcl : cs.length = ss.length := by have := hgot.1; omega
  refine ⟨hlt, hG.store hgot _ _, (hgot.stored k _).1, hb.setCell hNg _, ?_, ?_, hlen⟩
  · intro j t hj ht
    by_cases e : j = k
    · subst e
      rw [hs] at ht
      simp at ht
      subst ht
      exact ⟨i, hi, by rw [List.getElem?_set_self (by omega)]⟩
    · obtain ⟨i', h1, h2⟩ := h.seen j t (by omega) ht
      exact ⟨i', hpre _ _ h1, by rw [List.getElem?_set_ne (by omega)]; exact h2⟩
  · intro i' t ht
    rcases hback i' t ht with h1 | rfl
    · obtain ⟨j, hj, h2⟩ := h.back i' t h1
      exact ⟨j, by omega, h2⟩
    · exact ⟨k, by omega, hs⟩

set_option maxHeartbeats 1000000 in
theorem law1_main (w : World) (a : Addr) (cap : Nat) (ss : List ByteArray) (hc : Cells w (some a) (ss.map .string)) (hz : ∀ s ∈ ss, s.size ≤ 9223372036854775807)
    (h1 : ss.length + tot ss ≤ 1048576) (h2 : ss.length ≤ 4096) (h3 : 16 * ss.length + tot ss ≤ 1048576) :
    Calls Try.prog 3 #[.slice (some a) ss.length cap] w fun e w' => e = .returned (.bool true) ∧ Below w.heap.size w w' := by
  obtain ⟨i, hi, hz0, hz1, hz2⟩ := info_parts info3
  have hd : decide (ss.length + tot ss ≤ 1048576) = true := decide_eq_true h1
  go_enter Try.func3, Try.ntmps3
  go_wp2_with fail
  refine (bytes7_any w _ _ ss hc hz (by omega)).mono ?_
  rintro e w' ⟨rfl, rfl⟩
  go_wp2_with fail
  refine (strBytes_any w' _ _ ss hc (by omega) (by omega)).mono ?_
  rintro e w' ⟨rfl, rfl⟩
  go_wp2_with fail
  refine (copyStrs_any w' a _ ss hc (by omega)).mono ?_
  rintro e w1 ⟨rfl, hcp, hg1⟩
  go_wp2_with fail
  refine (new_any w1).mono ?_
  rintro e w2 ⟨rfl, hG2, hg2⟩
  go_wp2_with (at_make; refine wpList_make_full _ rfl _ _ 28 rfl (w1.heap.size + 4) 3 i _ 1 Try.underlying28 hi hz0 hz1 _ _ _ _ ss.length rfl rfl rfl rfl (by rw [hz2]; omega) (by unfold maxLen; omega) (by have := hG2.lt; omega) ?_; intro w3 hgot hg3)
  have hN : w'.heap.size < w1.heap.size := by have := (hcp.lt w'.heap.size rfl).2; exact this
  have hgg : w1.heap.size + 4 ≤ w2.heap.size := by have := hG2.lt; omega
  have hR0 : R1 w1.heap.size w'.heap.size w2.heap.size ss w1 w3 0 [] (List.replicate ss.length (.int .i64 0)) := by
    refine ⟨Nat.zero_le _, hG2.fresh hg3, ?_, ?_, by omega, by simp, Nat.le_refl _⟩
    · simpa [Value.cells, toList_madeCells_one] using hgot
    · exact ((Below.refl _ _).grown hg2 (Nat.le_refl _) (by simp)).grown hg3 (by omega) (by simp)
  have hcp1 := own_cells hcp
  have HCP : Hid (∀ (k : Nat) (s : ByteArray), ss[k]? = some s → w1.cell? ⟨w'.heap.size, k, none⟩ = some (.string s)) := by
    intro k s hs
    obtain ⟨b, off, ha, hq⟩ := hcp1 k (.string s) (by simp [hs])
    simp at ha
    obtain ⟨rfl, rfl⟩ := ha
    simpa using hq
  have HB1 : Hid (Below w'.heap.size w' w1) := (Below.refl _ _).grown hg1 (Nat.le_refl _) (by simp)
  have HCC : Hid (Cells w1 (some ⟨w'.heap.size, 0, none⟩) (ss.map .string)) := hcp1
  clear hcp hcp1 hg1 hG2 hg2 hgot hg3 hc hi hz0 hz1 hz2 hd
  go_loopw [5, 6] (fun d i wr => ∃ (k : Nat) (nms : List ByteArray) (cs : List Value), i = .int .i64 k ∧ d = .int .i64 nms.length ∧ R1 w1.heap.size w'.heap.size w2.heap.size ss w1 wr k nms cs) (fun _ i _ => ss.length - (intOf i).toNat)
  case atStart => exact ⟨0, [], _, rfl, rfl, hR0⟩
  case round =>
    clear hR0
    obtain ⟨k, nms, cs, rfl, rfl, hR⟩ := hrel
    have hk := hR.le
    have hnl := hR.len
    by_cases hlt : k < ss.length
    · obtain ⟨s, hs⟩ := getD_some hlt
      have hcs : wr.cell? ⟨w'.heap.size, k, none⟩ = some (.string s) := (hR.below.cell (by exact hN)).trans (HCP.out k s hs)
      have hcl : cs.length = ss.length := by have := hR.got.1; omega
      obtain ⟨v0, hv0⟩ := getD_some (l := cs) (k := k) (by omega)
      have hck : wr.cell? ⟨w2.heap.size, k, none⟩ = some v0 := by rw [hR.got.cellAt k (by omega), hv0]
      have hfk := hR.got.frozenAt k
      have HS : Hid (ss[k]? = some s) := hs
      clear hs hv0 hcl
      have hHR : Hid (R1 w1.heap.size w'.heap.size w2.heap.size ss w1 wr k nms cs) := hR
      clear hR
      by_cases hmem : ∃ i : Nat, nms[i]? = some s
      · obtain ⟨i, hi⟩ := hmem
        have HI : Hid (nms[i]? = some s) := hi
        clear hi
        go_wp2_with fail
        refine (index_old hHR.out.isG i s HI.out).mono ?_
        rintro e w4 ⟨rfl, hw⟩
        obtain rfl := hw.symm
        clear hw
        go_wp2_with fail
        refine (first_any wr _ _ ss (HCC.out.below hHR.out.below hN) (by omega) k hlt).mono ?_
        rintro e w4 ⟨j, rfl, hjk, hje, hjf, nq, rfl⟩
        have hjs : ss[j]? = some s := hje.trans HS.out
        have hjlt : j < k := by
          obtain ⟨j0, hj0, hj0s⟩ := hHR.out.back i s HI.out
          rcases Nat.lt_or_ge j k with h | h
          · exact h
          · exact absurd (hj0s.trans HS.out.symm) (hjf j0 (by omega))
        have hcj : wr.cell? ⟨w2.heap.size, j, none⟩ = some (.int .i64 i) := by
          obtain ⟨i', hi1, hi2⟩ := hHR.out.seen j s hjlt hjs
          rw [hHR.out.got.cellAt j (by omega), hi2, nodup_at hHR.out.isG.nodup hi1 HI.out]
        clear hje hjf hjs
        go_wp2_with fail
        have hR2 := hHR.out.next (i := i) HS.out (hHR.out.isG.drewN nq) hHR.out.got (below_drewN hHR.out.below nq) (fun _ _ h => h) HI.out (fun _ _ h => .inl h) (by omega) (by omega)
        have hHI := HI.out
        generalize ((wr.drewN nq).setCell { block := w2.heap.size, off := k } (Value.int IntKind.i64 ↑i)) = wy at hR2 ⊢
        have hcy : wy.cell? ⟨w'.heap.size, k, none⟩ = some (.string s) := (hR2.below.cell (by exact hN)).trans (HCP.out k s HS.out)
        have hHR2 : Hid (R1 w1.heap.size w'.heap.size w2.heap.size ss w1 wy (k + 1) nms (cs.set k (.int .i64 i))) := hR2
        have hHI' : Hid (nms[i]? = some s) := hHI
        clear hcj hck hfk hcs HI hHI hHR hR2
        refine (index_old hHR2.out.isG i s hHI'.out).mono ?_
        rintro e w5 ⟨rfl, hw⟩
        obtain rfl := hw.symm
        clear hw
        go_wp2_with fail
        refine (count_any hHR2.out.isG).mono ?_
        rintro e w5 ⟨rfl, hw⟩
        obtain rfl := hw.symm
        clear hw
        go_wp2_with fail
        go_quiet ((go_at_call 14; exact Calls.quiet_of_same (who_any (hHR2.out.isG.drewN _) i s hHI'.out)))
        go_wp2_with fail
        refine (length0_any (hHR2.out.isG.drewN _) i s hHI'.out).mono ?_
        rintro e w5 ⟨rfl, rfl⟩
        go_wp2_with fail
        refine (last0_any (hHR2.out.isG.drewN _) i s hHI'.out).mono ?_
        rintro e w5 ⟨rfl, rfl⟩
        go_wp2_with fail
        go_roundw
        case rel => exact ⟨k + 1, nms, _, by go_num, by go_num, hHR2.out.drewN _⟩
        case measure => simp [intOf]; omega
      · have hn : s ∉ nms := fun hm => by
          obtain ⟨i, hi, e⟩ := List.mem_iff_getElem.1 hm
          exact hmem ⟨i, by rw [List.getElem?_eq_getElem hi, e]⟩
        have hsz : s.size ≤ maxLen := by
          have h5 := hz s (List.mem_of_getElem? HS.out)
          unfold maxLen; omega
        have HM : Hid (¬ ∃ i : Nat, nms[i]? = some s) := hmem
        clear hmem
        go_wp2_with fail
        refine (index_new hHR.out.isG s hn hsz rfl rfl (by omega)).mono ?_
        rintro e w4 ⟨rfl, hG4, hK4⟩
        have hck4 : w4.cell? ⟨w2.heap.size, k, none⟩ = some v0 := by
          rw [← hck, (hK4.own hHR.out.got).cellAt k (by omega), hHR.out.got.cellAt k (by omega)]
        have hfk4 := (hK4.own hHR.out.got).frozenAt k
        have hb4 := hHR.out.below.trans hK4.below
        have hcs4 : w4.cell? ⟨w'.heap.size, k, none⟩ = some (.string s) := (hb4.cell (by exact hN)).trans (HCP.out k s HS.out)
        have hG4' : Hid (IsG w4 w1.heap.size (nms ++ [s]) []) := hG4
        have hgot4 : Hid (w4.ownsRow (w1.heap.size + 4) 3 1 (.slice (some ⟨w2.heap.size, 0, none⟩) ss.length ss.length) ss.length cs) := hK4.own hHR.out.got
        have HB4 : Hid (Below w1.heap.size w1 w4) := hb4
        clear hG4 hK4 hck hfk hcs hb4
        go_wp2_with fail
        refine (first_any w4 _ _ ss (HCC.out.below HB4.out hN) (by omega) k hlt).mono ?_
        rintro e w5 ⟨j, rfl, hjk, hje, hjf, nq, rfl⟩
        have hjs : ss[j]? = some s := hje.trans HS.out
        have hjlt : j = k := by
          rcases Nat.lt_or_ge j k with h | h
          · obtain ⟨i, hi, _⟩ := hHR.out.seen j s h hjs
            exact absurd ⟨i, hi⟩ HM.out
          · omega
        subst hjlt
        clear hje hjf hjs hjk
        go_wp2_with fail
        have hat : (nms ++ [s])[nms.length]? = some s := by simp
        have hR2 := hHR.out.next (i := nms.length) (nms' := nms ++ [s]) HS.out (hG4'.out.drewN nq) hgot4.out (below_drewN HB4.out nq) (fun i t h => by rw [List.getElem?_append_left (List.getElem?_eq_some_iff.1 h).1]; exact h) hat (fun i t h => by
          rcases Nat.lt_or_ge i nms.length with hl | hl
          · rw [List.getElem?_append_left hl] at h; exact .inl h
          · rw [List.getElem?_append_right hl] at h
            have := List.mem_of_getElem? h
            simp at this
            exact .inr this) (by simp; omega) (by omega)
        generalize ((w4.drewN nq).setCell { block := w2.heap.size, off := j } (Value.int IntKind.i64 ↑nms.length)) = wy at hR2 ⊢
        have hcy : wy.cell? ⟨w'.heap.size, j, none⟩ = some (.string s) := (hR2.below.cell (by exact hN)).trans (HCP.out j s HS.out)
        have hHR2 : Hid (R1 w1.heap.size w'.heap.size w2.heap.size ss w1 wy (j + 1) (nms ++ [s]) (cs.set j (.int .i64 nms.length))) := hR2
        have hHI' : Hid ((nms ++ [s])[nms.length]? = some s) := hat
        clear hHR hR2 hat hck4 hfk4 hcs4 hG4' hgot4 HB4
        refine (index_old hHR2.out.isG nms.length s hHI'.out).mono ?_
        rintro e w5 ⟨rfl, hw⟩
        obtain rfl := hw.symm
        clear hw
        go_wp2_with fail
        refine (count_any hHR2.out.isG).mono ?_
        rintro e w5 ⟨rfl, hw⟩
        obtain rfl := hw.symm
        clear hw
        go_wp2_with fail
        go_quiet ((go_at_call 14; exact Calls.quiet_of_same (who_any (hHR2.out.isG.drewN _) nms.length s hHI'.out)))
        go_wp2_with fail
        refine (length0_any (hHR2.out.isG.drewN _) nms.length s hHI'.out).mono ?_
        rintro e w5 ⟨rfl, rfl⟩
        go_wp2_with fail
        refine (last0_any (hHR2.out.isG.drewN _) nms.length s hHI'.out).mono ?_
        rintro e w5 ⟨rfl, rfl⟩
        go_wp2_with fail
        go_roundw
        case rel => exact ⟨j + 1, nms ++ [s], _, by go_num, by simp, hHR2.out.drewN _⟩
        case measure => simp [intOf]; omega
    · go_wp2
      go_ret
      exact ⟨rfl, HB1.out.trans (hR.below.mono (by omega))⟩

set_option maxHeartbeats 1000000 in
theorem law1_nil (w : World) : Calls Try.prog 3 #[.slice none 0 0] w fun e w' => e = .returned (.bool true) ∧ Below w.heap.size w w' := by
  obtain ⟨i, hi, hz0, hz1, hz2⟩ := info_parts info3
  have hc : ∀ w, Cells w none (([] : List ByteArray).map .string) := fun w k v hv => by simp at hv
  go_enter Try.func3, Try.ntmps3
  go_wp2_with fail
  refine (bytes7_any w none 0 [] (hc w) (by simp) (by simp)).mono ?_
  rintro e w' ⟨rfl, rfl⟩
  go_wp2_with fail
  refine (strBytes_any w' none 0 [] (hc w') (by simp) (by simp [tot])).mono ?_
  rintro e w' ⟨rfl, rfl⟩
  go_wp2_with fail
  refine (copyStrs_nil w').mono ?_
  rintro e w' ⟨rfl, rfl⟩
  go_wp2_with fail
  refine (new_any w').mono ?_
  rintro e w2 ⟨rfl, hG2, hg2⟩
  go_wp2_with (at_make; refine wpList_make_full _ rfl _ _ 28 rfl 0 3 i _ 1 Try.underlying28 hi hz0 hz1 _ _ _ _ 0 rfl rfl rfl rfl (by omega) (by unfold maxLen; omega) (by omega) ?_; intro w3 hgot hg3)
  refine wp_loop_rounds 1 ?_; rw [rounds_succ]
  go_wp2
  go_ret
  exact ⟨rfl, ((Below.refl _ _).grown hg2 (Nat.le_refl _) (by simp)).grown hg3 hg2.size (by simp)⟩

set_option maxHeartbeats 400000 in
theorem law1_any (w : World) (ao : Option Addr) (cap : Nat) (ss : List ByteArray) (hc : Cells w ao (ss.map .string)) (hnil : ao = none → ss = [] ∧ cap = 0) (hz : ∀ s ∈ ss, s.size ≤ 9223372036854775807) (hn : ss.length ≤ 9223372036854775807) :
    Calls Try.prog 3 #[.slice ao ss.length cap] w fun e w' => e = .returned (.bool true) ∧ Below w.heap.size w w' := by
  by_cases h1 : ss.length + tot ss ≤ 1048576
  · by_cases h2 : ss.length ≤ 4096
    · by_cases h3 : 16 * ss.length + tot ss ≤ 1048576
      · cases ao with
        | none =>
          obtain ⟨rfl, rfl⟩ := hnil rfl
          exact law1_nil w
        | some a => exact law1_main w a cap ss hc hz h1 h2 h3
      · have hd : decide (ss.length + tot ss ≤ 1048576) = true := decide_eq_true h1
        go_enter Try.func3, Try.ntmps3
        go_wp2_with fail
        refine (bytes7_any w _ _ ss hc hz hn).mono ?_
        rintro e w' ⟨rfl, rfl⟩
        go_wp2_with fail
        refine (strBytes_any w' _ _ ss hc (by omega) (by omega)).mono ?_
        rintro e w' ⟨rfl, rfl⟩
        go_wp2_with fail
        go_ret
        exact ⟨rfl, Below.refl _ _⟩
    · have hd : decide (ss.length + tot ss ≤ 1048576) = true := decide_eq_true h1
      go_enter Try.func3, Try.ntmps3
      go_wp2_with fail
      refine (bytes7_any w _ _ ss hc hz hn).mono ?_
      rintro e w' ⟨rfl, rfl⟩
      go_wp2_with fail
      go_ret
      exact ⟨rfl, Below.refl _ _⟩
  · have hd : decide (ss.length + tot ss ≤ 1048576) = false := decide_eq_false h1
    go_enter Try.func3, Try.ntmps3
    go_wp2_with fail
    refine (bytes7_any w _ _ ss hc hz hn).mono ?_
    rintro e w' ⟨rfl, rfl⟩
    go_wp2_with fail
    go_ret
    exact ⟨rfl, Below.refl _ _⟩

end Go.Proofs.Qxb6000555a
