import Derived.Test.Qxb6000555aAdd
namespace Go.Proofs.Qxb6000555a
open Go.RowKit Go.Maps

set_option maxHeartbeats 400000 in
/-- ZZAddRow -/
theorem addRow_any {w : World} {N : Nat} {names : List ByteArray} {es : List (ByteArray × Int)} (h : IsG w N names es) (ci line : Nat) (who : ByteArray) (y : Int) (hci : names[ci]? = some who) (hy : (Lit.int .i64 y).wf = true) (hes : es.length ≤ 1000000) (hl : line = es.length) :
    Calls Try.prog 30 #[.pointer (some ⟨N + 3, 0, none⟩), .int .i64 ci, .int .i64 y, .int .i64 line] w fun e w' => e = .returned (.tuple #[]) ∧ IsG w' N names (es ++ [(who, y)]) ∧ Keep N w w' := by
  subst hl
  obtain ⟨vc, vr, D1, D2, h⟩ := h
  have h1 := h.c1
  have hlt : ci < names.length := (List.getElem?_eq_some_iff.1 hci).1
  obtain ⟨g, cap, hv, _, _, _⟩ := h.chain hci
  subst hv
  go_enter Try.func30, Try.ntmps30
  go_wp2_with (go_at_call 32; refine (add_any ci who y hci hy hes g cap vr D1 D2 h).mono ?_; rintro e w' ⟨rfl, hg, hk⟩)
  go_end0
  exact ⟨rfl, hg, hk⟩

set_option maxHeartbeats 400000 in
/-- zzMin -/
theorem min_any (a b : Nat) (w : World) : Calls Try.prog 19 #[.int .i64 a, .int .i64 b] w fun e w' => e = .returned (.int .i64 (min a b : Nat)) ∧ w' = w := by
  by_cases h : a < b
  · go_enter Try.func19, Try.ntmps19
    go_wp2
    go_ret
    refine ⟨?_, rfl⟩
    rw [Nat.min_eq_left (by omega)]
    rfl
  · go_enter Try.func19, Try.ntmps19
    go_wp2
    go_ret
    refine ⟨?_, rfl⟩
    rw [Nat.min_eq_right (by omega)]
    rfl

set_option maxHeartbeats 400000 in
/-- zzCopyInts -/
theorem copyInts_any (w : World) (a : Addr) (cap : Nat) (xs : List Int) (hc : Cells w (some a) (xs.map (.int .i64))) (hn : xs.length ≤ 1048576) :
    Calls Try.prog 18 #[.slice (some a) xs.length cap] w fun e w' => e = .returned (.slice (some ⟨w.heap.size, 0, none⟩) xs.length xs.length) ∧ w'.ownsRow w.heap.size 3 1 (.slice (some ⟨w.heap.size, 0, none⟩) xs.length xs.length) xs.length (xs.map (.int .i64)) ∧ w.grownBy w' none := by
  obtain ⟨i, hi, hz0, hz1, hz2⟩ := info_parts info3
  have ke := fun (w : World) (a : Option Addr) (n c n' c' : Nat) => Lib.run_eql_slice_nil (P := Try.prog) w 28 3 a n c n' c' Try.underlying28
  have HC : Hid (Cells w (some a) (xs.map (.int .i64))) := hc
  clear hc
  have HF : Hid (fillTo (xs.map (.int .i64)) (.int .i64 0) 0 = List.replicate xs.length (.int .i64 0)) := by show _ = _; rw [fillTo_zero]; simp
  go_enter Try.func18, Try.ntmps18
  go_wp2_with (at_make; refine wpList_make_full _ rfl _ _ 28 rfl w.heap.size 3 i _ 1 Try.underlying28 hi hz0 hz1 _ _ _ _ xs.length rfl rfl rfl rfl (by rw [hz2]; omega) (by unfold maxLen; omega) (Nat.le_refl _) ?_; intro w1 hown1 hgrow1)
  go_loopw [4] (fun i wr => ∃ k : Nat, k ≤ xs.length ∧ i = .int .i64 k ∧ wr.ownsRow w.heap.size 3 1 (.slice (some ⟨w.heap.size, 0, none⟩) xs.length xs.length) xs.length (fillTo (xs.map (.int .i64)) (.int .i64 0) k) ∧ w.grownBy wr none) (fun i _ => xs.length - (intOf i).toNat)
  case atStart =>
    refine ⟨0, Nat.zero_le _, rfl, ?_, hgrow1⟩
    rw [HF.out]
    simpa [Value.cells, toList_madeCells_one] using hown1
  case round =>
    clear hown1 hgrow1
    obtain ⟨k, hk, rfl, hown, hg⟩ := hrel
    by_cases hlt : k < xs.length
    · obtain ⟨s, hs⟩ : ∃ s, xs[k]? = some s := ⟨_, List.getElem?_eq_getElem hlt⟩
      obtain ⟨b, off, hao, hq⟩ := HC.out k (.int .i64 s) (by simp [hs])
      simp at hao
      have hbl := World.block_lt_of_cell? w _ hq
      have hcc := hg.cell hq (by simp)
      have hst := hown.cellAt k (by omega)
      rw [fillTo_at _ _ _ (by simpa using hlt)] at hst
      have hfz := hown.frozenAt k
      have HO : Hid (wr.ownsRow w.heap.size 3 1 (.slice (some ⟨w.heap.size, 0, none⟩) xs.length xs.length) xs.length (fillTo (xs.map (.int .i64)) (.int .i64 0) k)) := hown
      have HS : Hid ((xs.map (Value.int .i64))[k]? = some (.int .i64 s)) := by show _ = _; simp [hs]
      clear hs hq hown
      go_wp2
      go_roundw
      case rel =>
        have hh := HO.out.stored k (.int .i64 s)
        rw [fillTo_set _ _ _ _ HS.out] at hh
        exact ⟨k + 1, by omega, by go_num, hh.1, grown_own hg hh.2 (Nat.le_refl _)⟩
      case measure => simp [intOf]; omega
    · go_wp2
      go_ret
      rw [fillTo_end _ _ _ (by simp; omega)] at hown
      exact ⟨rfl, hown, hg⟩

set_option maxHeartbeats 400000 in
theorem copyInts_nil (w : World) : Calls Try.prog 18 #[.slice none 0 0] w fun e w' => e = .returned (.slice none 0 0) ∧ w' = w := by
  have ke := fun (w : World) (a : Option Addr) (n c n' c' : Nat) => Lib.run_eql_slice_nil (P := Try.prog) w 28 3 a n c n' c' Try.underlying28
  go_enter Try.func18, Try.ntmps18
  go_wp2
  go_ret
  exact ⟨rfl, rfl⟩

/-- what was there is there: cells of old blocks -/
theorem Cells.keep {w w' : World} {ao : Option Addr} {vs : List Value} {N : Nat} (h : Cells w ao vs) (hb : Below N w w') (hN : w.heap.size ≤ N) : Cells w' ao vs := by
  intro k v hv
  obtain ⟨b, off, ha, hq⟩ := h k v hv
  have := World.block_lt_of_cell? w _ hq
  exact ⟨b, off, ha, (hb.cell (by show b < N; exact Nat.lt_of_lt_of_le this hN)).trans hq⟩
theorem Cells.grown {w w' : World} {ao : Option Addr} {vs : List Value} (h : Cells w ao vs) (hg : w.grownBy w' none) : Cells w' ao vs := by
  intro k v hv
  obtain ⟨b, off, ha, hq⟩ := h k v hv
  exact ⟨b, off, ha, hg.cell hq (by simp)⟩

/-- both copies, of whatever slice -/
theorem copyStrs_all (w : World) (ao : Option Addr) (cap : Nat) (ss : List ByteArray) (hc : Cells w ao (ss.map .string)) (hnil : ao = none → ss = [] ∧ cap = 0) (hn : ss.length ≤ 1048576) :
    Calls Try.prog 9 #[.slice ao ss.length cap] w fun e w' => ∃ ao' cap', e = .returned (.slice ao' ss.length cap') ∧ Cells w' ao' (ss.map .string) ∧ w.grownBy w' none := by
  cases ao with
  | none =>
    obtain ⟨rfl, rfl⟩ := hnil rfl
    exact (copyStrs_nil w).mono fun e w' ⟨he, hw⟩ => ⟨none, 0, he, fun k v hv => by simp at hv, by rw [hw]; exact World.grownBy.refl _ _⟩
  | some a => exact (copyStrs_any w a cap ss hc hn).mono fun e w' ⟨he, ho, hg⟩ => ⟨_, _, he, own_cells ho, hg⟩
theorem copyInts_all (w : World) (ao : Option Addr) (cap : Nat) (xs : List Int) (hc : Cells w ao (xs.map (.int .i64))) (hnil : ao = none → xs = [] ∧ cap = 0) (hn : xs.length ≤ 1048576) :
    Calls Try.prog 18 #[.slice ao xs.length cap] w fun e w' => ∃ ao' cap', e = .returned (.slice ao' xs.length cap') ∧ Cells w' ao' (xs.map (.int .i64)) ∧ w.grownBy w' none := by
  cases ao with
  | none =>
    obtain ⟨rfl, rfl⟩ := hnil rfl
    exact (copyInts_nil w).mono fun e w' ⟨he, hw⟩ => ⟨none, 0, he, fun k v hv => by simp at hv, by rw [hw]; exact World.grownBy.refl _ _⟩
  | some a => exact (copyInts_any w a cap xs hc hn).mono fun e w' ⟨he, ho, hg⟩ => ⟨_, _, he, own_cells ho, hg⟩

/-! ### the entries of a script -/
theorem zip_at {ws : List ByteArray} {ys : List Int} {k : Nat} {s : ByteArray} {y : Int} (hs : ws[k]? = some s) (hy : ys[k]? = some y) : (ws.zip ys)[k]? = some (s, y) := by
  rw [List.getElem?_zip_eq_some]; exact ⟨hs, hy⟩
theorem zip_take_succ {ws : List ByteArray} {ys : List Int} {k : Nat} {s : ByteArray} {y : Int} (hs : ws[k]? = some s) (hy : ys[k]? = some y) : (ws.zip ys).take (k + 1) = (ws.zip ys).take k ++ [(s, y)] := by
  obtain ⟨hlt, e⟩ := List.getElem?_eq_some_iff.1 (zip_at hs hy)
  rw [List.take_succ_eq_append_getElem hlt, e]
theorem zip_take_at {ws : List ByteArray} {ys : List Int} {k j : Nat} {s : ByteArray} {y : Int} (h : ((ws.zip ys).take k)[j]? = some (s, y)) : j < k ∧ ws[j]? = some s ∧ ys[j]? = some y := by
  rw [List.getElem?_take] at h
  split at h
  · rename_i hlt
    rw [List.getElem?_zip_eq_some] at h
    exact ⟨hlt, h⟩
  · simp at h
theorem cnt_none (nm : ByteArray) (es : List (ByteArray × Int)) (h : ∀ e ∈ es, e.1 ≠ nm) : cnt nm es = 0 := by
  induction es using snoc_ind with
  | h0 => rfl
  | h1 l a ih =>
    rw [cnt_snoc, if_neg (h a (by simp))]
    exact ih (fun e he => h e (by simp [he]))

def isNew (ws : List ByteArray) (k : Nat) : Bool := match ws[k]? with | some s => !((ws.take k).any fun t => decide (t = s)) | none => false
/-- how many of the first k names are met for the first time -/
def firsts (ws : List ByteArray) : Nat → Nat
  | 0 => 0
  | k + 1 => if isNew ws k then firsts ws k + 1 else firsts ws k

structure RB (N g n : Nat) (ws : List ByteArray) (ys : List Int) (w0 wr : World) (k : Nat) (names : List ByteArray) (cs : List Value) : Prop where
  le : k ≤ n
  isG : IsG wr N names ((ws.zip ys).take k)
  got : wr.ownsRow (N + 4) 3 1 (.slice (some ⟨g, 0, none⟩) n n) n cs
  below : Below N w0 wr
  seen : ∀ (j : Nat) (s : ByteArray), j < k → ws[j]? = some s → ∃ i : Nat, names[i]? = some s ∧ cs[j]? = some (.int .i64 i)
  back : ∀ (i : Nat) (s : ByteArray), names[i]? = some s → ∃ j : Nat, j < k ∧ ws[j]? = some s
  len : names.length = firsts ws k

theorem firsts_le (ws : List ByteArray) (k : Nat) : firsts ws k ≤ k := by
  induction k with
  | zero => exact Nat.le_refl _
  | succ k ih => simp only [firsts]; split <;> omega

theorem isNew_false {ws : List ByteArray} {k j : Nat} {s : ByteArray} (hs : ws[k]? = some s) (hj : j < k) (hjs : ws[j]? = some s) : isNew ws k = false := by
  have : s ∈ ws.take k := List.mem_of_getElem? (i := j) (by rw [List.getElem?_take, if_pos hj]; exact hjs)
  have h2 : ((ws.take k).any fun t => decide (t = s)) = true := List.any_eq_true.2 ⟨s, this, by simp⟩
  simp only [isNew, hs, h2]
  rfl
theorem isNew_true {ws : List ByteArray} {k : Nat} {s : ByteArray} (hs : ws[k]? = some s) (h : ∀ j, j < k → ws[j]? ≠ some s) : isNew ws k = true := by
  have : s ∉ ws.take k := fun hm => by
    obtain ⟨j, hj⟩ := List.getElem?_of_mem hm
    rw [List.getElem?_take] at hj
    split at hj
    · rename_i hlt; exact h j hlt hj
    · simp at hj
  have h2 : ((ws.take k).any fun t => decide (t = s)) = false := by
    rw [List.any_eq_false]
    intro t ht e
    simp at e
    exact this (e ▸ ht)
  simp only [isNew, hs, h2]
  rfl

theorem RB.next {N g n : Nat} {ws : List ByteArray} {ys : List Int} {w0 wr wx : World} {k i : Nat} {names names' : List ByteArray} {cs : List Value} {s : ByteArray} (h : RB N g n ws ys w0 wr k names cs) (hk : k < n) (hs : ws[k]? = some s)
    (hG : IsG wx N names' ((ws.zip ys).take (k + 1))) (hgot : wx.ownsRow (N + 4) 3 1 (.slice (some ⟨g, 0, none⟩) n n) n cs) (hb : Below N w0 wx)
    (hpre : ∀ (i : Nat) (s : ByteArray), names[i]? = some s → names'[i]? = some s) (hi : names'[i]? = some s) (hback : ∀ (i : Nat) (t : ByteArray), names'[i]? = some t → names[i]? = some t ∨ t = s) (hlen : names'.length = firsts ws (k + 1)) (hNg : N ≤ g) :
    RB N g n ws ys w0 (wx.setCell ⟨g, k, none⟩ (.int .i64 i)) (k + 1) names' (cs.set k (.int .i64 i)) := by
  have hcl : cs.length = n := by have := hgot.1; omega
  refine ⟨hk, hG.store hgot _ _, (hgot.stored k _).1, hb.setCell hNg _, ?_, ?_, hlen⟩
  · intro j t hj ht
    by_cases e : j = k
    · subst e
      rw [hs] at ht
      simp at ht
      subst ht
      exact ⟨i, hi, by rw [List.getElem?_set_self (by omega)]⟩
    · obtain ⟨i', h1, h2⟩ := h.seen j t (by omega) ht
      exact ⟨i', hpre _ _ h1, by rw [List.getElem?_set_ne (by omega)]; exact h2⟩
  · intro i' t ht
    rcases hback i' t ht with h1 | rfl
    · obtain ⟨j, hj, h2⟩ := h.back i' t h1
      exact ⟨j, by omega, h2⟩
    · exact ⟨k, by omega, hs⟩

/-- of a name that is in no chain there is no entry -/
theorem RB.none {N g n : Nat} {ws : List ByteArray} {ys : List Int} {w0 wr : World} {k : Nat} {names : List ByteArray} {cs : List Value} {s : ByteArray} (h : RB N g n ws ys w0 wr k names cs) (hn : s ∉ names) :
    cnt s ((ws.zip ys).take k) = 0 ∧ lastOf s ((ws.zip ys).take k) = -1 ∧ ∀ j, j < k → ws[j]? ≠ some s := by
  have hno : ∀ j, j < k → ws[j]? ≠ some s := fun j hj hjs => by
    obtain ⟨i, hi, _⟩ := h.seen j s hj hjs
    exact hn (List.mem_of_getElem? hi)
  have he : ∀ (j : Nat) (e : ByteArray × Int), ((ws.zip ys).take k)[j]? = some e → e.1 ≠ s := fun j e hj q => by
    obtain ⟨h1, h2, _⟩ := zip_take_at (s := e.1) (y := e.2) hj
    exact hno j h1 (q ▸ h2)
  refine ⟨cnt_none _ _ (fun e hm => ?_), lastOf_none _ _ he, hno⟩
  obtain ⟨j, hj⟩ := List.getElem?_of_mem hm
  exact he j e hj

set_option maxHeartbeats 1000000 in
/-- zzBuild -/
theorem build_any (w : World) (aw ay : Option Addr) (cw cy : Nat) (ws : List ByteArray) (ys : List Int) (N n : Nat) (hN : N ≤ w.heap.size) (hG : IsG w N [] [])
    (hcw : ∀ w', Below N w w' → Cells w' aw (ws.map .string)) (hcy : ∀ w', Below N w w' → Cells w' ay (ys.map (.int .i64))) (hnw : n ≤ ws.length) (hny : n ≤ ys.length) (hn : n ≤ 4096)
    (hzw : ∀ s ∈ ws, s.size ≤ maxLen) (hzy : ∀ y ∈ ys, (Lit.int .i64 y).wf = true) :
    Calls Try.prog 20 #[.pointer (some ⟨N + 3, 0, none⟩), .slice aw ws.length cw, .slice ay ys.length cy, .int .i64 n] w fun e w' => e = .returned (.slice (some ⟨w.heap.size, 0, none⟩) n n) ∧
      ∃ names cs, RB N w.heap.size n ws ys w w' n names cs := by
  obtain ⟨i, hi, hz0, hz1, hz2⟩ := info_parts info3
  have hNl := hG.lt
  go_enter Try.func20, Try.ntmps20
  go_wp2_with (at_make; refine wpList_make_full _ rfl _ _ 28 rfl (N + 4) 3 i _ 1 Try.underlying28 hi hz0 hz1 _ _ _ _ n rfl rfl rfl rfl (by rw [hz2]; omega) (by unfold maxLen; omega) (by omega) ?_; intro w1 hgot hg1)
  have hR0 : RB N w.heap.size n ws ys w w1 0 [] (List.replicate n (.int .i64 0)) := by
    refine ⟨Nat.zero_le _, hG.fresh hg1, ?_, (Below.refl _ _).grown hg1 hN (by simp), by omega, by simp, rfl⟩
    simpa [Value.cells, toList_madeCells_one] using hgot
  have HW : Hid (∀ w', Below N w w' → Cells w' aw (ws.map .string)) := hcw
  have HY : Hid (∀ w', Below N w w' → Cells w' ay (ys.map (.int .i64))) := hcy
  clear hcw hcy hgot hg1 hi hz0 hz1 hz2
  go_loopw [10] (fun i wr => ∃ (k : Nat) (names : List ByteArray) (cs : List Value), i = .int .i64 k ∧ RB N w.heap.size n ws ys w wr k names cs) (fun i _ => n - (intOf i).toNat)
  case atStart => exact ⟨0, [], _, rfl, hR0⟩
  case round =>
    clear hR0
    obtain ⟨k, names, cs, rfl, hR⟩ := hrel
    have hk := hR.le
    have hnl := firsts_le ws k
    have hnl2 : names.length ≤ k := by rw [hR.len]; exact hnl
    by_cases hlt : k < n
    · obtain ⟨s, hs⟩ := getD_some (l := ws) (k := k) (by omega)
      obtain ⟨y, hys⟩ := getD_some (l := ys) (k := k) (by omega)
      obtain ⟨bw, ow, haw, hcs⟩ := HW.out wr hR.below k (.string s) (by simp [hs])
      subst haw
      obtain ⟨by', oy, hay, hcy0⟩ := HY.out wr hR.below k (.int .i64 y) (by simp [hys])
      subst hay
      have hcl : cs.length = n := by have := hR.got.1; omega
      have HSS : Hid (ws[k]? = some s) := hs
      have HYY : Hid (ys[k]? = some y) := hys
      have hHR : Hid (RB N w.heap.size n ws ys w wr k names cs) := hR
      have hes : ((ws.zip ys).take k).length = k := by simp; omega
      have HES : Hid (((ws.zip ys).take k).length = k) := hes
      clear hs hys hR hes
      have hwy := hzy y (List.mem_of_getElem? HYY.out)
      by_cases hmem : ∃ i : Nat, names[i]? = some s
      · obtain ⟨i, hi⟩ := hmem
        have HI : Hid (names[i]? = some s) := hi
        clear hi
        go_wp2_with fail
        refine (index_old hHR.out.isG i s HI.out).mono ?_
        rintro e w4 ⟨rfl, hw⟩
        obtain rfl := hw.symm
        clear hw
        go_wp2_with fail
        refine (addRow_any hHR.out.isG i k s y HI.out hwy (by rw [HES.out]; omega) HES.out.symm).mono ?_
        rintro e w5 ⟨rfl, hG5, hK5⟩
        have hgot5 := hK5.own hHR.out.got
        obtain ⟨v0, hv0⟩ := getD_some (l := cs) (k := k) (by omega)
        have hck : w5.cell? ⟨w.heap.size, k, none⟩ = some v0 := by rw [hgot5.cellAt k (by omega), hv0]
        have hfk := hgot5.frozenAt k
        rw [← zip_take_succ HSS.out HYY.out] at hG5
        have hnew : isNew ws k = false := by
          obtain ⟨j, hj, hjs⟩ := hHR.out.back i s HI.out
          exact isNew_false HSS.out hj hjs
        have hlen : names.length = firsts ws (k + 1) := by rw [hHR.out.len]; simp [firsts, hnew]
        have HR2 : Hid _ := hHR.out.next hlt HSS.out hG5 hgot5 (hHR.out.below.trans hK5.below) (fun _ _ h => h) HI.out (fun _ _ h => .inl h) hlen hN
        clear hG5 hK5 hgot5 hv0 hnew hlen hHR HI
        go_wp2_with fail
        go_roundw
        case rel => exact ⟨k + 1, names, _, by go_num, HR2.out⟩
        case measure => simp [intOf]; omega
      · have hn : s ∉ names := fun hm => by
          obtain ⟨i, hi, e⟩ := List.mem_iff_getElem.1 hm
          exact hmem ⟨i, by rw [List.getElem?_eq_getElem hi, e]⟩
        obtain ⟨hc0, hl0, hno⟩ := hHR.out.none hn
        have HC0 : Hid (cnt s ((ws.zip ys).take k) = 0) := hc0
        have HL0 : Hid (lastOf s ((ws.zip ys).take k) = -1) := hl0
        have HNO : Hid (isNew ws k = true) := isNew_true HSS.out hno
        have hsz := hzw s (List.mem_of_getElem? HSS.out)
        clear hmem hc0 hl0 hno
        go_wp2_with fail
        refine (index_new hHR.out.isG s hn hsz HC0.out HL0.out (by omega)).mono ?_
        rintro e w4 ⟨rfl, hG4, hK4⟩
        have hb4 := hHR.out.below.trans hK4.below
        obtain ⟨by2, oy2, hay2, hcy⟩ := HY.out w4 hb4 k (.int .i64 y) (by simp [HYY.out])
        simp at hay2
        obtain ⟨rfl, rfl⟩ := hay2
        have HG4 : Hid _ := hG4
        have HK4 : Hid _ := hK4
        have HB4 : Hid _ := hb4
        clear hG4 hK4 hb4
        go_wp2_with fail
        have hat : (names ++ [s])[names.length]? = some s := by simp
        refine (addRow_any HG4.out names.length k s y hat hwy (by rw [HES.out]; omega) HES.out.symm).mono ?_
        rintro e w5 ⟨rfl, hG5, hK5⟩
        have hgot5 := hK5.own (HK4.out.own hHR.out.got)
        obtain ⟨v0, hv0⟩ := getD_some (l := cs) (k := k) (by omega)
        have hck : w5.cell? ⟨w.heap.size, k, none⟩ = some v0 := by rw [hgot5.cellAt k (by omega), hv0]
        have hfk := hgot5.frozenAt k
        rw [← zip_take_succ HSS.out HYY.out] at hG5
        have hlen : (names ++ [s]).length = firsts ws (k + 1) := by
          have := HNO.out
          simp [firsts, this, hHR.out.len]
        have HR2 : Hid _ := hHR.out.next hlt HSS.out hG5 hgot5 (HB4.out.trans hK5.below) (fun i t h => by rw [List.getElem?_append_left (List.getElem?_eq_some_iff.1 h).1]; exact h) hat (fun i t h => by
          rcases Nat.lt_or_ge i names.length with hl | hl
          · rw [List.getElem?_append_left hl] at h; exact .inl h
          · rw [List.getElem?_append_right hl] at h
            have := List.mem_of_getElem? h
            simp at this
            exact .inr this) hlen hN
        clear hG5 hK5 hgot5 hv0 hlen hHR HG4 HK4 HB4 hat hcy hcs hcy0
        go_wp2_with fail
        go_roundw
        case rel => exact ⟨k + 1, names ++ [s], _, by go_num, HR2.out⟩
        case measure => simp [intOf]; omega
    · go_wp2
      go_ret
      have : k = n := by omega
      subst this
      exact ⟨rfl, names, cs, hR⟩

end Go.Proofs.Qxb6000555a
