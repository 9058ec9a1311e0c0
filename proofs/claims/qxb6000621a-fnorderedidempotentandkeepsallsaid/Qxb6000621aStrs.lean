import Derived.Test.Qxb6000621aRows
import Derived.WalkKit
import Derived.ProofKit
import Derived.WalkSpells
import Derived.WalkLawsBesides
import Derived.Deep.QuietTactic
import Derived.BigQuiet
namespace Go.Proofs.Qxb6000621a
open Go.RowKit

theorem info9 : (Try.prog.info? 9).map (fun i => (i.zero, i.size, i.bytes)) = some (some (.string ⟨#[]⟩), 1, 16) := by kernel_rfl
theorem laidOut : laidOutB Try.prog = true := by kernel_rfl
theorem bytes_inj {s t : ByteArray} (h : s.data.toList = t.data.toList) : s = t := by
  cases s; cases t
  simp only [ByteArray.mk.injEq]
  exact Array.toList_inj.1 h

/-- the values vs lie at the address, one cell each -/
def Cells (w : World) (ao : Option Addr) (vs : List Value) : Prop := ∀ (k : Nat) (v : Value), vs[k]? = some v → ∃ b off, ao = some ⟨b, off, none⟩ ∧ w.cell? ⟨b, off + k, none⟩ = some v

theorem Cells.addr {w : World} {ao : Option Addr} {vs : List Value} (h : Cells w ao vs) (hn : 0 < vs.length) :
    ∃ b off, ao = some ⟨b, off, none⟩ ∧ ∀ (k : Nat) (v : Value), vs[k]? = some v → w.cell? ⟨b, off + k, none⟩ = some v := by
  obtain ⟨b, off, ha, _⟩ := h 0 vs[0] (List.getElem?_eq_getElem hn)
  refine ⟨b, off, ha, fun k v hv => ?_⟩
  obtain ⟨b', off', ha', hc⟩ := h k v hv
  rw [ha] at ha'
  simp at ha'
  obtain ⟨rfl, rfl⟩ := ha'
  exact hc

def tot (ss : List ByteArray) : Nat := (ss.map ByteArray.size).sum
theorem tot_nil : tot [] = 0 := rfl
theorem tot_append (a b : List ByteArray) : tot (a ++ b) = tot a + tot b := by simp [tot]
theorem tot_take_succ (ss : List ByteArray) (k : Nat) (s : ByteArray) (h : ss[k]? = some s) : tot (ss.take (k + 1)) = tot (ss.take k) + s.size := by
  obtain ⟨hlt, e⟩ := List.getElem?_eq_some_iff.1 h
  rw [List.take_succ_eq_append_getElem hlt, tot_append, e]
  simp [tot]
theorem tot_take_le (ss : List ByteArray) (k : Nat) : tot (ss.take k) ≤ tot ss := by
  have e := tot_append (ss.take k) (ss.drop k)
  rw [List.take_append_drop] at e
  omega

/-! ### what a slice of the call's own gives -/
theorem own_cells {w : World} {base : Nat} {e : TypeId} {g n cap : Nat} {vs : List Value} (h : w.ownsRow base e 1 (.slice (some ⟨g, 0, none⟩) n cap) n vs) : Cells w (some ⟨g, 0, none⟩) vs := by
  intro k v hv
  have hl := h.1
  have hlt := (List.getElem?_eq_some_iff.1 hv).1
  exact ⟨g, 0, rfl, by rw [Nat.zero_add, h.cellAt k (by omega), hv]⟩

/-- a row that is filled from its head -/
def fillTo (vs : List Value) (z : Value) (k : Nat) : List Value := vs.take k ++ List.replicate (vs.length - k) z
theorem fillTo_zero (vs : List Value) (z : Value) : fillTo vs z 0 = List.replicate vs.length z := by simp [fillTo]
theorem fillTo_end (vs : List Value) (z : Value) (k : Nat) (h : vs.length ≤ k) : fillTo vs z k = vs := by
  rw [fillTo, List.take_of_length_le h]
  have : vs.length - k = 0 := by omega
  simp [this]
theorem fillTo_length (vs : List Value) (z : Value) (k : Nat) : (fillTo vs z k).length = vs.length := by
  simp [fillTo]; omega
theorem fillTo_set (vs : List Value) (z : Value) (k : Nat) (v : Value) (h : vs[k]? = some v) : (fillTo vs z k).set k v = fillTo vs z (k + 1) := by
  obtain ⟨hlt, e⟩ := List.getElem?_eq_some_iff.1 h
  have hl : (vs.take k).length = k := by simp; omega
  have hr : List.replicate (vs.length - k) z = z :: List.replicate (vs.length - (k + 1)) z := by
    have : vs.length - k = (vs.length - (k + 1)) + 1 := by omega
    rw [this, List.replicate_succ]
  rw [fillTo, fillTo, List.set_append_right _ _ (by omega), hl, Nat.sub_self, hr, List.set_cons_zero, List.take_succ_eq_append_getElem hlt, e]
  simp
theorem fillTo_at (vs : List Value) (z : Value) (k : Nat) (h : k < vs.length) : (fillTo vs z k)[k]? = some z := by
  have hl : (vs.take k).length = k := by simp; omega
  rw [fillTo, List.getElem?_append_right (by omega), hl, Nat.sub_self, List.getElem?_replicate]
  simp; omega

theorem grown_own {w w1 w2 : World} {b : Nat} (h : w.grownBy w1 none) (h2 : w1.grownBy w2 (some b)) (hb : w.heap.size ≤ b) : w.grownBy w2 none :=
  ⟨h2.os.trans h.os, h2.tape.trans h.tape, h2.output.trans h.output, Nat.le_trans h.size h2.size, fun k hk _ => (h2.block k (Nat.lt_of_lt_of_le hk h.size) (fun e => by simp at e; omega)).trans (h.block k hk (by simp))⟩

set_option maxHeartbeats 400000 in
/-- cloneStrs -/
theorem copyStrs_any (w : World) (a : Addr) (cap : Nat) (ss : List ByteArray) (hc : Cells w (some a) (ss.map .string)) (hn : ss.length ≤ 1048576) :
    Calls Try.prog 12 #[.slice (some a) ss.length cap] w fun e w' => e = .returned (.slice (some ⟨w.heap.size, 0, none⟩) ss.length ss.length) ∧ w'.ownsRow w.heap.size 9 1 (.slice (some ⟨w.heap.size, 0, none⟩) ss.length ss.length) ss.length (ss.map .string) ∧ w.grownBy w' none := by
  obtain ⟨i, hi, hz0, hz1, hz2⟩ := info_parts info9
  have ke := fun (w : World) (a : Option Addr) (n c n' c' : Nat) => Lib.run_eql_slice_nil (P := Try.prog) w 22 9 a n c n' c' Try.underlying22
  have HC : Hid (∀ (k : Nat) (v : Value), (ss.map Value.string)[k]? = some v → ∃ b off, a = ⟨b, off, none⟩ ∧ w.cell? ⟨b, off + k, none⟩ = some v) := by
    intro k v hv
    obtain ⟨b, off, ha, hq⟩ := hc k v hv
    exact ⟨b, off, by simpa using ha, hq⟩
  clear hc
  have HF : Hid (fillTo (ss.map .string) (.string ⟨#[]⟩) 0 = List.replicate ss.length (.string ⟨#[]⟩)) := by show _ = _; rw [fillTo_zero]; simp
  by_cases h0 : 0 < ss.length
  · obtain ⟨b, off, ha, hq⟩ := HC.out 0 (.string ss[0]) (by simp)
    have hbl := World.block_lt_of_cell? w _ hq
    subst ha
    clear hq
    go_enter Try.func12, Try.ntmps12
    go_wp2_with (at_make; refine wpList_make_full _ rfl _ _ 22 rfl w.heap.size 9 i _ 1 Try.underlying22 hi hz0 hz1 _ _ _ _ ss.length rfl rfl rfl rfl (by rw [hz2]; omega) (by unfold maxLen; omega) (Nat.le_refl _) ?_; intro w1 hown1 hgrow1)
    go_loopw [4] (fun i wr => ∃ k : Nat, k ≤ ss.length ∧ i = .int .i64 k ∧ wr.ownsRow w.heap.size 9 1 (.slice (some ⟨w.heap.size, 0, none⟩) ss.length ss.length) ss.length (fillTo (ss.map .string) (.string ⟨#[]⟩) k) ∧ w.grownBy wr none) (fun i _ => ss.length - (intOf i).toNat)
    case atStart =>
      refine ⟨0, Nat.zero_le _, rfl, ?_, hgrow1⟩
      rw [HF.out]
      simpa [Value.cells, toList_madeCells_one] using hown1
    case round =>
      clear hown1 hgrow1
      obtain ⟨k, hk, rfl, hown, hg⟩ := hrel
      by_cases hlt : k < ss.length
      · obtain ⟨s, hs⟩ : ∃ s, ss[k]? = some s := ⟨_, List.getElem?_eq_getElem hlt⟩
        obtain ⟨b', off', ha', hq⟩ := HC.out k (.string s) (by simp [hs])
        simp at ha'
        obtain ⟨rfl, rfl⟩ := ha'
        have hcc := hg.cell hq (by simp)
        have hst := hown.cellAt k (by omega)
        rw [fillTo_at _ _ _ (by simpa using hlt)] at hst
        have hfz := hown.frozenAt k
        have HO : Hid (wr.ownsRow w.heap.size 9 1 (.slice (some ⟨w.heap.size, 0, none⟩) ss.length ss.length) ss.length (fillTo (ss.map .string) (.string ⟨#[]⟩) k)) := hown
        have HS : Hid ((ss.map Value.string)[k]? = some (.string s)) := by show _ = _; simp [hs]
        clear hs hq hown
        go_wp2
        go_roundw
        case rel =>
          have hh := HO.out.stored k (.string s)
          rw [fillTo_set _ _ _ _ HS.out] at hh
          exact ⟨k + 1, by omega, by go_num, hh.1, grown_own hg hh.2 (Nat.le_refl _)⟩
        case measure => simp [intOf]; omega
      · go_wp2
        go_ret
        rw [fillTo_end _ _ _ (by simp; omega)] at hown
        exact ⟨rfl, hown, hg⟩
  · have e : ss = [] := List.eq_nil_of_length_eq_zero (by omega)
    subst e
    go_enter Try.func12, Try.ntmps12
    go_wp2_with (at_make; refine wpList_make_full _ rfl _ _ 22 rfl w.heap.size 9 i _ 1 Try.underlying22 hi hz0 hz1 _ _ _ _ 0 rfl rfl rfl rfl (by omega) (by unfold maxLen; omega) (Nat.le_refl _) ?_; intro w1 hown1 hgrow1)
    refine wp_loop_rounds 1 ?_; rw [rounds_succ]
    go_wp2
    go_ret
    refine ⟨rfl, ?_, hgrow1⟩
    simpa [madeCells] using hown1

set_option maxHeartbeats 400000 in
theorem copyStrs_nil (w : World) : Calls Try.prog 12 #[.slice none 0 0] w fun e w' => e = .returned (.slice none 0 0) ∧ w' = w := by
  have ke := fun (w : World) (a : Option Addr) (n c n' c' : Nat) => Lib.run_eql_slice_nil (P := Try.prog) w 22 9 a n c n' c' Try.underlying22
  go_enter Try.func12, Try.ntmps12
  go_wp2
  go_ret
  exact ⟨rfl, rfl⟩

theorem getD_some {α : Type} {l : List α} {k : Nat} (h : k < l.length) : ∃ a, l[k]? = some a := ⟨_, List.getElem?_eq_getElem h⟩

theorem str_eq {s t : ByteArray} (h : (s.toList == t.toList) = true) : s = t := by
  rw [ByteArray.toList_eq, ByteArray.toList_eq] at h
  exact bytes_inj (by simpa using h)
theorem str_ne {s t : ByteArray} (h : (s.toList == t.toList) = false) : s ≠ t := by
  rintro rfl
  simp at h
theorem str_eq_mk (s : ByteArray) : (s.toList == s.toList) = true := by simp
theorem str_ne_mk {s t : ByteArray} (h : s ≠ t) : (s.toList == t.toList) = false := by
  cases hq : (s.toList == t.toList)
  · rfl
  · exact absurd (str_eq hq) h

/-- what was there is there: cells of old blocks -/
theorem Cells.keep {w w' : World} {ao : Option Addr} {vs : List Value} {N : Nat} (h : Cells w ao vs) (hb : Below N w w') (hN : w.heap.size ≤ N) : Cells w' ao vs := by
  intro k v hv
  obtain ⟨b, off, ha, hq⟩ := h k v hv
  have := World.block_lt_of_cell? w _ hq
  exact ⟨b, off, ha, (hb.cell (by show b < N; exact Nat.lt_of_lt_of_le this hN)).trans hq⟩
theorem Cells.grown {w w' : World} {ao : Option Addr} {vs : List Value} (h : Cells w ao vs) (hg : w.grownBy w' none) : Cells w' ao vs := by
  intro k v hv
  obtain ⟨b, off, ha, hq⟩ := h k v hv
  exact ⟨b, off, ha, hg.cell hq (by simp)⟩

/-- both copies, of whatever slice -/
theorem copyStrs_all (w : World) (ao : Option Addr) (cap : Nat) (ss : List ByteArray) (hc : Cells w ao (ss.map .string)) (hnil : ao = none → ss = [] ∧ cap = 0) (hn : ss.length ≤ 1048576) :
    Calls Try.prog 12 #[.slice ao ss.length cap] w fun e w' => ∃ ao' cap', e = .returned (.slice ao' ss.length cap') ∧ Cells w' ao' (ss.map .string) ∧ w.grownBy w' none := by
  cases ao with
  | none =>
    obtain ⟨rfl, rfl⟩ := hnil rfl
    exact (copyStrs_nil w).mono fun e w' ⟨he, hw⟩ => ⟨none, 0, he, fun k v hv => by simp at hv, by rw [hw]; exact World.grownBy.refl _ _⟩
  | some a => exact (copyStrs_any w a cap ss hc hn).mono fun e w' ⟨he, ho, hg⟩ => ⟨_, _, he, own_cells ho, hg⟩

/-- is it among them -/
def memB (v : ByteArray) (ss : List ByteArray) : Bool := ss.any fun t => decide (t = v)
theorem memB_true {v : ByteArray} {ss : List ByteArray} {k : Nat} (h : ss[k]? = some v) : memB v ss = true := List.any_eq_true.2 ⟨v, List.mem_of_getElem? h, by simp⟩
theorem memB_false {v : ByteArray} {ss : List ByteArray} (h : ∀ k : Nat, ss[k]? ≠ some v) : memB v ss = false := by
  unfold memB
  rw [List.any_eq_false]
  intro t ht e
  simp at e
  subst e
  obtain ⟨k, hk⟩ := List.getElem?_of_mem ht
  exact h k hk

set_option maxHeartbeats 400000 in
/-- slices.Index -/
theorem index_any (w : World) (ao : Option Addr) (cap : Nat) (ss : List ByteArray) (v : ByteArray) (hc : Cells w ao (ss.map .string)) (hn : ss.length ≤ 1048576) :
    Calls Try.prog 29 #[.slice ao ss.length cap, .string v] w fun e w' => ∃ r : Int, e = .returned (.int .i64 r) ∧ ((r = -1 ∧ ∀ k : Nat, ss[k]? ≠ some v) ∨ ∃ k : Nat, r = k ∧ ss[k]? = some v) ∧ w' = w := by
  have HC : Hid (Cells w ao (ss.map .string)) := hc
  clear hc
  go_enter Try.func29, Try.ntmps29
  go_wp2
  go_loop [8] (fun i => ∃ k : Nat, k ≤ ss.length ∧ i = .int .i64 k ∧ ∀ j : Nat, j < k → ss[j]? ≠ some v) (fun i => ss.length - (intOf i).toNat)
  case atStart => exact ⟨0, Nat.zero_le _, rfl, by omega⟩
  case round =>
    obtain ⟨k, hk, rfl, hpre⟩ := hrel
    have HP : Hid (∀ j : Nat, j < k → ss[j]? ≠ some v) := hpre
    clear hpre
    by_cases hlt : k < ss.length
    · obtain ⟨s, hs⟩ := getD_some hlt
      obtain ⟨b, off, hao, hcs⟩ := HC.out k (.string s) (by simp [hs])
      subst hao
      have HS : Hid (ss[k]? = some s) := hs
      clear hs
      by_cases hvs : v = s
      · subst hvs
        have hse := str_eq_mk v
        go_wp2
        go_ret
        exact ⟨k, rfl, .inr ⟨k, rfl, HS.out⟩, rfl⟩
      · have hse := str_ne_mk hvs
        go_wp2
        go_round
        case rel =>
          refine ⟨k + 1, by omega, by go_num, ?_⟩
          intro j hj
          by_cases hjk : j = k
          · subst hjk; rw [HS.out]; simp; exact fun e => hvs e.symm
          · exact HP.out j (by omega)
        case measure => simp [intOf]; omega
    · go_wp2
      go_ret
      refine ⟨-1, rfl, .inl ⟨rfl, fun j hj => ?_⟩, rfl⟩
      have := (List.getElem?_eq_some_iff.1 hj).1
      exact HP.out j (by omega) hj

set_option maxHeartbeats 400000 in
/-- slices.Contains -/
theorem contains_any (w : World) (ao : Option Addr) (cap : Nat) (ss : List ByteArray) (v : ByteArray) (hc : Cells w ao (ss.map .string)) (hn : ss.length ≤ 1048576) :
    Calls Try.prog 28 #[.slice ao ss.length cap, .string v] w fun e w' => e = .returned (.bool (memB v ss)) ∧ w' = w := by
  go_enter Try.func28, Try.ntmps28
  go_wp2_with fail
  refine (index_any w ao cap ss v hc hn).mono ?_
  rintro e w' ⟨r, rfl, hr, hw⟩
  obtain rfl := hw.symm
  clear hw
  rcases hr with ⟨rfl, hno⟩ | ⟨k, rfl, hk⟩
  · have HM : Hid (memB v ss = false) := memB_false hno
    clear hno
    go_wp2_with fail
    go_ret
    exact ⟨by rw [HM.out]; rfl, rfl⟩
  · have HM : Hid (memB v ss = true) := memB_true hk
    clear hk
    go_wp2_with fail
    go_ret
    exact ⟨by rw [HM.out]; rfl, rfl⟩

end Go.Proofs.Qxb6000621a
