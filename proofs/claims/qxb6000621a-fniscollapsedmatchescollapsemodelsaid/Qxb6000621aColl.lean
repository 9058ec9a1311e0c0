import Derived.Test.Qxb6000621aRows
import Derived.Test.Qxb6000621aText
import Derived.WalkKit
import Derived.ProofKit
import Derived.WalkSpells
import Derived.WalkLawsBesides
import Derived.Laws.IdiomStrings
namespace Go.Proofs.Qxb6000621a
open Go.RowKit

theorem byteEq (c d : UInt8) : (((c.toNat : Nat) : Int) == ((d.toNat : Nat) : Int)) = (c == d) := by
  by_cases h : c = d
  · subst h; simp
  · have : ¬ c.toNat = d.toNat := fun e => h (UInt8.toNat_inj.1 e)
    have h1 : (c == d) = false := by simpa using h
    rw [h1]
    simp
    omega
theorem byte9 (c : UInt8) : (((c.toNat : Nat) : Int) == 9) = (c == 9) := byteEq c 9
theorem byte10 (c : UInt8) : (((c.toNat : Nat) : Int) == 10) = (c == 10) := byteEq c 10
theorem byte13 (c : UInt8) : (((c.toNat : Nat) : Int) == 13) = (c == 13) := byteEq c 13
theorem byte32 (c : UInt8) : (((c.toNat : Nat) : Int) == 32) = (c == 32) := byteEq c 32

theorem at_data (s : ByteArray) (k : Nat) (h : k < s.size) : s.data.toList[k]? = some s[k] := by
  rw [List.getElem?_eq_getElem (by simpa using h)]
  rfl

set_option maxHeartbeats 400000 in
/-- isWS -/
theorem isWS_any (c : UInt8) (w : World) : Calls Try.prog 26 #[.int .u8 (c.toNat : Nat)] w fun e w' => e = .returned (.bool (ws c)) ∧ w' = w := by
  have FIN : Hid (∀ {b : Bool}, b = ws c → Ending.returned (.bool b) = .returned (.bool (ws c))) := fun h => by rw [h]
  have q9 := byte9 c
  have q10 := byte10 c
  have q13 := byte13 c
  have q32 := byte32 c
  cases h32 : (c == 32) <;> cases h9 : (c == 9) <;> cases h10 : (c == 10) <;> cases h13 : (c == 13)
  all_goals
    rw [h9] at q9
    rw [h10] at q10
    rw [h13] at q13
    rw [h32] at q32
    have HW : Hid (ws c = ((c == 32) || (c == 9) || (c == 10) || (c == 13))) := rfl
    go_enter Try.func26, Try.ntmps26
    go_wp2
    go_ret
    exact ⟨FIN.out (by rw [HW.out, h32, h9, h10, h13]; rfl), rfl⟩

set_option maxHeartbeats 1000000 in
/-- isCollapsed -/
theorem isColl_any (s : ByteArray) (hs : s.size ≤ 1048576) (w : World) :
    Calls Try.prog 27 #[.string s] w fun e w' => ∃ b : Bool, e = .returned (.bool b) ∧ (b = true ↔ Good s.data.toList) ∧ w' = w := by
  go_enter Try.func27, Try.ntmps27
  go_wp2
  go_loop [3] (fun i => ∃ k : Nat, k ≤ s.size ∧ i = .int .i64 k ∧ ∀ (i : Nat) (c : UInt8), i < k → s.data.toList[i]? = some c → okAt s.data.toList i c) (fun i => s.size - (intOf i).toNat)
  case atStart => exact ⟨0, Nat.zero_le _, rfl, by omega⟩
  case round =>
    obtain ⟨k, hk, rfl, hpre⟩ := hrel
    have HP : Hid (∀ (i : Nat) (c : UInt8), i < k → s.data.toList[i]? = some c → okAt s.data.toList i c) := hpre
    clear hpre
    by_cases hlt : k < s.size
    · obtain ⟨c, hc⟩ : ∃ c, s[k] = c := ⟨_, rfl⟩
      have HC : Hid (s.data.toList[k]? = some c) := by show _ = _; rw [at_data s k hlt, hc]
      have q9 := byte9 c
      have q10 := byte10 c
      have q13 := byte13 c
      have q32 := byte32 c
      have NO : Hid (¬ okAt s.data.toList k c → ¬ Good s.data.toList) := fun h hg => h (hg k c HC.out)
      by_cases h9 : c = 9
      · subst h9
        go_wp2
        go_ret
        exact .inl ⟨rfl, NO.out (fun h => h.1 rfl), rfl⟩
      by_cases h10 : c = 10
      · subst h10
        go_wp2
        go_ret
        exact .inl ⟨rfl, NO.out (fun h => h.2.1 rfl), rfl⟩
      by_cases h13 : c = 13
      · subst h13
        go_wp2
        go_ret
        exact .inl ⟨rfl, NO.out (fun h => h.2.2.1 rfl), rfl⟩
      have n9 : (c == 9) = false := by simpa using h9
      have n10 : (c == 10) = false := by simpa using h10
      have n13 : (c == 13) = false := by simpa using h13
      rw [n9] at q9
      rw [n10] at q10
      rw [n13] at q13
      clear n9 n10 n13
      have HOK : Hid (c ≠ 9 ∧ c ≠ 10 ∧ c ≠ 13) := ⟨h9, h10, h13⟩
      clear h9 h10 h13
      have NEXT : Hid (okAt s.data.toList k c → ∀ (i : Nat) (d : UInt8), i < k + 1 → s.data.toList[i]? = some d → okAt s.data.toList i d) := fun hok i d hi hd => by
        by_cases hik : i = k
        · subst hik
          rw [HC.out] at hd
          simp at hd
          subst hd
          exact hok
        · exact HP.out i d (by omega) hd
      by_cases h32 : c = 32
      · subst h32
        have hsz : s.data.toList.length = s.size := by simp
        by_cases hk0 : k = 0
        · subst hk0
          go_wp2
          go_ret
          exact .inl ⟨rfl, NO.out (fun h => (h.2.2.2 rfl).1 rfl), rfl⟩
        by_cases hkl : k + 1 = s.size
        · have HKL : Hid (k + 1 = s.size) := hkl
          have hkl1 : (k : Int) ≤ (s.size : Int) - 1 := by omega
          have hkl2 : (s.size : Int) - 1 ≤ (k : Int) := by omega
          have hkp : 0 < k := by omega
          clear hkl hk0 hsz
          go_wp2
          go_ret
          exact .inl ⟨rfl, NO.out (fun h => (h.2.2.2 rfl).2.1 (by rw [HKL.out]; simp)), rfl⟩
        have hk1 : k + 1 < s.size := by omega
        obtain ⟨d, hd⟩ : ∃ d, s[k + 1] = d := ⟨_, rfl⟩
        have HD : Hid (s.data.toList[k + 1]? = some d) := by show _ = _; rw [at_data s (k + 1) hk1, hd]
        have r32 := byte32 d
        have hkp : 0 < k := by omega
        by_cases hd32 : d = 32
        · subst hd32
          clear hk0 hkl hsz
          go_wp2
          go_ret
          exact .inl ⟨rfl, NO.out (fun h => (h.2.2.2 rfl).2.2 HD.out), rfl⟩
        · have nd : (d == 32) = false := by simpa using hd32
          rw [nd] at r32
          have HKL : Hid (k + 1 ≠ s.data.toList.length) := by rw [hsz]; exact hkl
          have m0 : ((k : Int) == 0) = false := by simp; omega
          have m1 : ((k : Int) == (s.size : Int) - 1) = false := by simp; omega
          clear hk0 hkl hsz nd
          go_wp2
          go_round
          case rel => exact ⟨k + 1, by omega, by go_num, NEXT.out ⟨by decide, by decide, by decide, fun _ => ⟨by omega, HKL.out, by rw [HD.out]; simpa using hd32⟩⟩⟩
          case measure => simp [intOf]; omega
      · have n32 : (c == 32) = false := by simpa using h32
        rw [n32] at q32
        clear n32
        go_wp2
        go_round
        case rel => exact ⟨k + 1, by omega, by go_num, NEXT.out ⟨HOK.out.1, HOK.out.2.1, HOK.out.2.2, fun h => absurd h h32⟩⟩
        case measure => simp [intOf]; omega
    · have hkn : k = s.size := by omega
      go_wp2
      go_ret
      refine .inr ⟨rfl, fun i c hc => HP.out i c ?_ hc, rfl⟩
      have := (List.getElem?_eq_some_iff.1 hc).1
      simp at this
      omega

theorem grown_own {w w1 w2 : World} {b : Nat} (h : w.grownBy w1 none) (h2 : w1.grownBy w2 (some b)) (hb : w.heap.size ≤ b) : w.grownBy w2 none :=
  ⟨h2.os.trans h.os, h2.tape.trans h.tape, h2.output.trans h.output, Nat.le_trans h.size h2.size, fun k hk _ => (h2.block k (Nat.lt_of_lt_of_le hk h.size) (fun e => by simp at e; omega)).trans (h.block k hk (by simp))⟩

/-! ### collapseModel -/
def byteV (b : UInt8) : Value := .int .u8 (b.toNat : Nat)
theorem info5 : (Try.prog.info? 5).map (fun i => (i.zero, i.size, i.bytes)) = some (some (.int .u8 0), 1, 1) := by kernel_rfl

set_option maxHeartbeats 2000000 in
theorem model_any (s : ByteArray) (hs : s.size ≤ 1048576) (w : World) :
    Calls Try.prog 21 #[.string s] w fun e w' => e = .returned (.string ⟨(model s.data.toList).toArray⟩) ∧ w.grownBy w' none := by
  obtain ⟨i, hi, hz0, hz1, hz2⟩ := info_parts info5
  go_enter Try.func21, Try.ntmps21
  go_wp2_with (at_make; refine wpList_make_own _ rfl _ _ 33 rfl w.heap.size 5 i _ 1 Try.underlying33 hi hz0 hz1 _ _ _ s.size rfl rfl rfl (by rw [hz2]; omega) (by unfold maxLen; omega) (Nat.le_refl _) ?_; intro w1 hown1 hgrow1)
  go_loopw [3, 4, 5] (fun s3 s4 s5 wr => ∃ (k : Nat) (out : List UInt8) (pend : Bool), k ≤ s.size ∧ s5 = .int .i64 k ∧ run (s.data.toList.take k) = (out, pend) ∧ s3 = .slice (some ⟨w.heap.size, 0, none⟩) out.length s.size ∧ s4 = .bool pend ∧
      wr.ownsRow w.heap.size 5 1 (.slice (some ⟨w.heap.size, 0, none⟩) out.length s.size) out.length (out.map byteV) ∧ w.grownBy wr none) (fun _ _ s5 _ => s.size - (intOf s5).toNat)
  case atStart => exact ⟨0, [], false, Nat.zero_le _, rfl, rfl, rfl, rfl, hown1, hgrow1⟩
  case round =>
    clear hown1 hgrow1
    obtain ⟨k, out, pend, hk, rfl, hrun, rfl, rfl, hown, hg⟩ := hrel
    have HR : Hid (run (s.data.toList.take k) = (out, pend)) := hrun
    have HG : Hid (w.grownBy wr none) := hg
    clear hrun hg
    by_cases hlt : k < s.size
    · obtain ⟨c, hc⟩ : ∃ c, s[k] = c := ⟨_, rfl⟩
      have HC : Hid (s.data.toList[k]? = some c) := by show _ = _; rw [at_data s k hlt, hc]
      have HN : Hid (run (s.data.toList.take (k + 1)) = step (out, pend) c) := by show _ = _; rw [run_take_succ _ _ _ HC.out, HR.out]
      have hlen : out.length + (if pend then 1 else 0) ≤ k := by
        have := (run_good (s.data.toList.take k)).2.2
        rw [HR.out] at this
        simp only at this
        have h2 : (s.data.toList.take k).length ≤ k := List.length_take_le _ _
        omega
      have hol : out.length ≤ k := by omega
      cases hw : ws c with
      | true =>
        by_cases hz : out.length = 0
        · have HN2 : Hid (run (s.data.toList.take (k + 1)) = (out, pend)) := by show _ = _; rw [HN.out]; simp [step, hw, hz]
          have hz2 : out.length ≤ 0 := by omega
          clear hz
          go_wp2_with fail
          refine (isWS_any c _).mono ?_
          rintro e w9 ⟨rfl, hw9⟩
          obtain rfl := hw9.symm
          clear hw9
          go_wp2_with fail
          go_roundw
          case rel => exact ⟨k + 1, out, pend, by omega, by go_num, HN2.out, rfl, rfl, hown, HG.out⟩
          case measure => simp [intOf]; omega
        · have HN2 : Hid (run (s.data.toList.take (k + 1)) = (out, true)) := by show _ = _; rw [HN.out]; simp [step, hw, hz]
          have hz2 : 0 < out.length := by omega
          clear hz
          go_wp2_with fail
          refine (isWS_any c _).mono ?_
          rintro e w9 ⟨rfl, hw9⟩
          obtain rfl := hw9.symm
          clear hw9
          go_wp2_with fail
          go_roundw
          case rel => exact ⟨k + 1, out, true, by omega, by go_num, HN2.out, rfl, rfl, hown, HG.out⟩
          case measure => simp [intOf]; omega
      | false =>
        cases pend with
        | true =>
          have HN2 : Hid (run (s.data.toList.take (k + 1)) = (out ++ [32] ++ [c], false)) := by show _ = _; rw [HN.out]; simp [step, hw]
          have hl2 : out.length + 1 ≤ k := by simpa using hlen
          clear hlen
          go_wp2_with fail
          refine (isWS_any c _).mono ?_
          rintro e w9 ⟨rfl, hw9⟩
          obtain rfl := hw9.symm
          clear hw9
          go_wp2_with (first | (at_builtin; refine wpList_append_fits _ rfl (.tmp 25) (.tmp 26) 33 rfl w.heap.size 5 i 1 Try.underlying33 hi hz1 w.heap.size out.length s.size _ rfl (hown.alloc _) ⟨wr.heap.size, 0, none⟩ 1 1 [.int .u8 32] rfl rfl (cell_one_new _ _ _) (ints_oneCell .u8 [32]) (by omega) ?_; intro w2 hown2 hg2) | (at_builtin; refine wpList_append_fits _ rfl (.tmp 28) (.tmp 30) 33 rfl w.heap.size 5 i 1 Try.underlying33 hi hz1 w.heap.size (out.length + 1) s.size _ rfl (hown2.alloc _) ⟨w2.heap.size, 0, none⟩ 1 1 [.int .u8 (c.toNat : Nat)] rfl rfl (cell_one_new _ _ _) (ints_oneCell .u8 [(c.toNat : Nat)]) (by omega) ?_; intro w3 hown3 hg3))
          have ga := World.grownBy_alloc wr (.cells #[.int .u8 32] 5) none
          have gb := World.grownBy_alloc w2 (.cells #[.int .u8 (c.toNat : Nat)] 5) none
          have HG3 : Hid (w.grownBy w3 none) := grown_own (grown_own (HG.out.trans ga) hg2 (Nat.le_refl _) |>.trans gb) hg3 (Nat.le_refl _)
          have HO3 : Hid (w3.ownsRow w.heap.size 5 1 (.slice (some ⟨w.heap.size, 0, none⟩) (out ++ [32] ++ [c]).length s.size) (out ++ [32] ++ [c]).length ((out ++ [32] ++ [c]).map byteV)) := by
            show World.ownsRow _ _ _ _ _ _ _
            simpa [byteV] using hown3
          clear hown hown2 hown3 hg2 hg3 ga gb
          go_wp2_with fail
          go_roundw
          case rel => exact ⟨k + 1, out ++ [32] ++ [c], false, by omega, by go_num, HN2.out, by simp, rfl, HO3.out, HG3.out⟩
          case measure => simp [intOf]; omega
        | false =>
          have HN2 : Hid (run (s.data.toList.take (k + 1)) = (out ++ [c], false)) := by show _ = _; rw [HN.out]; simp [step, hw]
          clear hlen
          go_wp2_with fail
          refine (isWS_any c _).mono ?_
          rintro e w9 ⟨rfl, hw9⟩
          obtain rfl := hw9.symm
          clear hw9
          go_wp2_with (at_builtin; refine wpList_append_fits _ rfl (.tmp 28) (.tmp 30) 33 rfl w.heap.size 5 i 1 Try.underlying33 hi hz1 w.heap.size out.length s.size _ rfl (hown.alloc _) ⟨wr.heap.size, 0, none⟩ 1 1 [.int .u8 (c.toNat : Nat)] rfl rfl (cell_one_new _ _ _) (ints_oneCell .u8 [(c.toNat : Nat)]) (by omega) ?_; intro w3 hown3 hg3)
          have ga := World.grownBy_alloc wr (.cells #[.int .u8 (c.toNat : Nat)] 5) none
          have HG3 : Hid (w.grownBy w3 none) := grown_own (HG.out.trans ga) hg3 (Nat.le_refl _)
          have HO3 : Hid (w3.ownsRow w.heap.size 5 1 (.slice (some ⟨w.heap.size, 0, none⟩) (out ++ [c]).length s.size) (out ++ [c]).length ((out ++ [c]).map byteV)) := by
            show World.ownsRow _ _ _ _ _ _ _
            simpa [byteV] using hown3
          clear hown hown3 hg3 ga
          go_wp2_with fail
          go_roundw
          case rel => exact ⟨k + 1, out ++ [c], false, by omega, by go_num, HN2.out, by simp, rfl, HO3.out, HG3.out⟩
          case measure => simp [intOf]; omega
    · have hm : model s.data.toList = out := by
        have e : s.data.toList.take k = s.data.toList := List.take_of_length_le (by simp; omega)
        have := HR.out
        rw [e] at this
        simp [model, this]
      have HM : Hid (model s.data.toList = out) := hm
      clear hm
      have hconv := run_convert_bytes_back (P := Try.prog) wr 33 9 5 ⟨w.heap.size, 0, none⟩ s.size out Try.underlying33 Try.underlying5 Try.underlying9 (fun j hj => by
        rw [Addr.add_lit, Nat.zero_add, hown.cellAt j (by omega)]
        simp [byteV, hj])
      clear hown
      go_wp2_with fail
      go_ret
      refine ⟨?_, HG.out⟩
      rw [HM.out]
      rfl

end Go.Proofs.Qxb6000621a
