import Derived.Test.Qxb6000621aStrs
namespace Go.Proofs.Qxb6000621a
open Go.RowKit

/-- what 'ordered' keeps -/
def kept (vs set : List ByteArray) : List ByteArray := vs.filter fun v => memB v set
theorem kept_take_succ (vs set : List ByteArray) (k : Nat) (v : ByteArray) (h : vs[k]? = some v) : kept (vs.take (k + 1)) set = kept (vs.take k) set ++ (if memB v set then [v] else []) := by
  obtain ⟨hlt, e⟩ := List.getElem?_eq_some_iff.1 h
  rw [List.take_succ_eq_append_getElem hlt, e]
  simp only [kept, List.filter_append]
  congr 1
  by_cases hm : memB v set = true
  · simp [hm]
  · simp [hm]
theorem kept_len (vs set : List ByteArray) : (kept vs set).length ≤ vs.length := List.length_filter_le _ _
theorem kept_twice (vs set : List ByteArray) : kept (kept vs set) set = kept vs set := by
  simp [kept, List.filter_filter]
theorem kept_self (vs : List ByteArray) : kept vs vs = vs := by
  unfold kept
  rw [List.filter_eq_self]
  intro v hv
  obtain ⟨k, hk⟩ := List.getElem?_of_mem hv
  exact memB_true hk

theorem one_string (v : ByteArray) : ∀ u ∈ [Value.string v], u.oneCell' = true := by intro u hu; simp at hu; subst hu; rfl
theorem grown_row {w w1 w2 : World} {row : Option Nat} (h : w.grownBy w1 none) (h2 : w1.grownBy w2 row) (hb : ∀ b, row = some b → w.heap.size ≤ b) : w.grownBy w2 none :=
  ⟨h2.os.trans h.os, h2.tape.trans h.tape, h2.output.trans h.output, Nat.le_trans h.size h2.size, fun k hk _ => (h2.block k (Nat.lt_of_lt_of_le hk h.size) (fun e => by have := hb k e.symm; omega)).trans (h.block k hk (by simp))⟩

theorem own_slice {w : World} {base : Nat} {n : Nat} {v : Value} {vs : List Value} (h : w.ownsRow base 9 1 v n vs) : ∃ ao cap, v = .slice ao n cap ∧ Cells w ao vs := by
  have hl := h.1
  rcases h.2 with ⟨rfl, rfl⟩ | ⟨g, cap, cur, rfl, _⟩
  · have : vs = [] := List.eq_nil_of_length_eq_zero (by simpa using hl)
    subst this
    exact ⟨none, 0, rfl, fun k v hv => by simp at hv⟩
  · exact ⟨_, cap, rfl, own_cells h⟩

set_option maxHeartbeats 1000000 in
/-- ordered -/
theorem ordered_any (w : World) (a1 a2 : Option Addr) (c1 c2 : Nat) (vs set : List ByteArray) (h1 : Cells w a1 (vs.map .string)) (h2 : Cells w a2 (set.map .string)) (n1 : vs.length ≤ 1048576) (n2 : set.length ≤ 1048576) :
    Calls Try.prog 24 #[.slice a1 vs.length c1, .slice a2 set.length c2] w fun e w' => ∃ ao cap, e = .returned (.slice ao (kept vs set).length cap) ∧ Cells w' ao ((kept vs set).map .string) ∧ w.grownBy w' none := by
  obtain ⟨i, hi, hz0, hz1, hz2⟩ := info_parts info9
  have H1 : Hid (Cells w a1 (vs.map .string)) := h1
  have H2 : Hid (Cells w a2 (set.map .string)) := h2
  clear h1 h2
  go_enter Try.func24, Try.ntmps24
  go_wp2
  go_loopw [5, 10] (fun s5 s10 wr => ∃ k : Nat, k ≤ vs.length ∧ s10 = .int .i64 k ∧ wr.ownsRow w.heap.size 9 1 s5 (kept (vs.take k) set).length ((kept (vs.take k) set).map .string) ∧ w.grownBy wr none) (fun _ s10 _ => vs.length - (intOf s10).toNat)
  case atStart => exact ⟨0, Nat.zero_le _, rfl, by simpa [kept] using World.ownsRow_nil w w.heap.size 9 1, World.grownBy.refl _ _⟩
  case round =>
    obtain ⟨k, hk, rfl, hown, hg⟩ := hrel
    rename_i s5
    have HG : Hid (w.grownBy wr none) := hg
    have hwz := hg.size
    by_cases hlt : k < vs.length
    · obtain ⟨v, hv⟩ := getD_some hlt
      obtain ⟨b, off, hao, hcv⟩ := (H1.out.grown hg) k (.string v) (by simp [hv])
      subst hao
      have HC2 : Hid (Cells wr a2 (set.map .string)) := H2.out.grown hg
      have hkl : (kept (vs.take k) set).length ≤ k := by have h5 := kept_len (vs.take k) set; have h6 : (vs.take k).length ≤ k := List.length_take_le _ _; omega
      clear hg
      cases hm : memB v set with
      | true =>
        have HN : Hid (kept (vs.take (k + 1)) set = kept (vs.take k) set ++ [v]) := by show _ = _; rw [kept_take_succ vs set k v hv, hm]; rfl
        clear hv
        go_wp2_with fail
        refine (contains_any wr a2 c2 set v HC2.out n2).mono ?_
        rintro e w9 ⟨rfl, hw9⟩
        obtain rfl := hw9.symm
        clear hw9
        go_wp2_with (at_builtin; refine wpList_append_own _ rfl (.tmp 17) (.tmp 19) 22 rfl w.heap.size 9 i _ 1 16 Try.underlying22 hi hz0 hz1 hz2 rfl (by decide) _ _ _ rfl (hown.alloc _) ⟨wr.heap.size, 0, none⟩ 1 1 [.string v] rfl rfl (cell_one_new _ _ _) (one_string v) (by unfold maxLen; omega) (by omega) (by simp; omega) ?_; intro v' w3 hown3 hg3 _)
        have ga := World.grownBy_alloc wr (.cells #[.string v] 9) none
        have HG3 : Hid (w.grownBy w3 none) := grown_row (HG.out.trans ga) hg3 (fun b hb => (hown.lt b hb).1)
        have HO3 : Hid (w3.ownsRow w.heap.size 9 1 v' (kept (vs.take (k + 1)) set).length ((kept (vs.take (k + 1)) set).map .string)) := by
          show World.ownsRow _ _ _ _ _ _ _
          rw [HN.out]
          simpa using hown3
        clear hown hown3 hg3 ga
        go_wp2_with fail
        go_roundw
        case rel => exact ⟨k + 1, by omega, by go_num, HO3.out, HG3.out⟩
        case measure => simp [intOf]; omega
      | false =>
        have HN : Hid (kept (vs.take (k + 1)) set = kept (vs.take k) set) := by show _ = _; rw [kept_take_succ vs set k v hv, hm]; simp
        clear hv
        go_wp2_with fail
        refine (contains_any wr a2 c2 set v HC2.out n2).mono ?_
        rintro e w9 ⟨rfl, hw9⟩
        obtain rfl := hw9.symm
        clear hw9
        go_wp2_with fail
        go_roundw
        case rel => exact ⟨k + 1, by omega, by go_num, by rw [HN.out]; exact hown, HG.out⟩
        case measure => simp [intOf]; omega
    · have e : vs.take k = vs := List.take_of_length_le (by omega)
      rw [e] at hown
      obtain ⟨ao, cap, hv5, hc5⟩ := own_slice hown
      have HC5 : Hid (Cells wr ao ((kept vs set).map .string)) := hc5
      clear hown e hg hc5
      subst hv5
      go_wp2_with fail
      go_ret
      exact ⟨ao, cap, rfl, HC5.out, HG.out⟩

set_option maxHeartbeats 400000 in
/-- ZZordered -/
theorem zzOrdered_any (w : World) (a1 a2 : Option Addr) (c1 c2 : Nat) (vs set : List ByteArray) (h1 : Cells w a1 (vs.map .string)) (h2 : Cells w a2 (set.map .string)) (n1 : vs.length ≤ 1048576) (n2 : set.length ≤ 1048576) :
    Calls Try.prog 13 #[.slice a1 vs.length c1, .slice a2 set.length c2] w fun e w' => ∃ ao cap, e = .returned (.slice ao (kept vs set).length cap) ∧ Cells w' ao ((kept vs set).map .string) ∧ w.grownBy w' none := by
  go_enter Try.func13, Try.ntmps13
  go_wp2_with fail
  refine (ordered_any w a1 a2 c1 c2 vs set h1 h2 n1 n2).mono ?_
  rintro e w' ⟨ao, cap, rfl, hc, hg⟩
  have HC : Hid (Cells w' ao ((kept vs set).map .string)) := hc
  clear hc
  go_wp2_with fail
  go_ret
  exact ⟨ao, cap, rfl, HC.out, hg⟩

set_option maxHeartbeats 400000 in
/-- eqStrs at two slices of the same strings -/
theorem eqStrs_yes (w : World) (a1 a2 : Option Addr) (c1 c2 : Nat) (ss : List ByteArray) (h1 : Cells w a1 (ss.map .string)) (h2 : Cells w a2 (ss.map .string)) (hn : ss.length ≤ 1048576) :
    Calls Try.prog 14 #[.slice a1 ss.length c1, .slice a2 ss.length c2] w fun e w' => e = .returned (.bool true) ∧ ∃ nq, w' = w.drewN nq := by
  have H1 : Hid (Cells w a1 (ss.map .string)) := h1
  have H2 : Hid (Cells w a2 (ss.map .string)) := h2
  clear h1 h2
  go_enter Try.func14, Try.ntmps14
  go_wp2
  go_loopw [5] (fun i wr => ∃ k : Nat, k ≤ ss.length ∧ i = .int .i64 k ∧ ∃ nq, wr = w.drewN nq) (fun i _ => ss.length - (intOf i).toNat)
  case atStart => exact ⟨0, Nat.zero_le _, rfl, 0, rfl⟩
  case round =>
    obtain ⟨k, hk, rfl, nq, rfl⟩ := hrel
    by_cases hlt : k < ss.length
    · obtain ⟨s, hs⟩ := getD_some hlt
      obtain ⟨b1, o1, ha1, hc1⟩ := H1.out k (.string s) (by simp [hs])
      obtain ⟨b2, o2, ha2, hc2⟩ := H2.out k (.string s) (by simp [hs])
      subst ha1 ha2
      have hse := str_eq_mk s
      have hkl : (k : Int) < (ss.length : Int) := by omega
      clear hs
      go_wp2
      go_quiet (fail)
      go_wp2
      go_roundw
      case rel => exact ⟨k + 1, by omega, by go_num, _, rfl⟩
      case measure => simp [intOf]; omega
    · go_wp2
      go_ret
      exact ⟨rfl, _, rfl⟩

set_option maxHeartbeats 400000 in
/-- strsBytes -/
theorem strsBytes_any (w : World) (ao : Option Addr) (cap : Nat) (ss : List ByteArray) (hc : Cells w ao (ss.map .string)) (hn : ss.length ≤ 4096) (ht : tot ss ≤ 1048576) :
    Calls Try.prog 11 #[.slice ao ss.length cap] w fun e w' => e = .returned (.int .i64 (16 * ss.length + tot ss : Nat)) ∧ w' = w := by
  have HC : Hid (Cells w ao (ss.map .string)) := hc
  clear hc
  go_enter Try.func11, Try.ntmps11
  go_wp2
  go_loop [3, 4] (fun t i => ∃ k : Nat, k ≤ ss.length ∧ i = .int .i64 k ∧ t = .int .i64 (16 * k + tot (ss.take k) : Nat)) (fun _ i => ss.length - (intOf i).toNat)
  case atStart => exact ⟨0, Nat.zero_le _, rfl, by simp [tot_nil]⟩
  case round =>
    obtain ⟨k, hk, rfl, rfl⟩ := hrel
    have hle := tot_take_le ss k
    by_cases hlt : k < ss.length
    · obtain ⟨s, hs⟩ := getD_some hlt
      obtain ⟨b, off, hao, hcc⟩ := HC.out k (.string s) (by simp [hs])
      subst hao
      have hle2 := tot_take_le ss (k + 1)
      have HS : Hid (tot (ss.take (k + 1)) = tot (ss.take k) + s.size) := tot_take_succ ss k s hs
      have hb : tot (ss.take k) + s.size ≤ 1048576 := by have := HS.out; omega
      clear hs hle2
      go_wp2
      go_round
      case rel => exact ⟨k + 1, by omega, by go_num, by rw [HS.out]; go_num⟩
      case measure => simp [intOf]; omega
    · go_wp2
      go_ret
      have e1 : ss.take k = ss := List.take_of_length_le (by omega)
      have e2 : k = ss.length := by omega
      rw [e1, e2]
      exact ⟨rfl, rfl⟩

/-- all lengths together -/
def allLen (vs set : List ByteArray) : Nat := vs.length + tot vs + set.length + tot set

set_option maxHeartbeats 1000000 in
/-- zzBytes_FnOrderedIdempotentAndKeepsAll -/
theorem bytes18_any (w : World) (a1 a3 : Option Addr) (c1 c3 : Nat) (ws qw : List ByteArray)
    (h1 : Cells w a1 (ws.map .string)) (h3 : Cells w a3 (qw.map .string)) (z1 : ∀ s ∈ ws, s.size ≤ 9223372036854775807) (z3 : ∀ s ∈ qw, s.size ≤ 9223372036854775807)
    (n1 : ws.length ≤ 9223372036854775807) (n3 : qw.length ≤ 9223372036854775807) :
    Calls Try.prog 18 #[.slice a1 ws.length c1, .slice a3 qw.length c3] w fun e w' => e = .returned (.bool (decide (allLen ws qw ≤ 1048576))) ∧ w' = w := by
  have NO : Hid (1048576 < allLen ws qw → Ending.returned (.bool false) = .returned (.bool (decide (allLen ws qw ≤ 1048576)))) := fun h => by rw [decide_eq_false (by omega)]
  have HA : Hid (allLen ws qw = ws.length + tot ws + qw.length + tot qw) := rfl
  have H1 : Hid (Cells w a1 (ws.map .string)) := h1
  have H3 : Hid (Cells w a3 (qw.map .string)) := h3
  clear h1 h3
  by_cases b1 : 1048576 < ws.length
  · go_enter Try.func18, Try.ntmps18
    go_wp2
    go_ret
    exact ⟨NO.out (by rw [HA.out]; omega), rfl⟩
  · go_enter Try.func18, Try.ntmps18
    go_wp2
    go_loop [5, 6] (fun t i => ∃ k : Nat, k ≤ ws.length ∧ i = .int .i64 k ∧ t = .int .i64 (ws.length + tot (ws.take k) : Nat) ∧ ws.length + tot (ws.take k) ≤ 1048576) (fun _ i => ws.length - (intOf i).toNat)
    case atStart => exact ⟨0, Nat.zero_le _, rfl, by simp [tot_nil], by simp [tot_nil]; omega⟩
    case round =>
      obtain ⟨k, hk, rfl, rfl, hb⟩ := hrel
      by_cases hlt : k < ws.length
      · obtain ⟨s, hs⟩ := getD_some hlt
        obtain ⟨b, off, hao, hcc⟩ := H1.out k (.string s) (by simp [hs])
        subst hao
        have hle2 := tot_take_le ws (k + 1)
        have HS : Hid (tot (ws.take (k + 1)) = tot (ws.take k) + s.size) := tot_take_succ ws k s hs
        have hsz := z1 s (List.mem_of_getElem? hs)
        have HL : Hid (tot (ws.take k) + s.size ≤ tot ws) := by have := HS.out; rw [← this]; exact hle2
        clear hs hle2
        by_cases h2 : 1048576 < s.size
        · go_wp2
          go_ret
          exact ⟨NO.out (by have := HL.out; rw [HA.out]; omega), rfl⟩
        · by_cases h3 : 1048576 < ws.length + tot (ws.take k) + s.size
          · go_wp2
            go_ret
            exact ⟨NO.out (by have := HL.out; rw [HA.out]; omega), rfl⟩
          · go_wp2
            go_round
            case rel => exact ⟨k + 1, by omega, by go_num, by rw [HS.out]; go_num, by rw [HS.out]; omega⟩
            case measure => simp [intOf]; omega
      · have e : ws.take k = ws := List.take_of_length_le (by omega)
        rw [e] at hb ⊢
        clear e
        by_cases b4 : 1048576 < qw.length
        · go_wp2
          go_ret
          exact ⟨NO.out (by rw [HA.out]; omega), rfl⟩
        by_cases b5 : 1048576 < ws.length + tot ws + qw.length
        · go_wp2
          go_ret
          exact ⟨NO.out (by rw [HA.out]; omega), rfl⟩
        go_wp2
        go_loop [5, 7] (fun t i => ∃ k : Nat, k ≤ qw.length ∧ i = .int .i64 k ∧ t = .int .i64 (ws.length + tot ws + qw.length + tot (qw.take k) : Nat) ∧ ws.length + tot ws + qw.length + tot (qw.take k) ≤ 1048576) (fun _ i => qw.length - (intOf i).toNat)
        case atStart => exact ⟨0, Nat.zero_le _, rfl, by simp [tot_nil], by simp [tot_nil]; omega⟩
        case round =>
          obtain ⟨k, hk, rfl, rfl, hb⟩ := hrel
          by_cases hlt : k < qw.length
          · obtain ⟨s, hs⟩ := getD_some hlt
            obtain ⟨b, off, hao, hcc⟩ := H3.out k (.string s) (by simp [hs])
            subst hao
            have hle2 := tot_take_le qw (k + 1)
            have HS : Hid (tot (qw.take (k + 1)) = tot (qw.take k) + s.size) := tot_take_succ qw k s hs
            have hsz := z3 s (List.mem_of_getElem? hs)
            have HL : Hid (tot (qw.take k) + s.size ≤ tot qw) := by have := HS.out; rw [← this]; exact hle2
            clear hs hle2
            by_cases h2 : 1048576 < s.size
            · go_wp2
              go_ret
              exact ⟨NO.out (by have := HL.out; rw [HA.out]; omega), rfl⟩
            · by_cases h3 : 1048576 < ws.length + tot ws + qw.length + tot (qw.take k) + s.size
              · go_wp2
                go_ret
                exact ⟨NO.out (by have := HL.out; rw [HA.out]; omega), rfl⟩
              · go_wp2
                go_round
                case rel => exact ⟨k + 1, by omega, by go_num, by rw [HS.out]; go_num, by rw [HS.out]; omega⟩
                case measure => simp [intOf]; omega
          · have e : qw.take k = qw := List.take_of_length_le (by omega)
            rw [e] at hb ⊢
            clear e
            have YES : Hid (Ending.returned (.bool true) = .returned (.bool (decide (allLen ws qw ≤ 1048576)))) := by show _ = _; rw [decide_eq_true (by rw [HA.out]; omega)]
            go_wp2
            go_ret
            exact ⟨YES.out, rfl⟩

set_option maxHeartbeats 1000000 in
theorem ord_main (w : World) (a1 a2 : Option Addr) (c1 c2 : Nat) (vs set : List ByteArray) (h1 : Cells w a1 (vs.map .string)) (h2 : Cells w a2 (set.map .string)) (e1 : a1 = none → vs = [] ∧ c1 = 0) (e2 : a2 = none → set = [] ∧ c2 = 0)
    (z1 : ∀ s ∈ vs, s.size ≤ 9223372036854775807) (z2 : ∀ s ∈ set, s.size ≤ 9223372036854775807) (b1 : allLen vs set ≤ 1048576) (n1 : vs.length ≤ 4096) (n2 : set.length ≤ 4096) (b2 : 16 * vs.length + tot vs + (16 * set.length + tot set) ≤ 1048576) :
    Calls Try.prog 5 #[.slice a1 vs.length c1, .slice a2 set.length c2] w fun e w' => e = .returned (.bool true) ∧ w.grownBy w' none := by
  have hd : decide (allLen vs set ≤ 1048576) = true := decide_eq_true b1
  have hkl := kept_len vs set
  have HK2 : Hid (kept (kept vs set) set = kept vs set) := kept_twice vs set
  have HKS : Hid (kept vs vs = vs) := kept_self vs
  clear b1
  go_enter Try.func5, Try.ntmps5
  go_wp2_with fail
  refine (bytes18_any w a1 a2 c1 c2 vs set h1 h2 z1 z2 (by omega) (by omega)).mono ?_
  rintro e w' ⟨rfl, hw⟩
  obtain rfl := hw.symm
  clear hw
  go_wp2_with fail
  refine (strsBytes_any w a1 c1 vs h1 n1 (by omega)).mono ?_
  rintro e w' ⟨rfl, hw⟩
  obtain rfl := hw.symm
  clear hw
  go_wp2_with fail
  refine (strsBytes_any w a2 c2 set h2 n2 (by omega)).mono ?_
  rintro e w' ⟨rfl, hw⟩
  obtain rfl := hw.symm
  clear hw
  go_wp2_with fail
  refine (copyStrs_all w a1 c1 vs h1 e1 (by omega)).mono ?_
  rintro e w1 ⟨p1, k1, rfl, q1, g1⟩
  go_wp2_with fail
  refine (copyStrs_all w1 a2 c2 set (h2.grown g1) e2 (by omega)).mono ?_
  rintro e w2 ⟨p2, k2, rfl, q2, g2⟩
  go_wp2_with fail
  refine (zzOrdered_any w2 p1 p2 k1 k2 vs set (q1.grown g2) q2 (by omega) (by omega)).mono ?_
  rintro e w3 ⟨p3, k3, rfl, q3, g3⟩
  go_wp2_with fail
  refine (zzOrdered_any w3 p3 p2 k3 k2 (kept vs set) set q3 (q2.grown g3) (by omega) (by omega)).mono ?_
  rintro e w4 ⟨p4, k4, rfl, q4, g4⟩
  rw [HK2.out] at q4 ⊢
  go_wp2_with fail
  refine (eqStrs_yes w4 p4 p3 k4 k3 (kept vs set) q4 (q3.grown g4) (by omega)).mono ?_
  rintro e w5 ⟨rfl, nq, hw5⟩
  have g5 : w4.grownBy w5 none := by rw [hw5]; exact ⟨rfl, rfl, rfl, Nat.le_refl _, fun _ _ _ => rfl⟩
  clear hw5
  go_wp2_with fail
  refine (zzOrdered_any w5 p1 p1 k1 k1 vs vs ((((q1.grown g2).grown g3).grown g4).grown g5) ((((q1.grown g2).grown g3).grown g4).grown g5) (by omega) (by omega)).mono ?_
  rintro e w6 ⟨p6, k6, rfl, q6, g6⟩
  rw [HKS.out] at q6 ⊢
  go_wp2_with fail
  refine (eqStrs_yes w6 p6 p1 k6 k1 vs q6 (((((q1.grown g2).grown g3).grown g4).grown g5).grown g6) (by omega)).mono ?_
  rintro e w7 ⟨rfl, nq, hw7⟩
  have g7 : w6.grownBy w7 none := by rw [hw7]; exact ⟨rfl, rfl, rfl, Nat.le_refl _, fun _ _ _ => rfl⟩
  clear hw7
  have HF : Hid (w.grownBy w7 none) := (((((g1.trans g2).trans g3).trans g4).trans g5).trans g6).trans g7
  clear q1 q2 q3 q4 q6 g1 g2 g3 g4 g5 g6 g7 h1 h2
  go_wp2_with fail
  go_ret
  exact ⟨rfl, HF.out⟩

set_option maxHeartbeats 1000000 in
theorem ord_law (w : World) (a1 a2 : Option Addr) (c1 c2 : Nat) (vs set : List ByteArray) (h1 : Cells w a1 (vs.map .string)) (h2 : Cells w a2 (set.map .string)) (e1 : a1 = none → vs = [] ∧ c1 = 0) (e2 : a2 = none → set = [] ∧ c2 = 0)
    (z1 : ∀ s ∈ vs, s.size ≤ 9223372036854775807) (z2 : ∀ s ∈ set, s.size ≤ 9223372036854775807) (n1 : vs.length ≤ 9223372036854775807) (n2 : set.length ≤ 9223372036854775807) :
    Calls Try.prog 5 #[.slice a1 vs.length c1, .slice a2 set.length c2] w fun e w' => e = .returned (.bool true) ∧ w.grownBy w' none := by
  by_cases b1 : allLen vs set ≤ 1048576
  · have hd : decide (allLen vs set ≤ 1048576) = true := decide_eq_true b1
    have t1 : tot vs ≤ 1048576 := by unfold allLen at b1; omega
    have t2 : tot set ≤ 1048576 := by unfold allLen at b1; omega
    by_cases m1 : 4096 < vs.length
    · clear b1
      go_enter Try.func5, Try.ntmps5
      go_wp2_with fail
      refine (bytes18_any w a1 a2 c1 c2 vs set h1 h2 z1 z2 n1 n2).mono ?_
      rintro e w' ⟨rfl, hw⟩
      obtain rfl := hw.symm
      clear hw
      go_wp2_with fail
      go_ret
      exact ⟨rfl, World.grownBy.refl _ _⟩
    by_cases m2 : 4096 < set.length
    · clear b1
      go_enter Try.func5, Try.ntmps5
      go_wp2_with fail
      refine (bytes18_any w a1 a2 c1 c2 vs set h1 h2 z1 z2 n1 n2).mono ?_
      rintro e w' ⟨rfl, hw⟩
      obtain rfl := hw.symm
      clear hw
      go_wp2_with fail
      go_ret
      exact ⟨rfl, World.grownBy.refl _ _⟩
    by_cases b2 : 16 * vs.length + tot vs + (16 * set.length + tot set) ≤ 1048576
    · exact ord_main w a1 a2 c1 c2 vs set h1 h2 e1 e2 z1 z2 b1 (by omega) (by omega) b2
    · clear b1
      go_enter Try.func5, Try.ntmps5
      go_wp2_with fail
      refine (bytes18_any w a1 a2 c1 c2 vs set h1 h2 z1 z2 n1 n2).mono ?_
      rintro e w' ⟨rfl, hw⟩
      obtain rfl := hw.symm
      clear hw
      go_wp2_with fail
      refine (strsBytes_any w a1 c1 vs h1 (by omega) t1).mono ?_
      rintro e w' ⟨rfl, hw⟩
      obtain rfl := hw.symm
      clear hw
      go_wp2_with fail
      refine (strsBytes_any w a2 c2 set h2 (by omega) t2).mono ?_
      rintro e w' ⟨rfl, hw⟩
      obtain rfl := hw.symm
      clear hw
      go_wp2_with fail
      go_ret
      exact ⟨rfl, World.grownBy.refl _ _⟩
  · have hd : decide (allLen vs set ≤ 1048576) = false := decide_eq_false b1
    clear b1
    go_enter Try.func5, Try.ntmps5
    go_wp2_with fail
    refine (bytes18_any w a1 a2 c1 c2 vs set h1 h2 z1 z2 n1 n2).mono ?_
    rintro e w' ⟨rfl, hw⟩
    obtain rfl := hw.symm
    clear hw
    go_wp2_with fail
    go_ret
    exact ⟨rfl, World.grownBy.refl _ _⟩

end Go.Proofs.Qxb6000621a
