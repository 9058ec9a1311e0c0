import Derived.Test.Qxb6000555aHelp
namespace Go.Proofs.Qxb6000555a
open Go.RowKit Go.Maps

/-- all lengths together -/
def allLen (ws : List ByteArray) (ys : List Int) (qw : List ByteArray) (qy : List Int) : Nat := ws.length + tot ws + ys.length + qw.length + tot qw + qy.length

set_option maxHeartbeats 1000000 in
/-- zzBytes_FnRowForAnswersARowOfThatYear -/
theorem bytes25_any (w : World) (a1 a2 a3 a4 : Option Addr) (c1 c2 c3 c4 : Nat) (ws : List ByteArray) (ys : List Int) (qw : List ByteArray) (qy : List Int)
    (h1 : Cells w a1 (ws.map .string)) (h3 : Cells w a3 (qw.map .string)) (z1 : ∀ s ∈ ws, s.size ≤ 9223372036854775807) (z3 : ∀ s ∈ qw, s.size ≤ 9223372036854775807)
    (n1 : ws.length ≤ 9223372036854775807) (n2 : ys.length ≤ 9223372036854775807) (n3 : qw.length ≤ 9223372036854775807) (n4 : qy.length ≤ 9223372036854775807) :
    Calls Try.prog 25 #[.slice a1 ws.length c1, .slice a2 ys.length c2, .slice a3 qw.length c3, .slice a4 qy.length c4] w fun e w' => e = .returned (.bool (decide (allLen ws ys qw qy ≤ 1048576))) ∧ w' = w := by
  have NO : Hid (1048576 < allLen ws ys qw qy → Ending.returned (.bool false) = .returned (.bool (decide (allLen ws ys qw qy ≤ 1048576)))) := fun h => by rw [decide_eq_false (by omega)]
  have HA : Hid (allLen ws ys qw qy = ws.length + tot ws + ys.length + qw.length + tot qw + qy.length) := rfl
  have H1 : Hid (Cells w a1 (ws.map .string)) := h1
  have H3 : Hid (Cells w a3 (qw.map .string)) := h3
  clear h1 h3
  by_cases b1 : 1048576 < ws.length
  · go_enter Try.func25, Try.ntmps25
    go_wp2
    go_ret
    exact ⟨NO.out (by rw [HA.out]; omega), rfl⟩
  · go_enter Try.func25, Try.ntmps25
    go_wp2
    go_loop [9, 10] (fun t i => ∃ k : Nat, k ≤ ws.length ∧ i = .int .i64 k ∧ t = .int .i64 (ws.length + tot (ws.take k) : Nat) ∧ ws.length + tot (ws.take k) ≤ 1048576) (fun _ i => ws.length - (intOf i).toNat)
    case atStart => exact ⟨0, Nat.zero_le _, rfl, by simp [tot_nil], by simp [tot_nil]; omega⟩
    case round =>
      obtain ⟨k, hk, rfl, rfl, hb⟩ := hrel
      by_cases hlt : k < ws.length
      · obtain ⟨s, hs⟩ := getD_some hlt
        obtain ⟨b, off, hao, hcc⟩ := H1.out k (.string s) (by simp [hs])
        subst hao
        have hle2 := tot_take_le ws (k + 1)
        have HS : Hid (tot (ws.take (k + 1)) = tot (ws.take k) + s.size) := tot_take_succ ws k s hs
        have hsz := z1 s (List.mem_of_getElem? hs)
        have HL : Hid (tot (ws.take k) + s.size ≤ tot ws) := by have := HS.out; rw [← this]; exact hle2
        clear hs hle2
        by_cases h2 : 1048576 < s.size
        · go_wp2
          go_ret
          exact ⟨NO.out (by have := HL.out; rw [HA.out]; omega), rfl⟩
        · by_cases h3 : 1048576 < ws.length + tot (ws.take k) + s.size
          · go_wp2
            go_ret
            exact ⟨NO.out (by have := HL.out; rw [HA.out]; omega), rfl⟩
          · go_wp2
            go_round
            case rel => exact ⟨k + 1, by omega, by go_num, by rw [HS.out]; go_num, by rw [HS.out]; omega⟩
            case measure => simp [intOf]; omega
      · have e : ws.take k = ws := List.take_of_length_le (by omega)
        rw [e] at hb ⊢
        clear e
        by_cases b2 : 1048576 < ys.length
        · go_wp2
          go_ret
          exact ⟨NO.out (by rw [HA.out]; omega), rfl⟩
        by_cases b3 : 1048576 < ws.length + tot ws + ys.length
        · go_wp2
          go_ret
          exact ⟨NO.out (by rw [HA.out]; omega), rfl⟩
        by_cases b4 : 1048576 < qw.length
        · go_wp2
          go_ret
          exact ⟨NO.out (by rw [HA.out]; omega), rfl⟩
        by_cases b5 : 1048576 < ws.length + tot ws + ys.length + qw.length
        · go_wp2
          go_ret
          exact ⟨NO.out (by rw [HA.out]; omega), rfl⟩
        go_wp2
        go_loop [9, 11] (fun t i => ∃ k : Nat, k ≤ qw.length ∧ i = .int .i64 k ∧ t = .int .i64 (ws.length + tot ws + ys.length + qw.length + tot (qw.take k) : Nat) ∧ ws.length + tot ws + ys.length + qw.length + tot (qw.take k) ≤ 1048576) (fun _ i => qw.length - (intOf i).toNat)
        case atStart => exact ⟨0, Nat.zero_le _, rfl, by simp [tot_nil], by simp [tot_nil]; omega⟩
        case round =>
          obtain ⟨k, hk, rfl, rfl, hb⟩ := hrel
          by_cases hlt : k < qw.length
          · obtain ⟨s, hs⟩ := getD_some hlt
            obtain ⟨b, off, hao, hcc⟩ := H3.out k (.string s) (by simp [hs])
            subst hao
            have hle2 := tot_take_le qw (k + 1)
            have HS : Hid (tot (qw.take (k + 1)) = tot (qw.take k) + s.size) := tot_take_succ qw k s hs
            have hsz := z3 s (List.mem_of_getElem? hs)
            have HL : Hid (tot (qw.take k) + s.size ≤ tot qw) := by have := HS.out; rw [← this]; exact hle2
            clear hs hle2
            by_cases h2 : 1048576 < s.size
            · go_wp2
              go_ret
              exact ⟨NO.out (by have := HL.out; rw [HA.out]; omega), rfl⟩
            · by_cases h3 : 1048576 < ws.length + tot ws + ys.length + qw.length + tot (qw.take k) + s.size
              · go_wp2
                go_ret
                exact ⟨NO.out (by have := HL.out; rw [HA.out]; omega), rfl⟩
              · go_wp2
                go_round
                case rel => exact ⟨k + 1, by omega, by go_num, by rw [HS.out]; go_num, by rw [HS.out]; omega⟩
                case measure => simp [intOf]; omega
          · have e : qw.take k = qw := List.take_of_length_le (by omega)
            rw [e] at hb ⊢
            clear e
            by_cases b6 : 1048576 < qy.length
            · go_wp2
              go_ret
              exact ⟨NO.out (by rw [HA.out]; omega), rfl⟩
            by_cases b7 : 1048576 < ws.length + tot ws + ys.length + qw.length + tot qw + qy.length
            · go_wp2
              go_ret
              exact ⟨NO.out (by rw [HA.out]; omega), rfl⟩
            have YES : Hid (Ending.returned (.bool true) = .returned (.bool (decide (allLen ws ys qw qy ≤ 1048576)))) := by show _ = _; rw [decide_eq_true (by rw [HA.out]; omega)]
            go_wp2
            go_ret
            exact ⟨YES.out, rfl⟩

set_option maxHeartbeats 1000000 in
/-- zzBytes_FnRowForExactWithoutRepeats -/
theorem bytes27_any (w : World) (a1 a2 a3 a4 : Option Addr) (c1 c2 c3 c4 : Nat) (ws : List ByteArray) (ys : List Int) (qw : List ByteArray) (qy : List Int)
    (h1 : Cells w a1 (ws.map .string)) (h3 : Cells w a3 (qw.map .string)) (z1 : ∀ s ∈ ws, s.size ≤ 9223372036854775807) (z3 : ∀ s ∈ qw, s.size ≤ 9223372036854775807)
    (n1 : ws.length ≤ 9223372036854775807) (n2 : ys.length ≤ 9223372036854775807) (n3 : qw.length ≤ 9223372036854775807) (n4 : qy.length ≤ 9223372036854775807) :
    Calls Try.prog 27 #[.slice a1 ws.length c1, .slice a2 ys.length c2, .slice a3 qw.length c3, .slice a4 qy.length c4] w fun e w' => e = .returned (.bool (decide (allLen ws ys qw qy ≤ 1048576))) ∧ w' = w := by
  have NO : Hid (1048576 < allLen ws ys qw qy → Ending.returned (.bool false) = .returned (.bool (decide (allLen ws ys qw qy ≤ 1048576)))) := fun h => by rw [decide_eq_false (by omega)]
  have HA : Hid (allLen ws ys qw qy = ws.length + tot ws + ys.length + qw.length + tot qw + qy.length) := rfl
  have H1 : Hid (Cells w a1 (ws.map .string)) := h1
  have H3 : Hid (Cells w a3 (qw.map .string)) := h3
  clear h1 h3
  by_cases b1 : 1048576 < ws.length
  · go_enter Try.func27, Try.ntmps27
    go_wp2
    go_ret
    exact ⟨NO.out (by rw [HA.out]; omega), rfl⟩
  · go_enter Try.func27, Try.ntmps27
    go_wp2
    go_loop [9, 10] (fun t i => ∃ k : Nat, k ≤ ws.length ∧ i = .int .i64 k ∧ t = .int .i64 (ws.length + tot (ws.take k) : Nat) ∧ ws.length + tot (ws.take k) ≤ 1048576) (fun _ i => ws.length - (intOf i).toNat)
    case atStart => exact ⟨0, Nat.zero_le _, rfl, by simp [tot_nil], by simp [tot_nil]; omega⟩
    case round =>
      obtain ⟨k, hk, rfl, rfl, hb⟩ := hrel
      by_cases hlt : k < ws.length
      · obtain ⟨s, hs⟩ := getD_some hlt
        obtain ⟨b, off, hao, hcc⟩ := H1.out k (.string s) (by simp [hs])
        subst hao
        have hle2 := tot_take_le ws (k + 1)
        have HS : Hid (tot (ws.take (k + 1)) = tot (ws.take k) + s.size) := tot_take_succ ws k s hs
        have hsz := z1 s (List.mem_of_getElem? hs)
        have HL : Hid (tot (ws.take k) + s.size ≤ tot ws) := by have := HS.out; rw [← this]; exact hle2
        clear hs hle2
        by_cases h2 : 1048576 < s.size
        · go_wp2
          go_ret
          exact ⟨NO.out (by have := HL.out; rw [HA.out]; omega), rfl⟩
        · by_cases h3 : 1048576 < ws.length + tot (ws.take k) + s.size
          · go_wp2
            go_ret
            exact ⟨NO.out (by have := HL.out; rw [HA.out]; omega), rfl⟩
          · go_wp2
            go_round
            case rel => exact ⟨k + 1, by omega, by go_num, by rw [HS.out]; go_num, by rw [HS.out]; omega⟩
            case measure => simp [intOf]; omega
      · have e : ws.take k = ws := List.take_of_length_le (by omega)
        rw [e] at hb ⊢
        clear e
        by_cases b2 : 1048576 < ys.length
        · go_wp2
          go_ret
          exact ⟨NO.out (by rw [HA.out]; omega), rfl⟩
        by_cases b3 : 1048576 < ws.length + tot ws + ys.length
        · go_wp2
          go_ret
          exact ⟨NO.out (by rw [HA.out]; omega), rfl⟩
        by_cases b4 : 1048576 < qw.length
        · go_wp2
          go_ret
          exact ⟨NO.out (by rw [HA.out]; omega), rfl⟩
        by_cases b5 : 1048576 < ws.length + tot ws + ys.length + qw.length
        · go_wp2
          go_ret
          exact ⟨NO.out (by rw [HA.out]; omega), rfl⟩
        go_wp2
        go_loop [9, 11] (fun t i => ∃ k : Nat, k ≤ qw.length ∧ i = .int .i64 k ∧ t = .int .i64 (ws.length + tot ws + ys.length + qw.length + tot (qw.take k) : Nat) ∧ ws.length + tot ws + ys.length + qw.length + tot (qw.take k) ≤ 1048576) (fun _ i => qw.length - (intOf i).toNat)
        case atStart => exact ⟨0, Nat.zero_le _, rfl, by simp [tot_nil], by simp [tot_nil]; omega⟩
        case round =>
          obtain ⟨k, hk, rfl, rfl, hb⟩ := hrel
          by_cases hlt : k < qw.length
          · obtain ⟨s, hs⟩ := getD_some hlt
            obtain ⟨b, off, hao, hcc⟩ := H3.out k (.string s) (by simp [hs])
            subst hao
            have hle2 := tot_take_le qw (k + 1)
            have HS : Hid (tot (qw.take (k + 1)) = tot (qw.take k) + s.size) := tot_take_succ qw k s hs
            have hsz := z3 s (List.mem_of_getElem? hs)
            have HL : Hid (tot (qw.take k) + s.size ≤ tot qw) := by have := HS.out; rw [← this]; exact hle2
            clear hs hle2
            by_cases h2 : 1048576 < s.size
            · go_wp2
              go_ret
              exact ⟨NO.out (by have := HL.out; rw [HA.out]; omega), rfl⟩
            · by_cases h3 : 1048576 < ws.length + tot ws + ys.length + qw.length + tot (qw.take k) + s.size
              · go_wp2
                go_ret
                exact ⟨NO.out (by have := HL.out; rw [HA.out]; omega), rfl⟩
              · go_wp2
                go_round
                case rel => exact ⟨k + 1, by omega, by go_num, by rw [HS.out]; go_num, by rw [HS.out]; omega⟩
                case measure => simp [intOf]; omega
          · have e : qw.take k = qw := List.take_of_length_le (by omega)
            rw [e] at hb ⊢
            clear e
            by_cases b6 : 1048576 < qy.length
            · go_wp2
              go_ret
              exact ⟨NO.out (by rw [HA.out]; omega), rfl⟩
            by_cases b7 : 1048576 < ws.length + tot ws + ys.length + qw.length + tot qw + qy.length
            · go_wp2
              go_ret
              exact ⟨NO.out (by rw [HA.out]; omega), rfl⟩
            have YES : Hid (Ending.returned (.bool true) = .returned (.bool (decide (allLen ws ys qw qy ≤ 1048576)))) := by show _ = _; rw [decide_eq_true (by rw [HA.out]; omega)]
            go_wp2
            go_ret
            exact ⟨YES.out, rfl⟩

set_option maxHeartbeats 1000000 in
/-- zzBytes_FnAddKeepsRowsAndLinks -/
theorem bytes17_any (w : World) (a1 a2 : Option Addr) (c1 c2 : Nat) (ws : List ByteArray) (ys : List Int)
    (h1 : Cells w a1 (ws.map .string)) (z1 : ∀ s ∈ ws, s.size ≤ 9223372036854775807) (n1 : ws.length ≤ 9223372036854775807) (n2 : ys.length ≤ 9223372036854775807) :
    Calls Try.prog 17 #[.slice a1 ws.length c1, .slice a2 ys.length c2] w fun e w' => e = .returned (.bool (decide (ws.length + tot ws + ys.length ≤ 1048576))) ∧ w' = w := by
  have NO : Hid (1048576 < ws.length + tot ws + ys.length → Ending.returned (.bool false) = .returned (.bool (decide (ws.length + tot ws + ys.length ≤ 1048576)))) := fun h => by rw [decide_eq_false (by omega)]
  have H1 : Hid (Cells w a1 (ws.map .string)) := h1
  clear h1
  by_cases b1 : 1048576 < ws.length
  · go_enter Try.func17, Try.ntmps17
    go_wp2
    go_ret
    exact ⟨NO.out (by omega), rfl⟩
  · go_enter Try.func17, Try.ntmps17
    go_wp2
    go_loop [5, 6] (fun t i => ∃ k : Nat, k ≤ ws.length ∧ i = .int .i64 k ∧ t = .int .i64 (ws.length + tot (ws.take k) : Nat) ∧ ws.length + tot (ws.take k) ≤ 1048576) (fun _ i => ws.length - (intOf i).toNat)
    case atStart => exact ⟨0, Nat.zero_le _, rfl, by simp [tot_nil], by simp [tot_nil]; omega⟩
    case round =>
      obtain ⟨k, hk, rfl, rfl, hb⟩ := hrel
      by_cases hlt : k < ws.length
      · obtain ⟨s, hs⟩ := getD_some hlt
        obtain ⟨b, off, hao, hcc⟩ := H1.out k (.string s) (by simp [hs])
        subst hao
        have hle2 := tot_take_le ws (k + 1)
        have HS : Hid (tot (ws.take (k + 1)) = tot (ws.take k) + s.size) := tot_take_succ ws k s hs
        have hsz := z1 s (List.mem_of_getElem? hs)
        have HL : Hid (tot (ws.take k) + s.size ≤ tot ws) := by have := HS.out; rw [← this]; exact hle2
        clear hs hle2
        by_cases h2 : 1048576 < s.size
        · go_wp2
          go_ret
          exact ⟨NO.out (by have := HL.out; omega), rfl⟩
        · by_cases h3 : 1048576 < ws.length + tot (ws.take k) + s.size
          · go_wp2
            go_ret
            exact ⟨NO.out (by have := HL.out; omega), rfl⟩
          · go_wp2
            go_round
            case rel => exact ⟨k + 1, by omega, by go_num, by rw [HS.out]; go_num, by rw [HS.out]; omega⟩
            case measure => simp [intOf]; omega
      · have e : ws.take k = ws := List.take_of_length_le (by omega)
        rw [e] at hb ⊢
        clear e
        by_cases b2 : 1048576 < ys.length
        · go_wp2
          go_ret
          exact ⟨NO.out (by omega), rfl⟩
        by_cases b3 : 1048576 < ws.length + tot ws + ys.length
        · go_wp2
          go_ret
          exact ⟨NO.out (by omega), rfl⟩
        have YES : Hid (Ending.returned (.bool true) = .returned (.bool (decide (ws.length + tot ws + ys.length ≤ 1048576)))) := by show _ = _; rw [decide_eq_true (by omega)]
        go_wp2
        go_ret
        exact ⟨YES.out, rfl⟩

end Go.Proofs.Qxb6000555a
