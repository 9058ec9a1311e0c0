import Derived.Test.Qxb6000555aHelp
import Derived.Test.Qxb6000555aBytes
namespace Go.Proofs.Qxb6000555a
open Go.RowKit Go.Maps

set_option maxRecDepth 100000 in
set_option maxHeartbeats 1000000 in
theorem law4_far (w : World) (a1 a2 a3 a4 : Option Addr) (c1 c2 c3 c4 : Nat) (ws : List ByteArray) (ys : List Int) (qw : List ByteArray) (qy : List Int)
    (h1 : Cells w a1 (ws.map .string)) (h3 : Cells w a3 (qw.map .string)) (z1 : ∀ s ∈ ws, s.size ≤ 9223372036854775807) (z3 : ∀ s ∈ qw, s.size ≤ 9223372036854775807)
    (n1 : ws.length ≤ 9223372036854775807) (n2 : ys.length ≤ 9223372036854775807) (n3 : qw.length ≤ 9223372036854775807) (n4 : qy.length ≤ 9223372036854775807)
    (b1 : ¬ allLen ws ys qw qy ≤ 1048576) :
    Calls Try.prog 6 #[.slice a1 ws.length c1, .slice a2 ys.length c2, .slice a3 qw.length c3, .slice a4 qy.length c4] w fun e w' => e = .returned (.bool true) ∧ Below w.heap.size w w' := by
  have hd : decide (allLen ws ys qw qy ≤ 1048576) = false := decide_eq_false b1
  clear b1
  go_enter Try.func6, Try.ntmps6
  go_wp2_with fail
  refine (bytes27_any w a1 a2 a3 a4 c1 c2 c3 c4 ws ys qw qy h1 h3 z1 z3 n1 n2 n3 n4).mono ?_
  rintro e w' ⟨rfl, hw⟩
  obtain rfl := hw.symm
  clear hw
  go_wp2_with fail
  go_ret
  exact ⟨rfl, Below.refl _ _⟩

set_option maxRecDepth 100000 in
set_option maxHeartbeats 1000000 in
theorem law4_long (w : World) (a1 a2 a3 a4 : Option Addr) (c1 c2 c3 c4 : Nat) (ws : List ByteArray) (ys : List Int) (qw : List ByteArray) (qy : List Int)
    (h1 : Cells w a1 (ws.map .string)) (h3 : Cells w a3 (qw.map .string)) (z1 : ∀ s ∈ ws, s.size ≤ 9223372036854775807) (z3 : ∀ s ∈ qw, s.size ≤ 9223372036854775807)
    (n1 : ws.length ≤ 9223372036854775807) (n2 : ys.length ≤ 9223372036854775807) (n3 : qw.length ≤ 9223372036854775807) (n4 : qy.length ≤ 9223372036854775807)
    (b1 : allLen ws ys qw qy ≤ 1048576) (hl : 4096 < ws.length ∨ 4096 < ys.length ∨ 4096 < qw.length ∨ 4096 < qy.length) :
    Calls Try.prog 6 #[.slice a1 ws.length c1, .slice a2 ys.length c2, .slice a3 qw.length c3, .slice a4 qy.length c4] w fun e w' => e = .returned (.bool true) ∧ Below w.heap.size w w' := by
  have hd : decide (allLen ws ys qw qy ≤ 1048576) = true := decide_eq_true b1
  clear b1
  by_cases m1 : 4096 < ws.length
  · go_enter Try.func6, Try.ntmps6
    go_wp2_with fail
    refine (bytes27_any w a1 a2 a3 a4 c1 c2 c3 c4 ws ys qw qy h1 h3 z1 z3 n1 n2 n3 n4).mono ?_
    rintro e w' ⟨rfl, hw⟩
    obtain rfl := hw.symm
    clear hw
    go_wp2_with fail
    go_ret
    exact ⟨rfl, Below.refl _ _⟩
  by_cases m2 : 4096 < ys.length
  · go_enter Try.func6, Try.ntmps6
    go_wp2_with fail
    refine (bytes27_any w a1 a2 a3 a4 c1 c2 c3 c4 ws ys qw qy h1 h3 z1 z3 n1 n2 n3 n4).mono ?_
    rintro e w' ⟨rfl, hw⟩
    obtain rfl := hw.symm
    clear hw
    go_wp2_with fail
    go_ret
    exact ⟨rfl, Below.refl _ _⟩
  by_cases m3 : 4096 < qw.length
  · go_enter Try.func6, Try.ntmps6
    go_wp2_with fail
    refine (bytes27_any w a1 a2 a3 a4 c1 c2 c3 c4 ws ys qw qy h1 h3 z1 z3 n1 n2 n3 n4).mono ?_
    rintro e w' ⟨rfl, hw⟩
    obtain rfl := hw.symm
    clear hw
    go_wp2_with fail
    go_ret
    exact ⟨rfl, Below.refl _ _⟩
  have m4 : 4096 < qy.length := by omega
  clear hl
  go_enter Try.func6, Try.ntmps6
  go_wp2_with fail
  refine (bytes27_any w a1 a2 a3 a4 c1 c2 c3 c4 ws ys qw qy h1 h3 z1 z3 n1 n2 n3 n4).mono ?_
  rintro e w' ⟨rfl, hw⟩
  obtain rfl := hw.symm
  clear hw
  go_wp2_with fail
  go_ret
  exact ⟨rfl, Below.refl _ _⟩

set_option maxRecDepth 100000 in
set_option maxHeartbeats 1000000 in
theorem law4_wide (w : World) (a1 a2 a3 a4 : Option Addr) (c1 c2 c3 c4 : Nat) (ws : List ByteArray) (ys : List Int) (qw : List ByteArray) (qy : List Int)
    (h1 : Cells w a1 (ws.map .string)) (h3 : Cells w a3 (qw.map .string)) (z1 : ∀ s ∈ ws, s.size ≤ 9223372036854775807) (z3 : ∀ s ∈ qw, s.size ≤ 9223372036854775807)
    (n1 : ws.length ≤ 4096) (n2 : ys.length ≤ 4096) (n3 : qw.length ≤ 4096) (n4 : qy.length ≤ 4096)
    (b1 : allLen ws ys qw qy ≤ 1048576) (hl : 1048576 < 16 * ws.length + tot ws + 8 * ys.length + (16 * qw.length + tot qw) + 8 * qy.length) :
    Calls Try.prog 6 #[.slice a1 ws.length c1, .slice a2 ys.length c2, .slice a3 qw.length c3, .slice a4 qy.length c4] w fun e w' => e = .returned (.bool true) ∧ Below w.heap.size w w' := by
  have hd : decide (allLen ws ys qw qy ≤ 1048576) = true := decide_eq_true b1
  have t1 : tot ws ≤ 1048576 := by unfold allLen at b1; omega
  have t3 : tot qw ≤ 1048576 := by unfold allLen at b1; omega
  clear b1
  go_enter Try.func6, Try.ntmps6
  go_wp2_with fail
  refine (bytes27_any w a1 a2 a3 a4 c1 c2 c3 c4 ws ys qw qy h1 h3 z1 z3 (by omega) (by omega) (by omega) (by omega)).mono ?_
  rintro e w' ⟨rfl, hw⟩
  obtain rfl := hw.symm
  clear hw
  go_wp2_with fail
  refine (strBytes_any w a1 c1 ws h1 (by omega) t1).mono ?_
  rintro e w' ⟨rfl, hw⟩
  obtain rfl := hw.symm
  clear hw
  go_wp2_with fail
  refine (strBytes_any w a3 c3 qw h3 (by omega) t3).mono ?_
  rintro e w' ⟨rfl, hw⟩
  obtain rfl := hw.symm
  clear hw
  go_wp2_with fail
  go_ret
  exact ⟨rfl, Below.refl _ _⟩

end Go.Proofs.Qxb6000555a
