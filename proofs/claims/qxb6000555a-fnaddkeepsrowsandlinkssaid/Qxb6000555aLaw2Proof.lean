import Derived.Test.Qxb6000555aLaw2
import Derived.Test.Qxb6000555aOpen
namespace Go.Proofs.Qxb6000555a
open Go.ChangeShapes Go.WideShapes Go.ChangeAt Go.RowKit
namespace Law2

set_option maxRecDepth 100000 in
set_option maxHeartbeats 1000000 in
theorem walk (w : World) (a1 a2 : Option Addr) (c1 c2 : Nat) (ws : List ByteArray) (ys : List Int)
    (h1 : Cells w a1 (ws.map .string)) (h2 : Cells w a2 (ys.map (.int .i64))) (e1 : a1 = none → ws = [] ∧ c1 = 0) (e2 : a2 = none → ys = [] ∧ c2 = 0)
    (z1 : ∀ s ∈ ws, s.size ≤ 9223372036854775807) (z2 : ∀ y ∈ ys, (Lit.int .i64 y).wf = true) (n1 : ws.length ≤ 9223372036854775807) (n2 : ys.length ≤ 9223372036854775807) :
    Calls Try.prog 4 #[.slice a1 ws.length c1, .slice a2 ys.length c2] w fun e w' => e = .returned (.bool true) ∧ Below w.heap.size w w' := by
  by_cases b1 : ws.length + tot ws + ys.length ≤ 1048576
  · have hd : decide (ws.length + tot ws + ys.length ≤ 1048576) = true := decide_eq_true b1
    by_cases m1 : 4096 < ws.length
    · go_enter Try.func4, Try.ntmps4
      go_wp2_with fail
      refine (bytes17_any w a1 a2 c1 c2 ws ys h1 z1 n1 n2).mono ?_
      rintro e w' ⟨rfl, hw⟩
      obtain rfl := hw.symm
      clear hw
      go_wp2_with fail
      go_ret
      exact ⟨rfl, Below.refl _ _⟩
    by_cases m2 : 4096 < ys.length
    · go_enter Try.func4, Try.ntmps4
      go_wp2_with fail
      refine (bytes17_any w a1 a2 c1 c2 ws ys h1 z1 n1 n2).mono ?_
      rintro e w' ⟨rfl, hw⟩
      obtain rfl := hw.symm
      clear hw
      go_wp2_with fail
      go_ret
      exact ⟨rfl, Below.refl _ _⟩
    by_cases b2 : 16 * ws.length + tot ws + 8 * ys.length ≤ 1048576
    · exact law2_main w a1 a2 c1 c2 ws ys h1 h2 e1 e2 z1 z2 b1 (by omega) (by omega) b2
    · go_enter Try.func4, Try.ntmps4
      go_wp2_with fail
      refine (bytes17_any w a1 a2 c1 c2 ws ys h1 z1 n1 n2).mono ?_
      rintro e w' ⟨rfl, hw⟩
      obtain rfl := hw.symm
      clear hw
      go_wp2_with fail
      refine (strBytes_any w a1 c1 ws h1 (by omega) (by omega)).mono ?_
      rintro e w' ⟨rfl, hw⟩
      obtain rfl := hw.symm
      clear hw
      go_wp2_with fail
      go_ret
      exact ⟨rfl, Below.refl _ _⟩
  · have hd : decide (ws.length + tot ws + ys.length ≤ 1048576) = false := decide_eq_false b1
    go_enter Try.func4, Try.ntmps4
    go_wp2_with fail
    refine (bytes17_any w a1 a2 c1 c2 ws ys h1 z1 n1 n2).mono ?_
    rintro e w' ⟨rfl, hw⟩
    obtain rfl := hw.symm
    clear hw
    go_wp2_with fail
    go_ret
    exact ⟨rfl, Below.refl _ _⟩

set_option maxRecDepth 100000 in
theorem lifted (os : Os) (started : os.Started) (H : Type) (enc : TypeId × Value → H) :
    ReturnsInHanded {} Try.checked os 4 .any (Rows.fnAddKeepsRowsAndLinksSpec.pre6 enc Try.prog Try.f4 Rows.fnAddKeepsRowsAndLinksRow.domain false) (Rows.fnAddKeepsRowsAndLinksSpec.post enc Try.prog Try.f4 false true false false) := by
  refine returnsInHanded_of_change (C := Try.checked) own started (by kernel_rfl) Try.func4
    (ChangeSpec.witness6 (enc := enc) (C := Try.checked) false ⟨#[], #[.slice none 0 0, .slice none 0 0], []⟩ 8 (by kernel_rfl) (by kernel_rfl) (by kernel_rfl) (by kernel_rfl)) ?_
  intro W base args ds gs before hval0 hW hcnd _
  have hval : ∀ (j : Nat) t v, Try.f4.params[j]? = some t → args[j]? = some v → Value.okWide Try.prog W .any base t v := hval0
  have hW' := hW
  obtain ⟨p, q, hA0, hV, rfl, hfz, hnd⟩ := hW
  have hA : DataW.TrodAll enc Try.prog W 0 (fun _ => true) true Try.f4.params.toList args.toList ds p := hA0
  rw [Try.params4] at hA hval
  obtain ⟨v0, vs0, d0, ds0, p0, q0, hargs, rfl, rfl, h0, r0⟩ := trodAll_cons hA
  obtain ⟨v1, vs1, d1, ds1, p1, q1, rfl, rfl, rfl, h1, r1⟩ := trodAll_cons r0
  obtain ⟨rfl, rfl, rfl⟩ := trodAll_nil r1
  obtain rfl : args = #[v0, v1] := by cases args; simp_all
  obtain ⟨rfl, rfl⟩ := trodVars_none hV
  obtain ⟨a0, len0, cap0, rfl⟩ := okWide_slice Try.underlying22 (hval 0 22 v0 rfl rfl)
  obtain ⟨a1, len1, cap1, rfl⟩ := okWide_slice Try.underlying28 (hval 1 28 v1 rfl rfl)
  have k0 := h0
  have k1 := h1
  have lt0 : ∀ x ∈ p0, x.block < W.heap.size := by obtain ⟨m, hm⟩ := k0; exact DataW.trod_lt m _ _ _ hm
  have lt1 : ∀ x ∈ p1, x.block < W.heap.size := by obtain ⟨m, hm⟩ := k1; exact DataW.trod_lt m _ _ _ hm
  obtain ⟨ws, rfl, hc0, hnil0, hz0, hn0⟩ := strs_arg h0
  obtain ⟨ys, rfl, hc1, hnil1, hz1, hn1⟩ := ints_arg h1
  clear hA0 hval0
  refine (walk W a0 a1 cap0 cap1 ws ys hc0 hc1 hnil0 hnil1 hz0 hz1 hn0 hn1).mono fun e W' ⟨he, bel⟩ => ?_
  subst he
  exact ⟨_, rfl, _, _, _, [], _, [], hW', trodAll_mk1 (shut_bool Try.underlying4 _), (trodAll_cons_mk (Below.trod laidOut (by kernel_rfl) (of_decide_eq_true (by kernel_rfl)) k0 bel lt0) (trodAll_cons_mk (Below.trod laidOut (by kernel_rfl) (of_decide_eq_true (by kernel_rfl)) k1 bel lt1) trodAll_mk0)), rfl, bel.frame _, fun h => by cases h⟩

theorem over : Rows.fnAddKeepsRowsAndLinksRow.holds Try.pinned (OpenSpec.ofChange Rows.fnAddKeepsRowsAndLinksSpec) :=
  OpenClaim.holds_of_wide 4 Try.f4 rfl rfl rfl rfl rfl rfl rfl ⟨rfl, rfl, rfl, rfl, rfl⟩ rfl rfl rfl rfl rfl (by kernel_rfl) Try.func4 (by kernel_rfl)
    (of_decide_eq_true (by kernel_rfl)) (by unfold Func.isWrapper; first | (rw [if_pos (by decide +kernel)]; kernel_rfl) | (rw [if_neg (by decide +kernel)]; exact ⟨rfl, rfl⟩))
    (fun os started H enc _ => lifted os started H enc)

theorem proved : Rows.FnAddKeepsRowsAndLinksSaid := over
end Law2
end Go.Proofs.Qxb6000555a
