import Derived.Test.Qxb6000555aLaw4
import Derived.Test.Qxb6000555aLaw4Ends
import Derived.Test.Qxb6000555aOpen
namespace Go.Proofs.Qxb6000555a
open Go.ChangeShapes Go.WideShapes Go.ChangeAt Go.RowKit
namespace Law4

theorem walk (w : World) (a1 a2 a3 a4 : Option Addr) (c1 c2 c3 c4 : Nat) (ws : List ByteArray) (ys : List Int) (qw : List ByteArray) (qy : List Int)
    (h1 : Cells w a1 (ws.map .string)) (h2 : Cells w a2 (ys.map (.int .i64))) (h3 : Cells w a3 (qw.map .string)) (h4 : Cells w a4 (qy.map (.int .i64)))
    (e1 : a1 = none → ws = [] ∧ c1 = 0) (e2 : a2 = none → ys = [] ∧ c2 = 0) (e3 : a3 = none → qw = [] ∧ c3 = 0) (e4 : a4 = none → qy = [] ∧ c4 = 0)
    (z1 : ∀ s ∈ ws, s.size ≤ 9223372036854775807) (z2 : ∀ y ∈ ys, (Lit.int .i64 y).wf = true) (z3 : ∀ s ∈ qw, s.size ≤ 9223372036854775807) (z4 : ∀ y ∈ qy, (Lit.int .i64 y).wf = true)
    (n1 : ws.length ≤ 9223372036854775807) (n2 : ys.length ≤ 9223372036854775807) (n3 : qw.length ≤ 9223372036854775807) (n4 : qy.length ≤ 9223372036854775807) :
    Calls Try.prog 6 #[.slice a1 ws.length c1, .slice a2 ys.length c2, .slice a3 qw.length c3, .slice a4 qy.length c4] w fun e w' => e = .returned (.bool true) ∧ Below w.heap.size w w' := by
  by_cases b1 : allLen ws ys qw qy ≤ 1048576
  · by_cases hl : 4096 < ws.length ∨ 4096 < ys.length ∨ 4096 < qw.length ∨ 4096 < qy.length
    · exact law4_long w a1 a2 a3 a4 c1 c2 c3 c4 ws ys qw qy h1 h3 z1 z3 n1 n2 n3 n4 b1 hl
    · by_cases b2 : 16 * ws.length + tot ws + 8 * ys.length + (16 * qw.length + tot qw) + 8 * qy.length ≤ 1048576
      · exact law4_main w a1 a2 a3 a4 c1 c2 c3 c4 ws ys qw qy h1 h2 h3 h4 e1 e2 e3 e4 z1 z2 z3 z4 b1 (by omega) (by omega) (by omega) (by omega) b2
      · exact law4_wide w a1 a2 a3 a4 c1 c2 c3 c4 ws ys qw qy h1 h3 z1 z3 (by omega) (by omega) (by omega) (by omega) b1 (by omega)
  · exact law4_far w a1 a2 a3 a4 c1 c2 c3 c4 ws ys qw qy h1 h3 z1 z3 n1 n2 n3 n4 b1

set_option maxRecDepth 100000 in
theorem lifted (os : Os) (started : os.Started) (H : Type) (enc : TypeId × Value → H) :
    ReturnsInHanded {} Try.checked os 6 .any (Rows.fnRowForExactWithoutRepeatsSpec.pre6 enc Try.prog Try.f6 Rows.fnRowForExactWithoutRepeatsRow.domain false) (Rows.fnRowForExactWithoutRepeatsSpec.post enc Try.prog Try.f6 false true false false) := by
  refine returnsInHanded_of_change (C := Try.checked) own started (by kernel_rfl) Try.func6
    (ChangeSpec.witness6 (enc := enc) (C := Try.checked) false ⟨#[], #[.slice none 0 0, .slice none 0 0, .slice none 0 0, .slice none 0 0], []⟩ 8 (by kernel_rfl) (by kernel_rfl) (by kernel_rfl) (by kernel_rfl)) ?_
  intro W base args ds gs before hval0 hW hcnd _
  have hval : ∀ (j : Nat) t v, Try.f6.params[j]? = some t → args[j]? = some v → Value.okWide Try.prog W .any base t v := hval0
  have hW' := hW
  obtain ⟨p, q, hA0, hV, rfl, hfz, hnd⟩ := hW
  have hA : DataW.TrodAll enc Try.prog W 0 (fun _ => true) true Try.f6.params.toList args.toList ds p := hA0
  rw [Try.params6] at hA hval
  obtain ⟨v0, vs0, d0, ds0, p0, q0, hargs, rfl, rfl, h0, r0⟩ := trodAll_cons hA
  obtain ⟨v1, vs1, d1, ds1, p1, q1, rfl, rfl, rfl, h1, r1⟩ := trodAll_cons r0
  obtain ⟨v2, vs2, d2, ds2, p2, q2, rfl, rfl, rfl, h2, r2⟩ := trodAll_cons r1
  obtain ⟨v3, vs3, d3, ds3, p3, q3, rfl, rfl, rfl, h3, r3⟩ := trodAll_cons r2
  obtain ⟨rfl, rfl, rfl⟩ := trodAll_nil r3
  obtain rfl : args = #[v0, v1, v2, v3] := by cases args; simp_all
  obtain ⟨rfl, rfl⟩ := trodVars_none hV
  obtain ⟨a0, len0, cap0, rfl⟩ := okWide_slice Try.underlying22 (hval 0 22 v0 rfl rfl)
  obtain ⟨a1, len1, cap1, rfl⟩ := okWide_slice Try.underlying28 (hval 1 28 v1 rfl rfl)
  obtain ⟨a2, len2, cap2, rfl⟩ := okWide_slice Try.underlying22 (hval 2 22 v2 rfl rfl)
  obtain ⟨a3, len3, cap3, rfl⟩ := okWide_slice Try.underlying28 (hval 3 28 v3 rfl rfl)
  have k0 := h0
  have k1 := h1
  have k2 := h2
  have k3 := h3
  have lt0 : ∀ x ∈ p0, x.block < W.heap.size := by obtain ⟨m, hm⟩ := k0; exact DataW.trod_lt m _ _ _ hm
  have lt1 : ∀ x ∈ p1, x.block < W.heap.size := by obtain ⟨m, hm⟩ := k1; exact DataW.trod_lt m _ _ _ hm
  have lt2 : ∀ x ∈ p2, x.block < W.heap.size := by obtain ⟨m, hm⟩ := k2; exact DataW.trod_lt m _ _ _ hm
  have lt3 : ∀ x ∈ p3, x.block < W.heap.size := by obtain ⟨m, hm⟩ := k3; exact DataW.trod_lt m _ _ _ hm
  obtain ⟨ws, rfl, hc0, hnil0, hz0, hn0⟩ := strs_arg h0
  obtain ⟨ys, rfl, hc1, hnil1, hz1, hn1⟩ := ints_arg h1
  obtain ⟨qw, rfl, hc2, hnil2, hz2, hn2⟩ := strs_arg h2
  obtain ⟨qy, rfl, hc3, hnil3, hz3, hn3⟩ := ints_arg h3
  clear hA0 hval0
  refine (walk W a0 a1 a2 a3 cap0 cap1 cap2 cap3 ws ys qw qy hc0 hc1 hc2 hc3 hnil0 hnil1 hnil2 hnil3 hz0 hz1 hz2 hz3 hn0 hn1 hn2 hn3).mono fun e W' ⟨he, bel⟩ => ?_
  subst he
  exact ⟨_, rfl, _, _, _, [], _, [], hW', trodAll_mk1 (shut_bool Try.underlying4 _), (trodAll_cons_mk (Below.trod laidOut (by kernel_rfl) (of_decide_eq_true (by kernel_rfl)) k0 bel lt0) (trodAll_cons_mk (Below.trod laidOut (by kernel_rfl) (of_decide_eq_true (by kernel_rfl)) k1 bel lt1)
    (trodAll_cons_mk (Below.trod laidOut (by kernel_rfl) (of_decide_eq_true (by kernel_rfl)) k2 bel lt2) (trodAll_cons_mk (Below.trod laidOut (by kernel_rfl) (of_decide_eq_true (by kernel_rfl)) k3 bel lt3) trodAll_mk0)))), rfl, bel.frame _, fun h => by cases h⟩

theorem over : Rows.fnRowForExactWithoutRepeatsRow.holds Try.pinned (OpenSpec.ofChange Rows.fnRowForExactWithoutRepeatsSpec) :=
  OpenClaim.holds_of_wide 6 Try.f6 rfl rfl rfl rfl rfl rfl rfl ⟨rfl, rfl, rfl, rfl, rfl⟩ rfl rfl rfl rfl rfl (by kernel_rfl) Try.func6 (by kernel_rfl)
    (of_decide_eq_true (by kernel_rfl)) (by unfold Func.isWrapper; first | (rw [if_pos (by decide +kernel)]; kernel_rfl) | (rw [if_neg (by decide +kernel)]; exact ⟨rfl, rfl⟩))
    (fun os started H enc _ => lifted os started H enc)

theorem proved : Rows.FnRowForExactWithoutRepeatsSaid := over
end Law4
end Go.Proofs.Qxb6000555a
