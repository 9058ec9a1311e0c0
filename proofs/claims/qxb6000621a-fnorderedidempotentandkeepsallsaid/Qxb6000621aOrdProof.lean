import Derived.Test.Qxb6000621aOrd
import Derived.OpenShut
import Derived.ChangeOld
namespace Go.Proofs.Qxb6000621a
open Go.ChangeShapes Go.WideShapes Go.ChangeAt Go.RowKit
namespace Ord

theorem own : ownKnob Try.prog.godebug = none := by kernel_rfl
theorem cells9 : Try.prog.cellsOf 9 = 1 := by kernel_rfl

section
variable {H : Type} {enc : TypeId × Value → H} {W : World} {a0 : Option Addr} {len cap : Nat} {d : DataW H} {p : List MemPlace}

theorem cells_of {a : Addr} {vs : List Value} (h : ∀ (i : Nat) (v : Value), vs[i]? = some v → W.cell? (a.add i) = some v) : Cells W (some a) vs := by
  intro k v hv
  have hc := h k v hv
  obtain ⟨b, off, spot⟩ := a
  have h0 : 0 < vs.length := Nat.lt_of_le_of_lt (Nat.zero_le _) (List.getElem?_eq_some_iff.1 hv).1
  have hspot : spot = none := by simpa [Addr.add] using World.cell?_spot (h 0 vs[0] (List.getElem?_eq_getElem h0))
  subst hspot
  exact ⟨b, off, rfl, by rw [← add_plain]; exact hc⟩

/-- a []string that came in -/
theorem strs_arg (h : DataW.Trod enc Try.prog W 0 (fun _ => true) true 22 (.slice a0 len cap) d p) :
    ∃ ss : List ByteArray, len = ss.length ∧ Cells W a0 (ss.map .string) ∧ (a0 = none → ss = [] ∧ cap = 0) ∧ (∀ s ∈ ss, s.size ≤ 9223372036854775807) ∧ ss.length ≤ 9223372036854775807 := by
  obtain ⟨fuel, hf⟩ := h
  rcases open_strings Try.underlying22 Try.underlying9 cells9 hf with ⟨hcs, _⟩ | ⟨x, l, c, ss, hcs, _, hl, hm, hz, _, hcell, hws⟩
  · simp [Value.cells] at hcs
    obtain ⟨rfl, rfl, rfl⟩ := hcs
    exact ⟨[], rfl, fun k v hv => by simp at hv, fun _ => ⟨rfl, rfl⟩, by simp, by simp⟩
  · simp [Value.cells] at hcs
    obtain ⟨rfl, rfl, rfl⟩ := hcs
    simp only [if_true] at hz
    unfold maxLen at hm hws
    refine ⟨ss.take len, by simp; omega, cells_of ?_, fun h => by simp at h, fun s hs => by have := hws s (List.mem_of_mem_take hs); omega, by simp; omega⟩
    intro i v hv
    simp only [List.getElem?_map, List.getElem?_take] at hv
    split at hv
    · rw [hcell i (by omega)]
      have hi : i < ss.length := by omega
      rw [List.getElem?_eq_getElem hi] at hv
      simp at hv
      subst hv
      simp [List.getD, List.getElem?_eq_getElem hi]
    · simp at hv

end

set_option maxRecDepth 100000 in
theorem lifted (os : Os) (started : os.Started) (H : Type) (enc : TypeId × Value → H) :
    ReturnsInHanded {} Try.checked os 5 .any (Rows.fnOrderedIdempotentAndKeepsAllSpec.pre6 enc Try.prog Try.f5 Rows.fnOrderedIdempotentAndKeepsAllRow.domain false) (Rows.fnOrderedIdempotentAndKeepsAllSpec.post enc Try.prog Try.f5 false true false false) := by
  refine returnsInHanded_of_change (C := Try.checked) own started (by kernel_rfl) Try.func5
    (ChangeSpec.witness6 (enc := enc) (C := Try.checked) false ⟨#[], #[.slice none 0 0, .slice none 0 0], []⟩ 8 (by kernel_rfl) (by kernel_rfl) (by kernel_rfl) (by kernel_rfl)) ?_
  intro W base args ds gs before hval0 hW hcnd _
  have hval : ∀ (j : Nat) t v, Try.f5.params[j]? = some t → args[j]? = some v → Value.okWide Try.prog W .any base t v := hval0
  have hW' := hW
  obtain ⟨p, q, hA0, hV, rfl, hfz, hnd⟩ := hW
  have hA : DataW.TrodAll enc Try.prog W 0 (fun _ => true) true Try.f5.params.toList args.toList ds p := hA0
  rw [Try.params5] at hA hval
  obtain ⟨v0, vs0, d0, ds0, p0, q0, hargs, rfl, rfl, h0, r0⟩ := trodAll_cons hA
  obtain ⟨v1, vs1, d1, ds1, p1, q1, rfl, rfl, rfl, h1, r1⟩ := trodAll_cons r0
  obtain ⟨rfl, rfl, rfl⟩ := trodAll_nil r1
  obtain rfl : args = #[v0, v1] := by cases args; simp_all
  obtain ⟨rfl, rfl⟩ := trodVars_none hV
  obtain ⟨a0, len0, cap0, rfl⟩ := okWide_slice Try.underlying22 (hval 0 22 v0 rfl rfl)
  obtain ⟨a1, len1, cap1, rfl⟩ := okWide_slice Try.underlying22 (hval 1 22 v1 rfl rfl)
  have k0 := h0
  have k1 := h1
  have lt0 : ∀ x ∈ p0, x.block < W.heap.size := by obtain ⟨m, hm⟩ := k0; exact DataW.trod_lt m _ _ _ hm
  have lt1 : ∀ x ∈ p1, x.block < W.heap.size := by obtain ⟨m, hm⟩ := k1; exact DataW.trod_lt m _ _ _ hm
  obtain ⟨ws, rfl, hc0, hnil0, hz0, hn0⟩ := strs_arg h0
  obtain ⟨set, rfl, hc1, hnil1, hz1, hn1⟩ := strs_arg h1
  clear hA0 hval0
  refine (ord_law W a0 a1 cap0 cap1 ws set hc0 hc1 hnil0 hnil1 hz0 hz1 hn0 hn1).mono fun e W' ⟨he, hg⟩ => ?_
  have bel : Below W.heap.size W W' := (Below.refl _ _).grown hg (Nat.le_refl _) (by simp)
  subst he
  exact ⟨_, rfl, _, _, _, [], _, [], hW', trodAll_mk1 (shut_bool Try.underlying4 _), (trodAll_cons_mk (Below.trod laidOut (by kernel_rfl) (of_decide_eq_true (by kernel_rfl)) k0 bel lt0) (trodAll_cons_mk (Below.trod laidOut (by kernel_rfl) (of_decide_eq_true (by kernel_rfl)) k1 bel lt1) trodAll_mk0)), rfl, bel.frame _, fun h => by cases h⟩

theorem over : Rows.fnOrderedIdempotentAndKeepsAllRow.holds Try.pinned (OpenSpec.ofChange Rows.fnOrderedIdempotentAndKeepsAllSpec) :=
  OpenClaim.holds_of_wide 5 Try.f5 rfl rfl rfl rfl rfl rfl rfl ⟨rfl, rfl, rfl, rfl, rfl⟩ rfl rfl rfl rfl rfl (by kernel_rfl) Try.func5 (by kernel_rfl)
    (of_decide_eq_true (by kernel_rfl)) (by unfold Func.isWrapper; first | (rw [if_pos (by decide +kernel)]; kernel_rfl) | (rw [if_neg (by decide +kernel)]; exact ⟨rfl, rfl⟩))
    (fun os started H enc _ => lifted os started H enc)

theorem proved : Rows.FnOrderedIdempotentAndKeepsAllSaid := over
end Ord
end Go.Proofs.Qxb6000621a
