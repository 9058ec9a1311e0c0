import Derived.Test.Qxb6000555aHelp
import Derived.OpenShut
import Derived.ChangeOld
namespace Go.Proofs.Qxb6000555a
open Go.ChangeShapes Go.WideShapes Go.ChangeAt Go.RowKit

theorem own : ownKnob Try.prog.godebug = none := by kernel_rfl
theorem cells9 : Try.prog.cellsOf 9 = 1 := by kernel_rfl
theorem cells3 : Try.prog.cellsOf 3 = 1 := by kernel_rfl

section
variable {H : Type} {enc : TypeId × Value → H} {W : World} {a0 : Option Addr} {len cap : Nat} {d : DataW H} {p : List MemPlace}

theorem cells_of {a : Addr} {vs : List Value} (h : ∀ (i : Nat) (v : Value), vs[i]? = some v → W.cell? (a.add i) = some v) : Cells W (some a) vs := by
  intro k v hv
  have hc := h k v hv
  obtain ⟨b, off, spot⟩ := a
  have h0 : 0 < vs.length := Nat.lt_of_le_of_lt (Nat.zero_le _) (List.getElem?_eq_some_iff.1 hv).1
  have hspot : spot = none := by simpa [Addr.add] using World.cell?_spot (h 0 vs[0] (List.getElem?_eq_getElem h0))
  subst hspot
  exact ⟨b, off, rfl, by rw [← add_plain]; exact hc⟩

/-- a []string that came in -/
theorem strs_arg (h : DataW.Trod enc Try.prog W 0 (fun _ => true) true 22 (.slice a0 len cap) d p) :
    ∃ ss : List ByteArray, len = ss.length ∧ Cells W a0 (ss.map .string) ∧ (a0 = none → ss = [] ∧ cap = 0) ∧ (∀ s ∈ ss, s.size ≤ 9223372036854775807) ∧ ss.length ≤ 9223372036854775807 := by
  obtain ⟨fuel, hf⟩ := h
  rcases open_strings Try.underlying22 Try.underlying9 cells9 hf with ⟨hcs, _⟩ | ⟨x, l, c, ss, hcs, _, hl, hm, hz, _, hcell, hws⟩
  · simp [Value.cells] at hcs
    obtain ⟨rfl, rfl, rfl⟩ := hcs
    exact ⟨[], rfl, fun k v hv => by simp at hv, fun _ => ⟨rfl, rfl⟩, by simp, by simp⟩
  · simp [Value.cells] at hcs
    obtain ⟨rfl, rfl, rfl⟩ := hcs
    simp only [if_true] at hz
    unfold maxLen at hm hws
    refine ⟨ss.take len, by simp; omega, cells_of ?_, fun h => by simp at h, fun s hs => by have := hws s (List.mem_of_mem_take hs); omega, by simp; omega⟩
    intro i v hv
    simp only [List.getElem?_map, List.getElem?_take] at hv
    split at hv
    · rw [hcell i (by omega)]
      have hi : i < ss.length := by omega
      rw [List.getElem?_eq_getElem hi] at hv
      simp at hv
      subst hv
      simp [List.getD, List.getElem?_eq_getElem hi]
    · simp at hv

/-- a []int that came in -/
theorem ints_arg (h : DataW.Trod enc Try.prog W 0 (fun _ => true) true 28 (.slice a0 len cap) d p) :
    ∃ xs : List Int, len = xs.length ∧ Cells W a0 (xs.map (.int .i64)) ∧ (a0 = none → xs = [] ∧ cap = 0) ∧ (∀ x ∈ xs, (Lit.int .i64 x).wf = true) ∧ xs.length ≤ 9223372036854775807 := by
  obtain ⟨fuel, hf⟩ := h
  rcases open_ints Try.underlying28 Try.underlying3 cells3 hf with ⟨hcs, _⟩ | ⟨x, l, c, zs, hcs, _, hl, hm, hz, _, hcell, hwz⟩
  · simp [Value.cells] at hcs
    obtain ⟨rfl, rfl, rfl⟩ := hcs
    exact ⟨[], rfl, fun k v hv => by simp at hv, fun _ => ⟨rfl, rfl⟩, by simp, by simp⟩
  · simp [Value.cells] at hcs
    obtain ⟨rfl, rfl, rfl⟩ := hcs
    simp only [if_true] at hz
    unfold maxLen at hm
    refine ⟨zs.take len, by simp; omega, cells_of ?_, fun h => by simp at h, fun x hx => hwz x (List.mem_of_mem_take hx), by simp; omega⟩
    intro i v hv
    simp only [List.getElem?_map, List.getElem?_take] at hv
    split at hv
    · rw [hcell i (by omega)]
      have hi : i < zs.length := by omega
      rw [List.getElem?_eq_getElem hi] at hv
      simp at hv
      subst hv
      simp [List.getD, List.getElem?_eq_getElem hi]
    · simp at hv
end

end Go.Proofs.Qxb6000555a
