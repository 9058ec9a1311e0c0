import Derived.Test.Qxb6000555aChain
import Derived.Test.Qxb6000555aHelp
namespace Go.Proofs.Qxb6000555a
open Go.RowKit Go.Maps

theorem Keep.own {N : Nat} {w w' : World} (h : Keep N w w') {base n : Nat} {v : Value} {cs : List Value} (ho : w.ownsRow base 3 1 v n cs) : w'.ownsRow base 3 1 v n cs := by
  refine ⟨ho.1, ?_⟩
  rcases ho.2 with hn | ⟨g, cap, cur, hv, hb, hg, rest⟩
  · exact .inl hn
  · exact .inr ⟨g, cap, cur, hv, hb, h.ints g cur hg, rest⟩
theorem Keep.drewN {N : Nat} {a w : World} (h : Keep N a w) (n : Nat) : Keep N a (w.drewN n) := ⟨below_drewN h.below n, h.ints⟩
theorem IsG.store {w : World} {N : Nat} {names : List ByteArray} {es : List (ByteArray × Int)} (h : IsG w N names es) {base g n cap : Nat} {cs : List Value} (ho : w.ownsRow base 3 1 (.slice (some ⟨g, 0, none⟩) n cap) n cs) (j : Nat) (u : Value) : IsG (w.setCell ⟨g, j, none⟩ u) N names es := by
  rcases ho.2 with ⟨hv, _⟩ | ⟨g', cap', cur, hv, _, hg, _⟩
  · simp at hv
  · simp at hv
    obtain ⟨rfl, rfl⟩ := hv
    exact h.ints hg (grownBy_setCell w ⟨g, j, none⟩ u)

theorem nodup_at {l : List ByteArray} (h : l.Nodup) {i j : Nat} {s : ByteArray} (hi : l[i]? = some s) (hj : l[j]? = some s) : i = j := by
  obtain ⟨h1, e1⟩ := List.getElem?_eq_some_iff.1 hi
  obtain ⟨h2, e2⟩ := List.getElem?_eq_some_iff.1 hj
  have hp := List.pairwise_iff_getElem.1 h
  rcases Nat.lt_trichotomy i j with hlt | he | hlt
  · exact absurd (e1.trans e2.symm) (hp i j h1 h2 hlt)
  · exact he
  · exact absurd (e2.trans e1.symm) (hp j i h2 h1 hlt)

theorem IsG.nodup {w : World} {N : Nat} {names : List ByteArray} {es : List (ByteArray × Int)} (h : IsG w N names es) : names.Nodup := by
  obtain ⟨_, _, _, _, h⟩ := h
  exact h.nodup

theorem grownBy_drewN (w : World) (n : Nat) (row : Option Nat) : w.grownBy (w.drewN n) row := ⟨rfl, rfl, rfl, Nat.le_refl _, fun _ _ _ => rfl⟩
theorem IsG.drewN {w : World} {N : Nat} {names : List ByteArray} {es : List (ByteArray × Int)} (h : IsG w N names es) (n : Nat) : IsG (w.drewN n) N names es := h.fresh (grownBy_drewN w n none)
theorem Cells.below {w w' : World} {g N : Nat} {vs : List Value} (h : Cells w (some ⟨g, 0, none⟩) vs) (hb : Below N w w') (hg : g < N) : Cells w' (some ⟨g, 0, none⟩) vs := by
  intro k v hv
  obtain ⟨b, off, ha, hq⟩ := h k v hv
  simp at ha
  obtain ⟨rfl, rfl⟩ := ha
  exact ⟨_, _, rfl, (hb.cell (by exact hg)).trans hq⟩

end Go.Proofs.Qxb6000555a
