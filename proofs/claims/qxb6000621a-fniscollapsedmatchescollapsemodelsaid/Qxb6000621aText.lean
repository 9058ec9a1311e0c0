import Derived.WalkKit
namespace Go.Proofs.Qxb6000621a

def ws (c : UInt8) : Bool := c == 32 || c == 9 || c == 10 || c == 13

/-- one byte of collapseModel: what has been written, and whether a space is owed -/
def step (st : List UInt8 × Bool) (c : UInt8) : List UInt8 × Bool :=
  if ws c then (st.1, if st.1.length = 0 then st.2 else true)
  else if st.2 then (st.1 ++ [32] ++ [c], false) else (st.1 ++ [c], false)
def run (l : List UInt8) : List UInt8 × Bool := l.foldl step ([], false)
def model (l : List UInt8) : List UInt8 := (run l).1

theorem run_nil : run [] = ([], false) := rfl
theorem run_snoc (l : List UInt8) (c : UInt8) : run (l ++ [c]) = step (run l) c := by simp [run]
theorem run_take_succ (l : List UInt8) (k : Nat) (c : UInt8) (h : l[k]? = some c) : run (l.take (k + 1)) = step (run (l.take k)) c := by
  obtain ⟨hlt, e⟩ := List.getElem?_eq_some_iff.1 h
  rw [List.take_succ_eq_append_getElem hlt, e, run_snoc]

/-- what isCollapsed asks -/
def okAt (l : List UInt8) (i : Nat) (c : UInt8) : Prop := c ≠ 9 ∧ c ≠ 10 ∧ c ≠ 13 ∧ (c = 32 → i ≠ 0 ∧ i + 1 ≠ l.length ∧ l[i + 1]? ≠ some 32)
def Good (l : List UInt8) : Prop := ∀ (i : Nat) (c : UInt8), l[i]? = some c → okAt l i c

theorem good_nil : Good [] := fun i c h => by simp at h

theorem ws_false {c : UInt8} (h : ws c = false) : c ≠ 9 ∧ c ≠ 10 ∧ c ≠ 13 ∧ c ≠ 32 := by
  simp only [ws, Bool.or_eq_false_iff, beq_eq_false_iff_ne] at h
  exact ⟨h.1.1.2, h.1.2, h.2, h.1.1.1⟩

theorem good_snoc {l : List UInt8} {c : UInt8} (h : Good l) (hc : ws c = false) : Good (l ++ [c]) := by
  obtain ⟨c9, c10, c13, c32⟩ := ws_false hc
  intro i d hd
  by_cases hi : i < l.length
  · rw [List.getElem?_append_left hi] at hd
    obtain ⟨a, b, e, f⟩ := h i d hd
    refine ⟨a, b, e, fun hs => ?_⟩
    obtain ⟨g1, g2, g3⟩ := f hs
    refine ⟨g1, by simp; omega, ?_⟩
    rw [List.getElem?_append_left (by omega)]
    exact g3
  · have hlt := (List.getElem?_eq_some_iff.1 hd).1
    simp at hlt
    have : i = l.length := by omega
    subst this
    simp at hd
    subst hd
    exact ⟨c9, c10, c13, fun hs => absurd hs c32⟩

theorem good_space {l : List UInt8} {c : UInt8} (h : Good l) (hne : l.length ≠ 0) (hc : ws c = false) : Good (l ++ [32] ++ [c]) := by
  obtain ⟨c9, c10, c13, c32⟩ := ws_false hc
  intro i d hd
  by_cases hi : i < l.length
  · rw [List.append_assoc, List.getElem?_append_left hi] at hd
    obtain ⟨a, b, e, f⟩ := h i d hd
    refine ⟨a, b, e, fun hs => ?_⟩
    obtain ⟨g1, g2, g3⟩ := f hs
    refine ⟨g1, by simp; omega, ?_⟩
    rw [List.append_assoc, List.getElem?_append_left (by omega)]
    exact g3
  · have hlt := (List.getElem?_eq_some_iff.1 hd).1
    simp at hlt
    by_cases hi2 : i = l.length
    · subst hi2
      simp at hd
      subst hd
      refine ⟨by decide, by decide, by decide, fun _ => ⟨hne, by simp, ?_⟩⟩
      rw [List.append_assoc, List.getElem?_append_right (by omega)]
      have : l.length + 1 - l.length = 1 := by omega
      simp [this]
      exact c32
    · have : i = l.length + 1 := by omega
      subst this
      rw [List.append_assoc, List.getElem?_append_right (by omega)] at hd
      have e1 : l.length + 1 - l.length = 1 := by omega
      simp [e1] at hd
      subst hd
      exact ⟨c9, c10, c13, fun hs => absurd hs c32⟩

theorem snoc_ind {α : Type} {P : List α → Prop} (h0 : P []) (h1 : ∀ l a, P l → P (l ++ [a])) (l : List α) : P l := by
  have h : ∀ r : List α, P r.reverse := by
    intro r
    induction r with
    | nil => exact h0
    | cons a r ih => rw [List.reverse_cons]; exact h1 _ _ ih
  have := h l.reverse
  rwa [List.reverse_reverse] at this

theorem run_good (l : List UInt8) : Good (run l).1 ∧ ((run l).2 = true → (run l).1.length ≠ 0) ∧ (run l).1.length + (if (run l).2 then 1 else 0) ≤ l.length := by
  induction l using snoc_ind with
  | h0 => exact ⟨good_nil, by simp [run_nil], by simp [run_nil]⟩
  | h1 l c ih =>
    obtain ⟨h1, h2, h3⟩ := ih
    rw [run_snoc]
    generalize run l = st at h1 h2 h3
    obtain ⟨out, pend⟩ := st
    simp only at h1 h2 h3
    unfold step
    cases hw : ws c with
    | true =>
      simp only [if_true]
      refine ⟨h1, ?_, ?_⟩
      · split
        · exact h2
        · rename_i hne; exact fun _ => hne
      · simp only [List.length_append, List.length_cons, List.length_nil]
        have hp : (if pend = true then 1 else 0) ≤ 1 := by split <;> omega
        by_cases hz : out.length = 0
        · rw [if_pos hz]
          omega
        · rw [if_neg hz, if_pos rfl]
          omega
    | false =>
      simp only [Bool.false_eq_true, if_false]
      cases pend with
      | true =>
        simp only [if_true] at h3 ⊢
        refine ⟨good_space h1 (h2 rfl) hw, by simp, ?_⟩
        simp
        omega
      | false =>
        simp only [Bool.false_eq_true, if_false] at h3 ⊢
        refine ⟨good_snoc h1 hw, by simp, ?_⟩
        simp
        omega

theorem model_good (l : List UInt8) : Good (model l) := (run_good l).1

theorem ws_of_good {l : List UInt8} (h : Good l) {k : Nat} {c : UInt8} (hc : l[k]? = some c) (hne : c ≠ 32) : ws c = false := by
  obtain ⟨a, b, e, _⟩ := h k c hc
  simp [ws, a, b, e, hne]

theorem run_of_good {l : List UInt8} (h : Good l) : ∀ k, k ≤ l.length → ((∃ j, k = j + 1 ∧ l[j]? = some 32) → ∃ j, k = j + 1 ∧ run (l.take k) = (l.take j, true)) ∧ ((¬ ∃ j, k = j + 1 ∧ l[j]? = some 32) → run (l.take k) = (l.take k, false)) := by
  intro k
  induction k with
  | zero =>
    intro _
    exact ⟨fun ⟨j, hj, _⟩ => by omega, fun _ => by simp [run_nil]⟩
  | succ k ih =>
    intro hk
    obtain ⟨ih1, ih2⟩ := ih (by omega)
    obtain ⟨c, hc⟩ : ∃ c, l[k]? = some c := ⟨_, List.getElem?_eq_getElem (by omega)⟩
    rw [run_take_succ l k c hc]
    by_cases h32 : c = 32
    · subst h32
      obtain ⟨g1, g2, g3⟩ := (h k 32 hc).2.2.2 rfl
      have hno : ¬ ∃ j, k = j + 1 ∧ l[j]? = some 32 := by
        rintro ⟨j, rfl, hj⟩
        obtain ⟨_, _, q⟩ := (h j 32 hj).2.2.2 rfl
        exact q hc
      refine ⟨fun _ => ⟨k, rfl, ?_⟩, fun hq => absurd ⟨k, rfl, hc⟩ hq⟩
      rw [ih2 hno]
      have hl : (l.take k).length = k := by simp; omega
      have hw : ws 32 = true := by decide
      unfold step
      rw [hw]
      simp only [if_true]
      rw [hl, if_neg g1]
    · have hw := ws_of_good h hc h32
      refine ⟨fun ⟨j, hj, hjc⟩ => ?_, fun _ => ?_⟩
      · have : j = k := by omega
        subst this
        rw [hc] at hjc
        simp at hjc
        exact absurd hjc h32
      · have ht : l.take (k + 1) = l.take k ++ [c] := by
          obtain ⟨hlt, e⟩ := List.getElem?_eq_some_iff.1 hc
          rw [List.take_succ_eq_append_getElem hlt, e]
        by_cases hex : ∃ j, k = j + 1 ∧ l[j]? = some 32
        · obtain ⟨j, hj, hr⟩ := ih1 hex
          obtain ⟨j', hj', hjc⟩ := hex
          have : j' = j := by omega
          subst this
          rw [hr]
          unfold step
          rw [hw]
          simp only [Bool.false_eq_true, if_false, if_true]
          rw [ht, hj]
          obtain ⟨hlt, e⟩ := List.getElem?_eq_some_iff.1 hjc
          rw [List.take_succ_eq_append_getElem hlt, e]
        · rw [ih2 hex]
          unfold step
          rw [hw]
          simp only [Bool.false_eq_true, if_false]
          rw [ht]

theorem model_of_good {l : List UInt8} (h : Good l) : model l = l := by
  have hr := (run_of_good h l.length (Nat.le_refl _)).2 (by
    rintro ⟨j, hj, hjc⟩
    obtain ⟨_, q, _⟩ := (h j 32 hjc).2.2.2 rfl
    exact q hj.symm)
  rw [List.take_length] at hr
  unfold model
  rw [hr]

/-- THE PLAIN LAW -/
theorem model_iff (l : List UInt8) : model l = l ↔ Good l := ⟨fun h => h ▸ model_good l, model_of_good⟩

end Go.Proofs.Qxb6000621a
