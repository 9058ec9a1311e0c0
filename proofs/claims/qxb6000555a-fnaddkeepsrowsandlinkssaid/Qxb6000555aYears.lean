import Derived.Test.Qxb6000555aState
namespace Go.Proofs.Qxb6000555a
open Go.RowKit Go.Maps

/-- the years' map while 'add' fills it for who: the rows behind place j are in -/
structure YrsPart (D : DataW Unit) (es : List (ByteArray × Int)) (who : ByteArray) (j : Int) : Prop where
  isMap : IsMap D
  val : ∀ (who' : ByteArray) (y : Int) (kl : Lit), keyOf Try.prog 58 (.agg #[.string who', .int .i64 y]) = some kl → Maps.has D kl = true →
    ∃ i : Nat, D.atKey kl (.lit (.int .i64 0)) = .lit (.int .i64 i) ∧ es[i]? = some (who', y)
  others : ∀ (who' : ByteArray) (y : Int) (kl : Lit), who' ≠ who → keyOf Try.prog 58 (.agg #[.string who', .int .i64 y]) = some kl → 32 < cnt who' es → (who', y) ∈ es → Maps.has D kl = true
  done : ∀ (i : Nat) (y : Int) (kl : Lit), j < (i : Int) → es[i]? = some (who, y) → keyOf Try.prog 58 (.agg #[.string who, .int .i64 y]) = some kl → Maps.has D kl = true

section
variable {D : DataW Unit} {es : List (ByteArray × Int)} {who : ByteArray} {y : Int}

theorem at_snoc {es : List (ByteArray × Int)} {e e' : ByteArray × Int} {i : Nat} (h : es[i]? = some e') : (es ++ [e])[i]? = some e' := by
  rw [List.getElem?_append_left (List.getElem?_eq_some_iff.1 h).1]; exact h

theorem key58_inj {who who' : ByteArray} {y y' : Int} {kl : Lit} (h : keyOf Try.prog 58 (.agg #[.string who, .int .i64 y]) = some kl) (h' : keyOf Try.prog 58 (.agg #[.string who', .int .i64 y']) = some kl) : who = who' ∧ y = y' := by
  have := law58.inj h h'
  simpa using this

theorem YrsIs.part (h : YrsIs D es) : YrsPart D (es ++ [(who, y)]) who es.length := by
  refine ⟨h.isMap, fun who' y' kl hk hh => ?_, fun who' y' kl hne hk hc hm => ?_, fun i y' kl hi he hk => ?_⟩
  · obtain ⟨i, h1, h2⟩ := h.val who' y' kl hk hh
    exact ⟨i, h1, at_snoc h2⟩
  · rw [cnt_snoc, if_neg (fun e => hne e.symm)] at hc
    rcases List.mem_append.1 hm with h1 | h1
    · exact h.has who' y' kl hk hc h1
    · simp at h1
      exact absurd h1.1 hne
  · have := (List.getElem?_eq_some_iff.1 he).1
    simp at this
    omega

theorem YrsIs.small (h : YrsIs D es) (hc : cnt who es < 32) : YrsIs D (es ++ [(who, y)]) := by
  have hp := h.part (who := who) (y := y)
  refine ⟨h.isMap, hp.val, fun who' y' kl hk hcc hm => ?_⟩
  by_cases hne : who' = who
  · subst hne
    rw [cnt_snoc, if_pos rfl] at hcc
    omega
  · exact hp.others who' y' kl hne hk hcc hm

theorem YrsPart.put {j : Nat} {y : Int} {kl : Lit} (h : YrsPart D es who j) (he : es[j]? = some (who, y)) (hk : keyOf Try.prog 58 (.agg #[.string who, .int .i64 y]) = some kl) :
    YrsPart (D.put kl (.lit (.int .i64 j))) es who (lastOf who (es.take j)) := by
  have hkey := law58.key hk
  refine ⟨h.isMap.put _ _, fun who' y' kl' hk' hh => ?_, fun who' y' kl' hne hk' hc hm => ?_, fun i y' kl' hi hei hk' => ?_⟩
  · by_cases e : kl' = kl
    · subst e
      obtain ⟨rfl, rfl⟩ := key58_inj hk hk'
      exact ⟨j, atKey_put_same h.isMap hkey _ _, he⟩
    · rw [has_put_other e] at hh
      rw [atKey_put_other e]
      exact h.val who' y' kl' hk' hh
  · by_cases e : kl' = kl
    · subst e
      exact has_put_same h.isMap hkey _
    · rw [has_put_other e]
      exact h.others who' y' kl' hne hk' hc hm
  · by_cases e : kl' = kl
    · subst e
      exact has_put_same h.isMap hkey _
    · rw [has_put_other e]
      rcases Nat.lt_trichotomy i j with hlt | heq | hgt
      · have := lastOf_after who (es.take j) i (who, y') (by rw [List.getElem?_take, if_pos hlt]; exact hei) hi
        exact absurd rfl this
      · subst heq
        rw [he] at hei
        simp at hei
        subst hei
        rw [hk] at hk'
        simp at hk'
        exact absurd hk'.symm e
      · exact h.done i y' kl' (by omega) hei hk'

theorem YrsPart.full {j : Int} (h : YrsPart D es who j) (hj : j < 0) : YrsIs D es := by
  refine ⟨h.isMap, h.val, fun who' y' kl hk hc hm => ?_⟩
  by_cases hne : who' = who
  · subst hne
    obtain ⟨i, hi⟩ := List.getElem?_of_mem hm
    exact h.done i y' kl (by omega) hi hk
  · exact h.others who' y' kl hne hk hc hm

theorem YrsIs.one {kl : Lit} (h : YrsIs D es) (hc : 32 < cnt who es) (hk : keyOf Try.prog 58 (.agg #[.string who, .int .i64 y]) = some kl) :
    YrsIs (D.put kl (.lit (.int .i64 es.length))) (es ++ [(who, y)]) := by
  have hp := h.part (who := who) (y := y)
  have hq := hp.put (j := es.length) (y := y) (kl := kl) (by simp) hk
  refine ⟨hq.isMap, hq.val, fun who' y' kl' hk' hcc hm => ?_⟩
  by_cases hne : who' = who
  · subst hne
    by_cases e : kl' = kl
    · subst e
      exact has_put_same h.isMap (law58.key hk) _
    · rw [has_put_other e]
      rcases List.mem_append.1 hm with h1 | h1
      · exact h.has who' y' kl' hk' hc h1
      · simp at h1
        subst h1
        rw [hk] at hk'
        simp at hk'
        exact absurd hk'.symm e
  · exact hq.others who' y' kl' hne hk' hcc hm
end
end Go.Proofs.Qxb6000555a
