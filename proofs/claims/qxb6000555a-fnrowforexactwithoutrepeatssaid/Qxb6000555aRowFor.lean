import Derived.Test.Qxb6000555aMore
import Derived.BigRegion
namespace Go.Proofs.Qxb6000555a
open Go.RowKit Go.Maps

/-- what rowFor may answer -/
def RowAns (es : List (ByteArray × Int)) (who : ByteArray) (y : Int) (r : Int) : Prop :=
  (r = -1 ∧ ∀ i : Nat, es[i]? ≠ some (who, y)) ∨ ∃ i : Nat, r = i ∧ es[i]? = some (who, y)

set_option maxHeartbeats 1000000 in
theorem rowFor_any {w : World} {N : Nat} {names : List ByteArray} {es : List (ByteArray × Int)} (h : IsG w N names es) (who : ByteArray) (y : Int) (hs : who.size ≤ maxLen) (hy : (Lit.int .i64 y).wf = true) :
    Calls Try.prog 31 #[.pointer (some ⟨N + 3, 0, none⟩), .agg #[.string who, .int .i64 (lastOf who es), .int .i64 (cnt who es)], .int .i64 y] w fun e w' => ∃ r, e = .returned (.int .i64 r) ∧ RowAns es who y r ∧ w.grownBy w' none := by
  obtain ⟨vc, vr, D1, D2, h⟩ := h
  have hlt := h.lt
  have hcl := cnt_le who es
  by_cases hc : 32 < cnt who es
  · have k5 := h.c5
    obtain ⟨kl, hkl⟩ := key58 who y hs hy
    have hown := (h.yrs.alloc (.cells #[.string who, .int .i64 (lastOf who es), .int .i64 (cnt who es)] 49)).drew
    obtain ⟨v, ps, hrun, hv⟩ := hown.look_ok law58 Try.underlying42 (zero3 _) (plainElem_int (H := Unit) Try.underlying3 (a := 0) (by decide)) hkl
    obtain ⟨c, rfl, hc2, _⟩ := plainElem_int_inv Try.underlying3 hv
    simp only [Prod.mk.injEq] at hc2
    cases hh : Maps.has D2 kl with
    | true =>
      rw [hh] at hrun
      obtain ⟨i, hi1, hi2⟩ := h.yrsIs.val who y kl hkl hh
      have hci : c = i := by
        have := hc2.1
        rw [hi1] at this
        simpa using this.symm
      subst hci
      clear hown hv hc2 hh hi1 h
      have HI : Hid (es[i]? = some (who, y)) := hi2
      clear hi2
      go_enter Try.func31, Try.ntmps31
      go_wp2_with fail
      go_region
      go_wp2_with fail
      go_ret
      refine ⟨i, rfl, .inr ⟨i, rfl, HI.out⟩, ?_⟩
      exact ⟨rfl, rfl, rfl, by simp, fun k hk _ => Below.heap_alloc _ _ _ hk⟩
    | false =>
      rw [hh] at hrun
      have HN : Hid (∀ i : Nat, es[i]? ≠ some (who, y)) := fun i hi => by
        rw [h.yrsIs.has who y kl hkl hc (List.mem_of_getElem? hi)] at hh
        simp at hh
      clear hown hv hc2 hh h
      go_enter Try.func31, Try.ntmps31
      go_wp2_with fail
      go_region
      go_wp2_with fail
      go_ret
      refine ⟨-1, rfl, .inl ⟨rfl, HN.out⟩, ?_⟩
      exact ⟨rfl, rfl, rfl, by simp, fun k hk _ => Below.heap_alloc _ _ _ hk⟩
  · have k2 := h.c2
    have hlb := lastOf_bounds who es
    go_enter Try.func31, Try.ntmps31
    have H : Hid (GAt w N names es vc vr D1 D2) := h
    clear h
    go_wp2_with fail
    go_loop [9] (fun s9 => ∃ j : Int, s9 = .int .i64 j ∧ (j = -1 ∨ ∃ (jn : Nat) (yj : Int), j = jn ∧ es[jn]? = some (who, yj)) ∧ ∀ i : Nat, j < i → es[i]? ≠ some (who, y)) (fun s9 => (intOf s9 + 1).toNat)
    case atStart =>
      refine ⟨_, rfl, ?_, fun i hi he => lastOf_after who es i _ he hi rfl⟩
      by_cases hneg : lastOf who es = -1
      · exact .inl hneg
      · right
        obtain ⟨y', hy'⟩ := lastOf_at who es (lastOf who es).toNat (by omega)
        exact ⟨_, y', by omega, hy'⟩
    case round =>
      obtain ⟨j, rfl, hj, hno⟩ := hrel
      have HNO : Hid (∀ i : Nat, j < i → es[i]? ≠ some (who, y)) := hno
      clear hno
      rcases hj with rfl | ⟨jn, yj, rfl, hjn⟩
      · go_wp2_with fail
        go_ret
        refine ⟨-1, rfl, .inl ⟨rfl, fun i => HNO.out i (by omega)⟩, ?_⟩
        exact ⟨rfl, rfl, rfl, by simp, fun k hk _ => Below.heap_alloc _ _ _ hk⟩
      · have hjl : jn < es.length := (List.getElem?_eq_some_iff.1 hjn).1
        obtain ⟨gr, capr, hvr, r0, _, r3⟩ := H.out.row hjn
        subst hvr
        have hgr : gr < w.heap.size := World.block_lt_of_cell? w _ r0
        have hlb2 := lastOf_bounds who (es.take jn)
        have hl2 : (es.take jn).length ≤ jn := List.length_take_le _ _
        have HJ : Hid (es[jn]? = some (who, yj)) := hjn
        clear hjn
        by_cases hyy : yj = y
        · subst hyy
          go_wp2_with fail
          go_ret
          refine ⟨jn, rfl, .inr ⟨jn, rfl, HJ.out⟩, ?_⟩
          exact ⟨rfl, rfl, rfl, by simp, fun k hk _ => Below.heap_alloc _ _ _ hk⟩
        · have hne : (yj == y) = false := by simpa using hyy
          go_wp2_with fail
          go_round
          case rel =>
            refine ⟨lastOf who (es.take jn), rfl, ?_, ?_⟩
            · by_cases hneg : lastOf who (es.take jn) = -1
              · exact .inl hneg
              · right
                obtain ⟨y', hy'⟩ := lastOf_at who (es.take jn) (lastOf who (es.take jn)).toNat (by omega)
                rw [List.getElem?_take] at hy'
                split at hy'
                · exact ⟨_, y', by omega, hy'⟩
                · simp at hy'
            · intro i hi he
              rcases Nat.lt_trichotomy i jn with hlt2 | heq | hgt
              · exact lastOf_after who (es.take jn) i (who, y) (by rw [List.getElem?_take, if_pos hlt2]; exact he) hi rfl
              · subst heq
                rw [HJ.out] at he
                simp at he
                exact hyy he
              · exact HNO.out i (by omega) he
          case measure => simp only [intOf]; omega

set_option maxHeartbeats 400000 in
/-- ZZRowFor -/
theorem zzRowFor_any {w : World} {N : Nat} {names : List ByteArray} {es : List (ByteArray × Int)} (h : IsG w N names es) (ci : Nat) (who : ByteArray) (y : Int) (hci : names[ci]? = some who) (hy : (Lit.int .i64 y).wf = true) :
    Calls Try.prog 26 #[.pointer (some ⟨N + 3, 0, none⟩), .int .i64 ci, .int .i64 y] w fun e w' => ∃ r, e = .returned (.int .i64 r) ∧ RowAns es who y r ∧ w.grownBy w' none := by
  have hG := h
  obtain ⟨vc, vr, D1, D2, h⟩ := h
  have h1 := h.c1
  have hlt : ci < names.length := (List.getElem?_eq_some_iff.1 hci).1
  obtain ⟨g, cap, hv, k0, k1, k2⟩ := h.chain hci
  subst hv
  have hs := h.small who (List.mem_of_getElem? hci)
  have HG : Hid (IsG w N names es) := hG
  clear h hG
  go_enter Try.func26, Try.ntmps26
  go_wp2_with (go_at_call 31; refine (rowFor_any HG.out who y hs hy).mono ?_; rintro e w' ⟨r, rfl, hr, hg⟩)
  go_ret
  exact ⟨r, rfl, hr, hg⟩

end Go.Proofs.Qxb6000555a
