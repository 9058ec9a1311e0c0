import Derived.Test.Qxb6000621aColl
namespace Go.Proofs.Qxb6000621a
open Go.RowKit

set_option maxHeartbeats 400000 in
theorem zzColl_any (s : ByteArray) (hs : s.size ≤ 1048576) (w : World) :
    Calls Try.prog 22 #[.string s] w fun e w' => ∃ b : Bool, e = .returned (.bool b) ∧ (b = true ↔ Good s.data.toList) ∧ w' = w := by
  go_enter Try.func22, Try.ntmps22
  go_wp2_with fail
  refine (isColl_any s hs w).mono ?_
  rintro e w' ⟨b, rfl, hb, hw⟩
  obtain rfl := hw.symm
  clear hw
  have HB : Hid (b = true ↔ Good s.data.toList) := hb
  clear hb
  cases b with
  | true =>
    go_wp2_with fail
    go_ret
    exact ⟨true, rfl, ⟨fun _ => HB.out.1 (by simp), fun _ => rfl⟩, rfl⟩
  | false =>
    go_wp2_with fail
    go_ret
    exact ⟨false, rfl, ⟨fun h => by simp at h, fun h => by have := HB.out.2 h; simp at this⟩, rfl⟩

theorem zzColl_yes (s : ByteArray) (hs : s.size ≤ 1048576) (h : Good s.data.toList) (w : World) : Calls Try.prog 22 #[.string s] w fun e w' => e = .returned (.bool true) ∧ w' = w :=
  (zzColl_any s hs w).mono fun e w' ⟨b, he, hb, hw⟩ => ⟨by rw [he, hb.2 h], hw⟩
theorem zzColl_no (s : ByteArray) (hs : s.size ≤ 1048576) (h : ¬ Good s.data.toList) (w : World) : Calls Try.prog 22 #[.string s] w fun e w' => e = .returned (.bool false) ∧ w' = w :=
  (zzColl_any s hs w).mono fun e w' ⟨b, he, hb, hw⟩ => ⟨by
    have : b = false := by
      cases b
      · rfl
      · exact absurd (hb.1 rfl) h
    rw [he, this], hw⟩

set_option maxHeartbeats 400000 in
theorem bytes20_any (s : ByteArray) (hs : s.size ≤ 9223372036854775807) (w : World) : Calls Try.prog 20 #[.string s] w fun e w' => e = .returned (.bool (decide (s.size ≤ 1048576))) ∧ w' = w := by
  by_cases h : s.size ≤ 1048576
  · have HF : Hid (Ending.returned (.bool true) = .returned (.bool (decide (s.size ≤ 1048576)))) := by show _ = _; rw [decide_eq_true h]
    go_enter Try.func20, Try.ntmps20
    go_wp2
    go_ret
    exact ⟨HF.out, rfl⟩
  · have HF : Hid (Ending.returned (.bool false) = .returned (.bool (decide (s.size ≤ 1048576)))) := by show _ = _; rw [decide_eq_false h]
    have h' : 1048576 < s.size := by omega
    clear h
    go_enter Try.func20, Try.ntmps20
    go_wp2
    go_ret
    exact ⟨HF.out, rfl⟩

set_option maxHeartbeats 1000000 in
theorem coll_law (s : ByteArray) (hs : s.size ≤ 9223372036854775807) (w : World) : Calls Try.prog 8 #[.string s] w fun e w' => e = .returned (.bool true) ∧ w.grownBy w' none := by
  by_cases h : s.size ≤ 1048576
  · have hd : decide (s.size ≤ 1048576) = true := decide_eq_true h
    obtain ⟨t, ht⟩ : ∃ t : ByteArray, t = ⟨(model s.data.toList).toArray⟩ := ⟨_, rfl⟩
    have htl : t.data.toList = model s.data.toList := by rw [ht]
    have htz : t.size ≤ 1048576 := by
      have h1 := (run_good s.data.toList).2.2
      have h2 : t.size = t.data.toList.length := by simp
      have h3 : s.data.toList.length = s.size := by simp
      rw [h2, htl]
      unfold model
      omega
    have HT : Hid (t = ⟨(model s.data.toList).toArray⟩) := ht
    have HTL : Hid (t.data.toList = model s.data.toList) := htl
    clear ht htl
    have HGT : Hid (Good t.data.toList) := by show Good _; rw [HTL.out]; exact model_good _
    have hmod := model_any s h w
    rw [← HT.out] at hmod
    by_cases hg : Good s.data.toList
    · have hts : t = s := by
        have := HTL.out
        rw [model_of_good hg] at this
        cases t; cases s
        simp only [ByteArray.mk.injEq]
        exact Array.toList_inj.1 this
      have HG : Hid (Good s.data.toList) := hg
      clear HT HTL hg
      subst hts
      go_enter Try.func8, Try.ntmps8
      go_wp2_with fail
      refine (bytes20_any t hs w).mono ?_
      rintro e w' ⟨rfl, hw⟩
      obtain rfl := hw.symm
      clear hw
      go_wp2_with fail
      refine hmod.mono ?_
      rintro e w1 ⟨rfl, hg1⟩
      go_wp2_with fail
      refine (zzColl_yes t h HG.out w1).mono ?_
      rintro e w' ⟨rfl, hw⟩
      obtain rfl := hw.symm
      clear hw
      go_wp2_with fail
      refine (zzColl_yes t h HG.out w1).mono ?_
      rintro e w' ⟨rfl, hw⟩
      obtain rfl := hw.symm
      clear hw
      go_wp2_with fail
      go_ret
      exact ⟨rfl, hg1⟩
    · have hts : t ≠ s := fun e => hg (by rw [← e]; exact HGT.out)
      have HG : Hid (¬ Good s.data.toList) := hg
      have hne : (t.toList == s.toList) = false := by
        cases hq : (t.toList == s.toList)
        · rfl
        · exfalso
          rw [ByteArray.toList_eq, ByteArray.toList_eq] at hq
          have hq' : t.data.toList = s.data.toList := by simpa using hq
          apply hts
          cases t; cases s
          simp only [ByteArray.mk.injEq]
          exact Array.toList_inj.1 hq'
      clear HT HTL hg hts
      go_enter Try.func8, Try.ntmps8
      go_wp2_with fail
      refine (bytes20_any s hs w).mono ?_
      rintro e w' ⟨rfl, hw⟩
      obtain rfl := hw.symm
      clear hw
      go_wp2_with fail
      refine hmod.mono ?_
      rintro e w1 ⟨rfl, hg1⟩
      go_wp2_with fail
      refine (zzColl_no s h HG.out w1).mono ?_
      rintro e w' ⟨rfl, hw⟩
      obtain rfl := hw.symm
      clear hw
      go_wp2_with fail
      refine (zzColl_yes t htz HGT.out w1).mono ?_
      rintro e w' ⟨rfl, hw⟩
      obtain rfl := hw.symm
      clear hw
      go_wp2_with fail
      go_ret
      exact ⟨rfl, hg1⟩
  · have hd : decide (s.size ≤ 1048576) = false := decide_eq_false h
    clear h
    go_enter Try.func8, Try.ntmps8
    go_wp2_with fail
    refine (bytes20_any s hs w).mono ?_
    rintro e w' ⟨rfl, hw⟩
    obtain rfl := hw.symm
    clear hw
    go_wp2_with fail
    go_ret
    exact ⟨rfl, World.grownBy.refl _ _⟩

end Go.Proofs.Qxb6000621a
