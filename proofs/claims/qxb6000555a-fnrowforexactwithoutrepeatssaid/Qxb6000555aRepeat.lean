import Derived.Test.Qxb6000555aHelp
namespace Go.Proofs.Qxb6000555a
open Go.RowKit Go.Maps

def NoRep (ws : List ByteArray) (ys : List Int) (i n : Nat) : Prop := ∀ j : Nat, i < j → j < n → ¬ (ws[i]? = ws[j]? ∧ ys[i]? = ys[j]?)

set_option maxHeartbeats 1000000 in
/-- zzHasRepeat -/
theorem repeat_any (w : World) (a1 a2 : Option Addr) (c1 c2 : Nat) (ws : List ByteArray) (ys : List Int) (n : Nat) (h1 : Cells w a1 (ws.map .string)) (h2 : Cells w a2 (ys.map (.int .i64))) (hnw : n ≤ ws.length) (hny : n ≤ ys.length) (hn : n ≤ 4096) :
    Calls Try.prog 28 #[.slice a1 ws.length c1, .slice a2 ys.length c2, .int .i64 n] w fun e w' => ∃ b : Bool, e = .returned (.bool b) ∧ (b = false → ∀ i, i < n → NoRep ws ys i n) ∧ ∃ nq, w' = w.drewN nq := by
  have H1 : Hid (Cells w a1 (ws.map .string)) := h1
  have H2 : Hid (Cells w a2 (ys.map (.int .i64))) := h2
  clear h1 h2
  go_enter Try.func28, Try.ntmps28
  go_wp2_with fail
  go_loopw [7] (fun s7 wr => ∃ a : Nat, s7 = .int .i64 a ∧ a ≤ n ∧ (∀ i, i < a → NoRep ws ys i n) ∧ ∃ nq, wr = w.drewN nq) (fun s7 _ => n - (intOf s7).toNat)
  case atStart => exact ⟨0, rfl, Nat.zero_le _, by omega, 0, rfl⟩
  case round =>
    obtain ⟨a, rfl, ha, hpre, nq, rfl⟩ := hrel
    have HP : Hid (∀ i, i < a → NoRep ws ys i n) := hpre
    clear hpre
    by_cases hlt : a < n
    · obtain ⟨s, hs⟩ := getD_some (l := ws) (k := a) (by omega)
      obtain ⟨y, hy⟩ := getD_some (l := ys) (k := a) (by omega)
      obtain ⟨b1, o1, ha1, hc1⟩ := H1.out a (.string s) (by simp [hs])
      obtain ⟨b2, o2, ha2, hc2⟩ := H2.out a (.int .i64 y) (by simp [hy])
      subst ha1 ha2
      have HS : Hid (ws[a]? = some s) := hs
      have HY : Hid (ys[a]? = some y) := hy
      have hal : (a : Int) < (ws.length : Int) := by omega
      have hal2 : (a : Int) < (ys.length : Int) := by omega
      clear hs hy
      go_wp2_with fail
      go_loopw [8] (fun s8 wr => ∃ b : Nat, s8 = .int .i64 b ∧ a < b ∧ b ≤ n ∧ (∀ j : Nat, a < j → j < b → ¬ (ws[a]? = ws[j]? ∧ ys[a]? = ys[j]?)) ∧ ∃ nq, wr = w.drewN nq) (fun s8 _ => n - (intOf s8).toNat)
      case atStart => exact ⟨a + 1, by go_num, by omega, by omega, by omega, _, rfl⟩
      case round =>
        obtain ⟨b, rfl, hab, hbn, hpre, nq2, rfl⟩ := hrel
        have HQ : Hid (∀ j : Nat, a < j → j < b → ¬ (ws[a]? = ws[j]? ∧ ys[a]? = ys[j]?)) := hpre
        clear hpre
        by_cases hlt2 : b < n
        · obtain ⟨t, ht⟩ := getD_some (l := ws) (k := b) (by omega)
          obtain ⟨v, hv⟩ := getD_some (l := ys) (k := b) (by omega)
          obtain ⟨b1', o1', ha1, hc3⟩ := H1.out b (.string t) (by simp [ht])
          obtain ⟨b2', o2', ha2, hc4⟩ := H2.out b (.int .i64 v) (by simp [hv])
          simp at ha1 ha2
          obtain ⟨rfl, rfl⟩ := ha1
          obtain ⟨rfl, rfl⟩ := ha2
          have HT : Hid (ws[b]? = some t) := ht
          have HV : Hid (ys[b]? = some v) := hv
          have hbl : (b : Int) < (ws.length : Int) := by omega
          have hbl2 : (b : Int) < (ys.length : Int) := by omega
          clear ht hv
          by_cases hts : s = t
          · subst hts
            have hse := str_eq_mk s
            by_cases hvy : y = v
            · subst hvy
              go_wp2_with fail
              go_quiet (fail)
              go_wp2_with fail
              go_ret
              exact ⟨true, rfl, by simp, _, World.drewN_drewN _ _ _⟩
            · have hne : (y == v) = false := by simpa using hvy
              go_wp2_with fail
              go_quiet (fail)
              go_wp2_with fail
              go_roundw
              case rel =>
                refine ⟨b + 1, by go_num, by omega, by omega, ?_, _, rfl⟩
                intro j hj1 hj2 hq
                by_cases hjb : j = b
                · subst hjb
                  have := hq.2
                  rw [HY.out, HV.out] at this
                  simp at this
                  exact hvy this
                · exact HQ.out j hj1 (by omega) hq
              case measure => simp [intOf]; omega
          · have hse := str_ne_mk hts
            go_wp2_with fail
            go_quiet (fail)
            go_wp2_with fail
            go_roundw
            case rel =>
              refine ⟨b + 1, by go_num, by omega, by omega, ?_, _, rfl⟩
              intro j hj1 hj2 hq
              by_cases hjb : j = b
              · subst hjb
                have := hq.1
                rw [HS.out, HT.out] at this
                simp at this
                exact hts this
              · exact HQ.out j hj1 (by omega) hq
            case measure => simp [intOf]; omega
        · go_wp2_with fail
          go_roundw
          case rel =>
            refine ⟨a + 1, by go_num, by omega, ?_, _, rfl⟩
            intro i hi
            by_cases hia : i = a
            · subst hia
              intro j hj1 hj2
              exact HQ.out j hj1 (by omega)
            · exact HP.out i (by omega)
          case measure => simp [intOf]; omega
    · go_wp2_with fail
      go_ret
      have : a = n := by omega
      subst this
      exact ⟨false, rfl, fun _ => HP.out, _, rfl⟩

end Go.Proofs.Qxb6000555a
