import Derived.Test.Qxb6000621aRows
import Derived.WalkKit
import Derived.ProofKit
import Derived.WalkSpells
import Derived.WalkLawsBesides
namespace Go.Proofs.Qxb6000621a
open Go.RowKit

def dv (a : Int) : Int := if 48 ≤ a ∧ a ≤ 57 then a - 48 else if 97 ≤ a ∧ a ≤ 102 then a - 97 + 10 else if 65 ≤ a ∧ a ≤ 70 then a - 65 + 10 else 16

set_option maxHeartbeats 400000 in
theorem digit_any (a : Int) (h0 : 0 ≤ a) (h1 : a ≤ 255) (w : World) : Calls Try.prog 25 #[.int .u8 a] w fun e w' => e = .returned (.int .i64 (dv a)) ∧ w' = w := by
  have fin : ∀ {x : Int} {w' : World}, x = dv a → w' = w → Ending.returned (.int .i64 x) = .returned (.int .i64 (dv a)) ∧ w' = w := fun hx hw => ⟨by rw [hx], hw⟩
  have FIN : Hid _ := @fin
  clear fin
  rcases (show a < 48 ∨ (48 ≤ a ∧ a ≤ 57) ∨ (58 ≤ a ∧ a ≤ 64) ∨ (65 ≤ a ∧ a ≤ 70) ∨ (71 ≤ a ∧ a ≤ 96) ∨ (97 ≤ a ∧ a ≤ 102) ∨ 103 ≤ a by omega) with h | ⟨h, h'⟩ | ⟨h, h'⟩ | ⟨h, h'⟩ | ⟨h, h'⟩ | ⟨h, h'⟩ | h
  all_goals
    go_enter Try.func25, Try.ntmps25
    go_wp2
    go_ret
    refine FIN.out ?_ rfl
    unfold dv
    split
    · omega
    · split
      · omega
      · split <;> omega

set_option maxHeartbeats 400000 in
theorem zzDigit_any (a : Int) (h0 : 0 ≤ a) (h1 : a ≤ 255) (w : World) : Calls Try.prog 19 #[.int .u8 a] w fun e w' => e = .returned (.int .i64 (dv a)) ∧ w' = w := by
  go_enter Try.func19, Try.ntmps19
  go_wp2_with (go_at_call 25; refine (digit_any a h0 h1 _).mono ?_; rintro e w' ⟨rfl, rfl⟩)
  go_ret
  exact ⟨rfl, rfl⟩

/-! ### the two digit tables -/
def lo (i : Nat) : Int := if i < 10 then 48 + i else 87 + i
def up (i : Nat) : Int := if i < 10 then 48 + i else 55 + i
def fnd (a : Int) : Nat → Int
  | 0 => -1
  | k + 1 => if lo k = a ∨ up k = a then (k : Int) else fnd a k

theorem fnd_dv (a : Int) (h0 : 0 ≤ a) (h1 : a ≤ 255) : (fnd a 16 < 0 → dv a = 16) ∧ (¬ fnd a 16 < 0 → dv a = fnd a 16) := by
  have h : ∀ n : Fin 256, (fnd (n.val : Int) 16 < 0 → dv (n.val : Int) = 16) ∧ (¬ fnd (n.val : Int) 16 < 0 → dv (n.val : Int) = fnd (n.val : Int) 16) := by decide +kernel
  have := h ⟨a.toNat, by omega⟩
  have e : ((a.toNat : Nat) : Int) = a := by omega
  simpa only [e] using this
theorem fnd_ge (a : Int) (k : Nat) : -1 ≤ fnd a k := by
  induction k with
  | zero => exact Int.le_refl _
  | succ k ih => simp only [fnd]; split <;> omega
theorem fnd_le (a : Int) (k : Nat) : fnd a k ≤ k := by
  induction k with
  | zero => simp [fnd]
  | succ k ih => simp only [fnd]; split <;> omega

theorem lo_tab (k : Nat) (h : k < 16) : (((({ data := #[48, 49, 50, 51, 52, 53, 54, 55, 56, 57, 97, 98, 99, 100, 101, 102] } : ByteArray)[k]'h).toNat : Nat) : Int) = lo k := by
  have e : ∀ i : Fin 16, (((({ data := #[48, 49, 50, 51, 52, 53, 54, 55, 56, 57, 97, 98, 99, 100, 101, 102] } : ByteArray)[i.val]'i.isLt).toNat : Nat) : Int) = lo i.val := by decide
  exact e ⟨k, h⟩
theorem up_tab (k : Nat) (h : k < 16) : (((({ data := #[48, 49, 50, 51, 52, 53, 54, 55, 56, 57, 65, 66, 67, 68, 69, 70] } : ByteArray)[k]'h).toNat : Nat) : Int) = up k := by
  have e : ∀ i : Fin 16, (((({ data := #[48, 49, 50, 51, 52, 53, 54, 55, 56, 57, 65, 66, 67, 68, 69, 70] } : ByteArray)[i.val]'i.isLt).toNat : Nat) : Int) = up i.val := by decide
  exact e ⟨k, h⟩

set_option maxHeartbeats 2000000 in
theorem hex_any (a : Int) (h0 : 0 ≤ a) (h1 : a ≤ 255) (w : World) : Calls Try.prog 6 #[.int .u8 a] w fun e w' => e = .returned (.bool true) ∧ w' = w := by
  obtain ⟨f1, f2⟩ := fnd_dv a h0 h1
  have F1 : Hid (fnd a 16 < 0 → dv a = 16) := f1
  have F2 : Hid (¬ fnd a 16 < 0 → dv a = fnd a 16) := f2
  clear f1 f2
  go_enter Try.func6, Try.ntmps6
  go_wp2
  go_loop [3, 4] (fun f i => ∃ k : Nat, k ≤ 16 ∧ i = .int .i64 k ∧ f = .int .i64 (fnd a k)) (fun _ i => 16 - (intOf i).toNat)
  case atStart => exact ⟨0, by omega, rfl, rfl⟩
  case round =>
    obtain ⟨k, hk, rfl, rfl⟩ := hrel
    by_cases hlt : k < 16
    · have hs : fnd a (k + 1) = if lo k = a ∨ up k = a then (k : Int) else fnd a k := rfl
      have HS : Hid (fnd a (k + 1) = if lo k = a ∨ up k = a then (k : Int) else fnd a k) := hs
      clear hs
      have t1 := lo_tab k hlt
      have t2 := up_tab k hlt
      by_cases c1 : lo k = a
      · have HF : Hid (fnd a (k + 1) = (k : Int)) := by show _ = _; rw [HS.out, if_pos (.inl c1)]
        have n1 : (lo k == a) = true := by simpa using c1
        clear HS c1
        go_wp2
        go_round
        case rel => exact ⟨k + 1, by omega, by go_num, by rw [HF.out]⟩
        case measure => simp [intOf]; omega
      · by_cases c2 : up k = a
        · have HF : Hid (fnd a (k + 1) = (k : Int)) := by show _ = _; rw [HS.out, if_pos (.inr c2)]
          have n1 : (lo k == a) = false := by simpa using c1
          have n2 : (up k == a) = true := by simpa using c2
          clear HS c1 c2
          go_wp2
          go_round
          case rel => exact ⟨k + 1, by omega, by go_num, by rw [HF.out]⟩
          case measure => simp [intOf]; omega
        · have HF : Hid (fnd a (k + 1) = fnd a k) := by show _ = _; rw [HS.out, if_neg (by rintro (h | h); exact c1 h; exact c2 h)]
          have n1 : (lo k == a) = false := by simpa using c1
          have n2 : (up k == a) = false := by simpa using c2
          clear HS c1 c2
          go_wp2
          go_round
          case rel => exact ⟨k + 1, by omega, by go_num, by rw [HF.out]⟩
          case measure => simp [intOf]; omega
    · have e : k = 16 := by omega
      subst e
      by_cases hneg : fnd a 16 < 0
      · have hd : dv a = 16 := F1.out (by omega)
        have HD : Hid (dv a = 16) := hd
        clear hd F1 F2
        go_wp2_with (go_at_call 19; refine (zzDigit_any a h0 h1 _).mono ?_; rintro e w' ⟨rfl, rfl⟩)
        go_ret
        have := HD.out
        exact ⟨by simp [this], rfl⟩
      · have HD : Hid (dv a = fnd a 16) := F2.out (by omega)
        clear F1 F2
        go_wp2_with (go_at_call 19; refine (zzDigit_any a h0 h1 _).mono ?_; rintro e w' ⟨rfl, rfl⟩)
        go_ret
        have := HD.out
        exact ⟨by simp [this], rfl⟩

/-! ### letters -/
theorem xor_low (a : Int) (h0 : 97 ≤ a) (h1 : a ≤ 122) : bits BinOp.xor IntKind.u8 a 32 = a - 32 := by
  have h : ∀ n : Fin 256, 97 ≤ n.val → n.val ≤ 122 → bits BinOp.xor IntKind.u8 (n.val : Int) 32 = (n.val : Int) - 32 := by decide +kernel
  have := h ⟨a.toNat, by omega⟩ (by show 97 ≤ a.toNat; omega) (by show a.toNat ≤ 122; omega)
  have e : ((a.toNat : Nat) : Int) = a := by omega
  simpa only [e] using this
theorem or_low (a : Int) (h0 : 97 ≤ a) (h1 : a ≤ 122) : bits BinOp.or IntKind.u8 a 32 = a := by
  have h : ∀ n : Fin 256, 97 ≤ n.val → n.val ≤ 122 → bits BinOp.or IntKind.u8 (n.val : Int) 32 = (n.val : Int) := by decide +kernel
  have := h ⟨a.toNat, by omega⟩ (by show 97 ≤ a.toNat; omega) (by show a.toNat ≤ 122; omega)
  have e : ((a.toNat : Nat) : Int) = a := by omega
  simpa only [e] using this
theorem xor_up (a : Int) (h0 : 65 ≤ a) (h1 : a ≤ 90) : bits BinOp.xor IntKind.u8 a 32 = a + 32 := by
  have h : ∀ n : Fin 256, 65 ≤ n.val → n.val ≤ 90 → bits BinOp.xor IntKind.u8 (n.val : Int) 32 = (n.val : Int) + 32 := by decide +kernel
  have := h ⟨a.toNat, by omega⟩ (by show 65 ≤ a.toNat; omega) (by show a.toNat ≤ 90; omega)
  have e : ((a.toNat : Nat) : Int) = a := by omega
  simpa only [e] using this
theorem or_up (a : Int) (h0 : 65 ≤ a) (h1 : a ≤ 90) : bits BinOp.or IntKind.u8 a 32 = a + 32 := by
  have h : ∀ n : Fin 256, 65 ≤ n.val → n.val ≤ 90 → bits BinOp.or IntKind.u8 (n.val : Int) 32 = (n.val : Int) + 32 := by decide +kernel
  have := h ⟨a.toNat, by omega⟩ (by show 65 ≤ a.toNat; omega) (by show a.toNat ≤ 90; omega)
  have e : ((a.toNat : Nat) : Int) = a := by omega
  simpa only [e] using this

theorem dv_case (a : Int) (h0 : 65 ≤ a) (h1 : a ≤ 90) : dv (a + 32) = dv a ∧ (a ≤ 70 → dv a = a - 65 + 10) ∧ (70 < a → dv a = 16) := by
  unfold dv
  refine ⟨?_, ?_, ?_⟩
  · split
    · omega
    · split
      · rw [if_neg (by omega), if_neg (by omega), if_pos (by omega)]; omega
      · rw [if_neg (by omega), if_neg (by omega), if_neg (by omega), if_neg (by omega)]
  · intro h
    rw [if_neg (by omega), if_neg (by omega), if_pos (by omega)]
  · intro h
    rw [if_neg (by omega), if_neg (by omega), if_neg (by omega)]

theorem ret_true {b : Bool} (h : b = true) : Ending.returned (.bool b) = .returned (.bool true) := by rw [h]

set_option maxHeartbeats 2000000 in
theorem case_any (a : Int) (h0 : 0 ≤ a) (h1 : a ≤ 255) (w : World) : Calls Try.prog 7 #[.int .u8 a] w fun e w' => e = .returned (.bool true) ∧ w' = w := by
  rcases (show a < 65 ∨ (65 ≤ a ∧ a ≤ 70) ∨ (71 ≤ a ∧ a ≤ 90) ∨ (91 ≤ a ∧ a ≤ 96) ∨ (97 ≤ a ∧ a ≤ 102) ∨ (103 ≤ a ∧ a ≤ 122) ∨ 123 ≤ a by omega) with h | ⟨h, h'⟩ | ⟨h, h'⟩ | ⟨h, h'⟩ | ⟨h, h'⟩ | ⟨h, h'⟩ | h
  · go_enter Try.func7, Try.ntmps7
    go_wp2
    go_ret
    exact ⟨rfl, rfl⟩
  · obtain ⟨d1, d2, _⟩ := dv_case a h (by omega)
    have D1 : Hid (dv (a + 32) = dv a) := d1
    have D2 : Hid (dv a = a - 65 + 10) := d2 h'
    clear d1 d2
    have hx := xor_up a h (by omega)
    have ho := or_up a h (by omega)
    have hq : decide (a ≤ 90) = true := decide_eq_true (by omega)
    go_enter Try.func7, Try.ntmps7
    go_wp2_with fail
    refine (zzDigit_any a h0 h1 w).mono ?_
    rintro e w' ⟨rfl, rfl⟩
    go_wp2_with fail
    refine (zzDigit_any (a + 32) (by omega) (by omega) w').mono ?_
    rintro e w' ⟨rfl, rfl⟩
    rw [D1.out, D2.out]
    go_wp2_with fail
    go_ret
    exact ⟨ret_true (by simp; omega), rfl⟩
  · obtain ⟨d1, _, d2⟩ := dv_case a (by omega) (by omega)
    have D1 : Hid (dv (a + 32) = dv a) := d1
    have D2 : Hid (dv a = 16) := d2 (by omega)
    clear d1 d2
    have hx := xor_up a (by omega) (by omega)
    have ho := or_up a (by omega) (by omega)
    have hq : decide (a ≤ 90) = true := decide_eq_true (by omega)
    have hq2 : decide (65 ≤ a) = true := decide_eq_true (by omega)
    have hq3 : decide (97 ≤ a) = false := decide_eq_false (by omega)
    go_enter Try.func7, Try.ntmps7
    go_wp2_with fail
    refine (zzDigit_any a h0 h1 w).mono ?_
    rintro e w' ⟨rfl, rfl⟩
    go_wp2_with fail
    refine (zzDigit_any (a + 32) (by omega) (by omega) w').mono ?_
    rintro e w' ⟨rfl, rfl⟩
    rw [D1.out, D2.out]
    go_wp2_with fail
    go_ret
    exact ⟨rfl, rfl⟩
  · have hq : decide (a ≤ 90) = false := decide_eq_false (by omega)
    have hq3 : decide (97 ≤ a) = false := decide_eq_false (by omega)
    go_enter Try.func7, Try.ntmps7
    go_wp2
    go_ret
    exact ⟨rfl, rfl⟩
  · obtain ⟨d1, d2, _⟩ := dv_case (a - 32) (by omega) (by omega)
    have e32 : a - 32 + 32 = a := by omega
    rw [e32] at d1
    have D1 : Hid (dv a = dv (a - 32)) := d1
    have D2 : Hid (dv (a - 32) = a - 32 - 65 + 10) := d2 (by omega)
    clear d1 d2 e32
    have hx := xor_low a (by omega) (by omega)
    have ho := or_low a (by omega) (by omega)
    have hq : decide (a ≤ 122) = true := decide_eq_true (by omega)
    go_enter Try.func7, Try.ntmps7
    go_wp2_with fail
    refine (zzDigit_any a h0 h1 w).mono ?_
    rintro e w' ⟨rfl, rfl⟩
    go_wp2_with fail
    refine (zzDigit_any (a - 32) (by omega) (by omega) w').mono ?_
    rintro e w' ⟨rfl, rfl⟩
    rw [D1.out, D2.out]
    go_wp2_with fail
    go_ret
    exact ⟨ret_true (by simp; omega), rfl⟩
  · obtain ⟨d1, _, d2⟩ := dv_case (a - 32) (by omega) (by omega)
    have e32 : a - 32 + 32 = a := by omega
    rw [e32] at d1
    have D1 : Hid (dv a = dv (a - 32)) := d1
    have D2 : Hid (dv (a - 32) = 16) := d2 (by omega)
    clear d1 d2 e32
    have hx := xor_low a (by omega) (by omega)
    have ho := or_low a (by omega) (by omega)
    have hq : decide (a ≤ 122) = true := decide_eq_true (by omega)
    have hq2 : decide (97 ≤ a) = true := decide_eq_true (by omega)
    go_enter Try.func7, Try.ntmps7
    go_wp2_with fail
    refine (zzDigit_any a h0 h1 w).mono ?_
    rintro e w' ⟨rfl, rfl⟩
    go_wp2_with fail
    refine (zzDigit_any (a - 32) (by omega) (by omega) w').mono ?_
    rintro e w' ⟨rfl, rfl⟩
    rw [D1.out, D2.out]
    go_wp2_with fail
    go_ret
    exact ⟨rfl, rfl⟩
  · have hq : decide (a ≤ 122) = false := decide_eq_false (by omega)
    have hq2 : decide (a ≤ 90) = false := decide_eq_false (by omega)
    go_enter Try.func7, Try.ntmps7
    go_wp2
    go_ret
    exact ⟨rfl, rfl⟩

end Go.Proofs.Qxb6000621a
