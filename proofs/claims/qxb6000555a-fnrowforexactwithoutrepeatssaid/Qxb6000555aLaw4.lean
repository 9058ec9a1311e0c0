import Derived.Test.Qxb6000555aLaw3
import Derived.Test.Qxb6000555aRepeat
namespace Go.Proofs.Qxb6000555a
open Go.RowKit Go.Maps

/-- the inner loop's 'want' after k entries -/
def Want (es : List (ByteArray × Int)) (k : Nat) (s : ByteArray) (y : Int) (r : Int) : Prop :=
  (r = -1 ∧ ∀ j : Nat, j < k → es[j]? ≠ some (s, y)) ∨ ∃ j : Nat, j < k ∧ r = j ∧ es[j]? = some (s, y)

theorem want_start {es : List (ByteArray × Int)} {s : ByteArray} {y : Int} : Want es 0 s y (-1) := .inl ⟨rfl, by omega⟩
theorem want_hit {es : List (ByteArray × Int)} {k : Nat} {s : ByteArray} {y : Int} (h : es[k]? = some (s, y)) : Want es (k + 1) s y k := .inr ⟨k, by omega, rfl, h⟩
theorem want_miss {es : List (ByteArray × Int)} {k : Nat} {s : ByteArray} {y r : Int} {e : ByteArray × Int} (hw : Want es k s y r) (h : es[k]? = some e) (hne : e ≠ (s, y)) : Want es (k + 1) s y r := by
  rcases hw with ⟨h1, h2⟩ | ⟨j, h1, h2, h3⟩
  · refine .inl ⟨h1, fun j hj he => ?_⟩
    by_cases hjk : j = k
    · subst hjk
      rw [h] at he
      simp at he
      exact hne he
    · exact h2 j (by omega) he
  · exact .inr ⟨j, by omega, h2, h3⟩
theorem want_row {es : List (ByteArray × Int)} {n : Nat} {s : ByteArray} {y r r' : Int} (hl : ∀ (i : Nat) (e : ByteArray × Int), es[i]? = some e → i < n) (hu : ∀ i j : Nat, es[i]? = some (s, y) → es[j]? = some (s, y) → i = j) (hw : Want es n s y r) (hr : RowAns es s y r') : r' = r := by
  rcases hw with ⟨h1, h2⟩ | ⟨j, h1, h2, h3⟩ <;> rcases hr with ⟨g1, g2⟩ | ⟨i, g1, g2⟩
  · rw [h1, g1]
  · exact absurd g2 (h2 i (hl i _ g2))
  · exact absurd h3 (g2 j)
  · rw [h2, g1, hu i j g2 h3]

set_option maxRecDepth 100000 in
set_option maxHeartbeats 2000000 in
theorem law4_main (w : World) (a1 a2 a3 a4 : Option Addr) (c1 c2 c3 c4 : Nat) (ws : List ByteArray) (ys : List Int) (qw : List ByteArray) (qy : List Int)
    (h1 : Cells w a1 (ws.map .string)) (h2 : Cells w a2 (ys.map (.int .i64))) (h3 : Cells w a3 (qw.map .string)) (h4 : Cells w a4 (qy.map (.int .i64)))
    (e1 : a1 = none → ws = [] ∧ c1 = 0) (e2 : a2 = none → ys = [] ∧ c2 = 0) (e3 : a3 = none → qw = [] ∧ c3 = 0) (e4 : a4 = none → qy = [] ∧ c4 = 0)
    (z1 : ∀ s ∈ ws, s.size ≤ 9223372036854775807) (z2 : ∀ y ∈ ys, (Lit.int .i64 y).wf = true) (z3 : ∀ s ∈ qw, s.size ≤ 9223372036854775807) (z4 : ∀ y ∈ qy, (Lit.int .i64 y).wf = true)
    (b1 : allLen ws ys qw qy ≤ 1048576) (n1 : ws.length ≤ 4096) (n2 : ys.length ≤ 4096) (n3 : qw.length ≤ 4096) (n4 : qy.length ≤ 4096)
    (b2 : 16 * ws.length + tot ws + 8 * ys.length + (16 * qw.length + tot qw) + 8 * qy.length ≤ 1048576) :
    Calls Try.prog 6 #[.slice a1 ws.length c1, .slice a2 ys.length c2, .slice a3 qw.length c3, .slice a4 qy.length c4] w fun e w' => e = .returned (.bool true) ∧ Below w.heap.size w w' := by
  have hd : decide (allLen ws ys qw qy ≤ 1048576) = true := decide_eq_true b1
  have B1 : Hid (allLen ws ys qw qy ≤ 1048576) := b1
  clear b1
  go_enter Try.func6, Try.ntmps6
  go_wp2_with fail
  refine (bytes27_any w a1 a2 a3 a4 c1 c2 c3 c4 ws ys qw qy h1 h3 z1 z3 (by omega) (by omega) (by omega) (by omega)).mono ?_
  rintro e w' ⟨rfl, hw⟩
  obtain rfl := hw.symm
  clear hw
  go_wp2_with fail
  refine (strBytes_any w a1 c1 ws h1 (by omega) (by omega)).mono ?_
  rintro e w' ⟨rfl, hw⟩
  obtain rfl := hw.symm
  clear hw
  go_wp2_with fail
  refine (strBytes_any w a3 c3 qw h3 (by omega) (by omega)).mono ?_
  rintro e w' ⟨rfl, hw⟩
  obtain rfl := hw.symm
  clear hw
  go_wp2_with fail
  refine (min_any ws.length ys.length w).mono ?_
  rintro e w' ⟨rfl, hw⟩
  obtain rfl := hw.symm
  clear hw
  generalize hn : min ws.length ys.length = n
  have hnw : n ≤ ws.length := by omega
  have hny : n ≤ ys.length := by omega
  clear hn
  go_wp2_with fail
  refine (min_any qw.length qy.length w).mono ?_
  rintro e w' ⟨rfl, hw⟩
  obtain rfl := hw.symm
  clear hw
  generalize hm : min qw.length qy.length = m
  have hmw : m ≤ qw.length := by omega
  have hmy : m ≤ qy.length := by omega
  clear hm
  go_wp2_with fail
  refine (repeat_any w a1 a2 c1 c2 ws ys n h1 h2 hnw hny (by omega)).mono ?_
  rintro e w0 ⟨b, rfl, hrep, nq, hw0⟩
  have g0 : w.grownBy w0 none := by rw [hw0]; exact grownBy_drewN _ _ _
  clear hw0
  cases b with
  | true =>
    clear h1 h2 h3 h4 e1 e2 e3 e4 hrep
    go_wp2_with fail
    go_ret
    exact ⟨rfl, below_of_grown g0 (Nat.le_refl _)⟩
  | false =>
    have HREP : Hid (∀ i, i < n → NoRep ws ys i n) := hrep rfl
    clear hrep
    go_wp2_with fail
    refine (copyStrs_all w0 a1 c1 ws (h1.grown g0) e1 (by omega)).mono ?_
    rintro e w1 ⟨p1, k1, rfl, q1, g1⟩
    go_wp2_with fail
    refine (copyInts_all w1 a2 c2 ys ((h2.grown g0).grown g1) e2 (by omega)).mono ?_
    rintro e w2 ⟨p2, k2, rfl, q2, g2⟩
    go_wp2_with fail
    refine (copyStrs_all w2 a3 c3 qw (((h3.grown g0).grown g1).grown g2) e3 (by omega)).mono ?_
    rintro e w3 ⟨p3, k3, rfl, q3, g3⟩
    go_wp2_with fail
    refine (copyInts_all w3 a4 c4 qy ((((h4.grown g0).grown g1).grown g2).grown g3) e4 (by omega)).mono ?_
    rintro e w4 ⟨p4, k4, rfl, q4, g4⟩
    go_wp2_with fail
    refine (new_any w4).mono ?_
    rintro e w5 ⟨rfl, hG5, g5⟩
    go_wp2_with fail
    have B5 : Below w4.heap.size w4 w5 := below_of_grown g5 (Nat.le_refl _)
    have HW : Hid (∀ w', Below w4.heap.size w5 w' → Cells w' p1 (ws.map .string)) := fun w' hb => (((q1.grown g2).grown g3).grown g4).keep (B5.trans hb) (Nat.le_refl _)
    have HY : Hid (∀ w', Below w4.heap.size w5 w' → Cells w' p2 (ys.map (.int .i64))) := fun w' hb => ((q2.grown g3).grown g4).keep (B5.trans hb) (Nat.le_refl _)
    have HQW : Hid (∀ w', Below w4.heap.size w5 w' → Cells w' p3 (qw.map .string)) := fun w' hb => (q3.grown g4).keep (B5.trans hb) (Nat.le_refl _)
    have HQY : Hid (∀ w', Below w4.heap.size w5 w' → Cells w' p4 (qy.map (.int .i64))) := fun w' hb => q4.keep (B5.trans hb) (Nat.le_refl _)
    have HB : Hid (Below w.heap.size w w5) := below_of_grown (((((g0.trans g1).trans g2).trans g3).trans g4).trans g5) (Nat.le_refl _)
    have hsz4 : w.heap.size ≤ w4.heap.size := ((((g0.trans g1).trans g2).trans g3).trans g4).size
    have hz1 : ∀ s ∈ ws, s.size ≤ maxLen := z1
    have hz3 : ∀ s ∈ qw, s.size ≤ maxLen := z3
    refine (build_any w5 p1 p2 k1 k2 ws ys w4.heap.size n g5.size hG5 HW.out HY.out hnw hny (by omega) hz1 z2).mono ?_
    rintro e w6 ⟨rfl, names, cs, hR⟩
    have hR0 : Hid (RB w4.heap.size w5.heap.size n ws ys w5 w6 n names cs) := hR
    have hNl : w4.heap.size + 3 < w5.heap.size := hG5.lt
    generalize hN : w4.heap.size = N at *
    clear h1 h2 h3 h4 e1 e2 e3 e4 q1 q2 q3 q4 g0 g1 g2 g3 g4 g5 hG5 hR B5 z1 z3 hd b2 B1 hN
    have hent : Hid (∀ (i : Nat) (t : ByteArray) (v : Int), ((ws.zip ys).take n)[i]? = some (t, v) ↔ i < n ∧ ws[i]? = some t ∧ ys[i]? = some v) := fun i t v => ⟨zip_take_at, fun ⟨u1, u2, u3⟩ => by rw [List.getElem?_take, if_pos u1]; exact zip_at u2 u3⟩
    have huniq : Hid (∀ (t : ByteArray) (v : Int) (i j : Nat), ((ws.zip ys).take n)[i]? = some (t, v) → ((ws.zip ys).take n)[j]? = some (t, v) → i = j) := fun t v i j hi hj => by
      obtain ⟨u1, u2, u3⟩ := zip_take_at hi
      obtain ⟨v1, v2, v3⟩ := zip_take_at hj
      rcases Nat.lt_trichotomy i j with h | h | h
      · exact absurd ⟨by rw [u2, v2], by rw [u3, v3]⟩ (HREP.out i u1 j h v1)
      · exact h
      · exact absurd ⟨by rw [u2, v2], by rw [u3, v3]⟩ (HREP.out j v1 i h u1)
    go_wp2_with fail
    go_loopw [13] (fun i wr => ∃ k : Nat, k ≤ n ∧ i = .int .i64 k ∧ w6.grownBy wr none) (fun i _ => n - (intOf i).toNat)
    case atStart => exact ⟨0, Nat.zero_le _, rfl, World.grownBy.refl _ _⟩
    case round =>
      obtain ⟨k, hk, rfl, hg⟩ := hrel
      by_cases hlt : k < n
      · obtain ⟨s, hs⟩ := getD_some (l := ws) (k := k) (by omega)
        obtain ⟨y, hys⟩ := getD_some (l := ys) (k := k) (by omega)
        obtain ⟨i, hi, hcsk⟩ := hR0.out.seen k s hlt hs
        have hbel : Below N w5 wr := hR0.out.below.grown hg (by have := hR0.out.below.size; omega) (by simp)
        obtain ⟨by', oy, hay, hcy⟩ := HY.out wr hbel k (.int .i64 y) (by simp [hys])
        subst hay
        have hgot := hR0.out.got.kept hg (by right; simp [Value.ownBlock])
        have hck : wr.cell? ⟨w5.heap.size, k, none⟩ = some (.int .i64 i) := by rw [hgot.cellAt k (by omega), hcsk]
        have HG : Hid (IsG wr N names ((ws.zip ys).take n)) := hR0.out.isG.fresh hg
        have hwy := z2 y (List.mem_of_getElem? hys)
        have HI : Hid (names[i]? = some s) := hi
        have HGR : Hid (w6.grownBy wr none) := hg
        have HK : Hid (∀ r, RowAns ((ws.zip ys).take n) s y r → r = (k : Int)) := fun r hr => by
          have hkk := (hent.out k s y).2 ⟨hlt, hs, hys⟩
          rcases hr with ⟨_, hno⟩ | ⟨ri, hri, hat⟩
          · exact absurd hkk (hno k)
          · rw [hri, huniq.out s y ri k hat hkk]
        clear hs hys hi hcsk hgot hbel hg
        go_wp2_with fail
        go_cut [100] (fun s100 wc => s100 = .bool false ∧ w6.grownBy wc none)
        case first =>
          go_region_with (go_at_call 26; refine (zzRowFor_any HG.out.drew i s y HI.out hwy).mono ?_; rintro e w' ⟨r, rfl, hr, hg⟩; obtain rfl := (HK.out r hr).symm)
          all_goals
            go_wp2_with fail
            go_meet
            case rel =>
              have g9 : wr.grownBy w' none := ⟨hg.os, hg.tape, hg.output, hg.size, fun j hj hq => hg.block j hj hq⟩
              exact ⟨by simp, HGR.out.trans g9⟩
        case rest =>
          obtain ⟨rfl, hg⟩ := hcut
          have HGR2 : Hid (w6.grownBy wc none) := hg
          clear hcy hck HG hg HGR
          go_wp2_with fail
          go_roundw
          case rel => exact ⟨k + 1, by omega, by go_num, HGR2.out⟩
          case measure => simp [intOf]; omega
      · have hG0 : Hid (IsG wr N names ((ws.zip ys).take n)) := hR0.out.isG.fresh hg
        have hB0 : Hid (Below N w5 wr) := hR0.out.below.grown hg (by have := hR0.out.below.size; omega) (by simp)
        have hin : Hid (∀ e ∈ (ws.zip ys).take n, e.1 ∈ names) := fun e he => by
          obtain ⟨j, hj⟩ := List.getElem?_of_mem he
          obtain ⟨t1, t2, _⟩ := zip_take_at (s := e.1) (y := e.2) hj
          obtain ⟨i, hi, _⟩ := hR0.out.seen j e.1 t1 t2
          exact List.mem_of_getElem? hi
        have hnl : names.length ≤ 4096 := by rw [hR0.out.len]; have := firsts_le ws n; omega
        clear hR0 hg HREP
        generalize (ws.zip ys).take n = es at hG0 hin hent huniq
        go_wp2_with fail
        go_loopw [14] (fun i wr => ∃ (q : Nat) (nms : List ByteArray), i = .int .i64 q ∧ q ≤ m ∧ IsG wr N nms es ∧ (∀ e ∈ es, e.1 ∈ nms) ∧ Below N w5 wr ∧ nms.length ≤ 4096 + q) (fun i _ => m - (intOf i).toNat)
        case atStart => exact ⟨0, names, rfl, Nat.zero_le _, hG0.out, hin.out, hB0.out, by omega⟩
        case round =>
          clear hG0 hB0 hin hlt hk
          obtain ⟨q, nms, rfl, hq, hG, hin, hB, hnq⟩ := hrel
          by_cases hlt : q < m
          · obtain ⟨s, hs⟩ := getD_some (l := qw) (k := q) (by omega)
            obtain ⟨y, hys⟩ := getD_some (l := qy) (k := q) (by omega)
            obtain ⟨bw, ow, haw, hcs⟩ := HQW.out _ hB q (.string s) (by simp [hs])
            obtain ⟨by', oy, hay, hcy⟩ := HQY.out _ hB q (.int .i64 y) (by simp [hys])
            subst haw hay
            have HS : Hid (qw[q]? = some s) := hs
            have HYS : Hid (qy[q]? = some y) := hys
            have hwy := z4 y (List.mem_of_getElem? hys)
            have hsz := hz3 s (List.mem_of_getElem? hs)
            have HG : Hid (IsG wr N nms es) := hG
            have HIN : Hid (∀ e ∈ es, e.1 ∈ nms) := hin
            have HB : Hid (Below N w5 wr) := hB
            clear hs hys hG hin hB
            go_upto_region 25 with fail
            go_cut [15] (fun s15 wc => ∃ (i : Nat) (nms' : List ByteArray), s15 = .int .i64 i ∧ nms'[i]? = some s ∧ IsG wc N nms' es ∧ (∀ e ∈ es, e.1 ∈ nms') ∧ Below N w5 wc ∧ nms'.length ≤ 4096 + q + 1)
            case first =>
              by_cases hmem : ∃ i : Nat, nms[i]? = some s
              · obtain ⟨i, hi⟩ := hmem
                have HI : Hid (nms[i]? = some s) := hi
                clear hi
                go_wp2_with fail
                refine (index_old HG.out i s HI.out).mono ?_
                rintro e w7 ⟨rfl, hw⟩
                obtain rfl := hw.symm
                clear hw
                go_wp2_with fail
                go_meet
                case rel => exact ⟨i, nms, rfl, HI.out, HG.out, HIN.out, HB.out, by omega⟩
              · have hn : s ∉ nms := fun hm => by
                  obtain ⟨i, hi, e⟩ := List.mem_iff_getElem.1 hm
                  exact hmem ⟨i, by rw [List.getElem?_eq_getElem hi, e]⟩
                have hno : ∀ (j : Nat) (e : ByteArray × Int), es[j]? = some e → e.1 ≠ s := fun j e hj he => hn (he ▸ HIN.out e (List.mem_of_getElem? hj))
                have HC0 : Hid (cnt s es = 0) := cnt_none _ _ (fun e he hq => hn (hq ▸ HIN.out e he))
                have HL0 : Hid (lastOf s es = -1) := lastOf_none _ _ hno
                clear hno hmem
                go_wp2_with fail
                refine (index_new HG.out s hn hsz HC0.out HL0.out (by omega)).mono ?_
                rintro e w7 ⟨rfl, hG7, hK7⟩
                have HG7 : Hid _ := hG7
                have HK7 : Hid _ := hK7
                clear hG7 hK7
                go_wp2_with fail
                go_meet
                case rel => exact ⟨nms.length, nms ++ [s], rfl, by simp, HG7.out, fun e he => List.mem_append_left _ (HIN.out e he), HB.out.trans HK7.out.below, by simp; omega⟩
            case rest =>
              clear HG HIN hcs hcy HB hnq
              obtain ⟨i, nms', rfl, hi, hG, hin, hB, hnq⟩ := hcut
              obtain ⟨by2, oy2, hay2, hcy⟩ := HQY.out _ hB q (.int .i64 y) (by simp [HYS.out])
              simp at hay2
              obtain ⟨rfl, rfl⟩ := hay2
              obtain ⟨bw2, ow2, haw2, hcs⟩ := HQW.out _ hB q (.string s) (by simp [HS.out])
              simp at haw2
              obtain ⟨rfl, rfl⟩ := haw2
              have HI : Hid (nms'[i]? = some s) := hi
              have HG : Hid (IsG wc N nms' es) := hG
              have HIN : Hid (∀ e ∈ es, e.1 ∈ nms') := hin
              have HB3 : Hid (Below N w5 wc) := hB
              have hql : (q : Int) < (qw.length : Int) := by omega
              have hql2 : (q : Int) < (qy.length : Int) := by omega
              clear hi hG hin hB
              go_wp2_with fail
              go_loopw [16, 17] (fun s16 s17 wr => ∃ (k : Nat) (r : Int), s17 = .int .i64 k ∧ k ≤ n ∧ s16 = .int .i64 r ∧ Want es k s y r ∧ ∃ nq, wr = wc.drewN nq) (fun _ s17 _ => n - (intOf s17).toNat)
              case atStart => exact ⟨0, -1, rfl, Nat.zero_le _, rfl, want_start, 0, rfl⟩
              case round =>
                obtain ⟨k, r, rfl, hk, rfl, hwant, nq, rfl⟩ := hrel
                have HWT : Hid (Want es k s y r) := hwant
                clear hwant
                by_cases hlt2 : k < n
                · obtain ⟨t, ht⟩ := getD_some (l := ws) (k := k) (by omega)
                  obtain ⟨v, hv⟩ := getD_some (l := ys) (k := k) (by omega)
                  obtain ⟨b1, o1, ha1, hc1⟩ := HW.out _ HB3.out k (.string t) (by simp [ht])
                  obtain ⟨b2, o2, ha2, hc2⟩ := HY.out _ HB3.out k (.int .i64 v) (by simp [hv])
                  subst ha1 ha2
                  have hkl : (k : Int) < (ws.length : Int) := by omega
                  have hkl2 : (k : Int) < (ys.length : Int) := by omega
                  have HE : Hid (es[k]? = some (t, v)) := (hent.out k t v).2 ⟨hlt2, ht, hv⟩
                  clear ht hv
                  by_cases hts : t = s
                  · subst hts
                    have hse := str_eq_mk t
                    by_cases hvy : v = y
                    · subst hvy
                      go_wp2_with fail
                      go_quiet (fail)
                      go_wp2_with fail
                      go_roundw
                      case rel => exact ⟨k + 1, k, by go_num, by omega, rfl, want_hit HE.out, _, rfl⟩
                      case measure => simp [intOf]; omega
                    · have hne : (v == y) = false := by simpa using hvy
                      go_wp2_with fail
                      go_quiet (fail)
                      go_wp2_with fail
                      go_roundw
                      case rel => exact ⟨k + 1, r, by go_num, by omega, rfl, want_miss HWT.out HE.out (by simpa using hvy), _, rfl⟩
                      case measure => simp [intOf]; omega
                  · have hse := str_ne_mk hts
                    go_wp2_with fail
                    go_quiet (fail)
                    go_wp2_with fail
                    go_roundw
                    case rel => exact ⟨k + 1, r, by go_num, by omega, rfl, want_miss HWT.out HE.out (by simp [hts]), _, rfl⟩
                    case measure => simp [intOf]; omega
                · have hkn : k = n := by omega
                  subst hkn
                  have HRR : Hid (∀ r', RowAns es s y r' → r' = r) := fun r' hr => want_row (fun i e he => ((hent.out i e.1 e.2).1 he).1) (fun i j => huniq.out s y i j) HWT.out hr
                  clear HWT
                  go_wp2_with fail
                  refine (zzRowFor_any (HG.out.drewN _) i s y HI.out hwy).mono ?_
                  rintro e w8 ⟨r', rfl, hr, hg8⟩
                  obtain rfl := (HRR.out r' hr).symm
                  have HB8 : Hid (Below N w5 w8) := (below_drewN HB3.out nq).grown hg8 (by have := IsG.lt HG.out; simp; omega) (by simp)
                  have HG8 : Hid (IsG w8 N nms' es) := (IsG.drewN HG.out nq).fresh hg8
                  clear hr hg8 HRR
                  go_wp2_with fail
                  go_roundw
                  case rel => exact ⟨q + 1, nms', by go_num, by omega, HG8.out, HIN.out, HB8.out, by omega⟩
                  case measure => simp [intOf]; omega
          · go_wp2_with fail
            go_ret
            exact ⟨rfl, HB.out.trans (hB.mono hsz4)⟩

end Go.Proofs.Qxb6000555a
