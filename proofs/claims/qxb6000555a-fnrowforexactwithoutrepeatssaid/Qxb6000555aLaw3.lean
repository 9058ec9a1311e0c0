import Derived.Test.Qxb6000555aBuild
import Derived.Test.Qxb6000555aRowFor
import Derived.Test.Qxb6000555aBytes
import Derived.Deep.RegionWith
namespace Go.Proofs.Qxb6000555a
open Go.RowKit Go.Maps

theorem below_of_grown {w w' : World} {N : Nat} (h : w.grownBy w' none) (hN : N ≤ w.heap.size) : Below N w w' := (Below.refl _ _).grown h hN (by simp)

theorem ex_hit {es : List (ByteArray × Int)} {s : ByteArray} {y : Int} {k : Nat} (h : es[k]? = some (s, y)) : (true = true ↔ ∃ j : Nat, j < k + 1 ∧ es[j]? = some (s, y)) := ⟨fun _ => ⟨k, by omega, h⟩, fun _ => rfl⟩
theorem ex_miss {es : List (ByteArray × Int)} {s : ByteArray} {y : Int} {k : Nat} {b : Bool} {e : ByteArray × Int} (hb : b = true ↔ ∃ j : Nat, j < k ∧ es[j]? = some (s, y)) (h : es[k]? = some e) (hne : e ≠ (s, y)) : (b = true ↔ ∃ j : Nat, j < k + 1 ∧ es[j]? = some (s, y)) := by
  rw [hb]
  constructor
  · rintro ⟨j, hj, he⟩
    exact ⟨j, by omega, he⟩
  · rintro ⟨j, hj, he⟩
    refine ⟨j, ?_, he⟩
    by_cases hjk : j = k
    · subst hjk
      rw [h] at he
      simp at he
      exact absurd he hne
    · omega

theorem IsG.drew {w : World} {N : Nat} {names : List ByteArray} {es : List (ByteArray × Int)} (h : IsG w N names es) : IsG w.drew N names es :=
  h.fresh ⟨rfl, rfl, rfl, Nat.le_refl _, fun _ _ _ => rfl⟩

set_option maxRecDepth 100000 in
set_option maxHeartbeats 2000000 in
theorem law3_main (w : World) (a1 a2 a3 a4 : Option Addr) (c1 c2 c3 c4 : Nat) (ws : List ByteArray) (ys : List Int) (qw : List ByteArray) (qy : List Int)
    (h1 : Cells w a1 (ws.map .string)) (h2 : Cells w a2 (ys.map (.int .i64))) (h3 : Cells w a3 (qw.map .string)) (h4 : Cells w a4 (qy.map (.int .i64)))
    (e1 : a1 = none → ws = [] ∧ c1 = 0) (e2 : a2 = none → ys = [] ∧ c2 = 0) (e3 : a3 = none → qw = [] ∧ c3 = 0) (e4 : a4 = none → qy = [] ∧ c4 = 0)
    (z1 : ∀ s ∈ ws, s.size ≤ 9223372036854775807) (z2 : ∀ y ∈ ys, (Lit.int .i64 y).wf = true) (z3 : ∀ s ∈ qw, s.size ≤ 9223372036854775807) (z4 : ∀ y ∈ qy, (Lit.int .i64 y).wf = true)
    (b1 : allLen ws ys qw qy ≤ 1048576) (n1 : ws.length ≤ 4096) (n2 : ys.length ≤ 4096) (n3 : qw.length ≤ 4096) (n4 : qy.length ≤ 4096)
    (b2 : 16 * ws.length + tot ws + 8 * ys.length + (16 * qw.length + tot qw) + 8 * qy.length ≤ 1048576) :
    Calls Try.prog 5 #[.slice a1 ws.length c1, .slice a2 ys.length c2, .slice a3 qw.length c3, .slice a4 qy.length c4] w fun e w' => e = .returned (.bool true) ∧ Below w.heap.size w w' := by
  have hd : decide (allLen ws ys qw qy ≤ 1048576) = true := decide_eq_true b1
  have B1 : Hid (allLen ws ys qw qy ≤ 1048576) := b1
  clear b1
  go_enter Try.func5, Try.ntmps5
  go_wp2_with fail
  refine (bytes25_any w a1 a2 a3 a4 c1 c2 c3 c4 ws ys qw qy h1 h3 z1 z3 (by omega) (by omega) (by omega) (by omega)).mono ?_
  rintro e w' ⟨rfl, hw⟩
  obtain rfl := hw.symm
  clear hw
  go_wp2_with fail
  refine (strBytes_any w a1 c1 ws h1 (by omega) (by omega)).mono ?_
  rintro e w' ⟨rfl, hw⟩
  obtain rfl := hw.symm
  clear hw
  go_wp2_with fail
  refine (strBytes_any w a3 c3 qw h3 (by omega) (by omega)).mono ?_
  rintro e w' ⟨rfl, hw⟩
  obtain rfl := hw.symm
  clear hw
  go_wp2_with fail
  refine (copyStrs_all w a1 c1 ws h1 e1 (by omega)).mono ?_
  rintro e w1 ⟨p1, k1, rfl, q1, g1⟩
  go_wp2_with fail
  refine (copyInts_all w1 a2 c2 ys (h2.grown g1) e2 (by omega)).mono ?_
  rintro e w2 ⟨p2, k2, rfl, q2, g2⟩
  go_wp2_with fail
  refine (copyStrs_all w2 a3 c3 qw ((h3.grown g1).grown g2) e3 (by omega)).mono ?_
  rintro e w3 ⟨p3, k3, rfl, q3, g3⟩
  go_wp2_with fail
  refine (copyInts_all w3 a4 c4 qy (((h4.grown g1).grown g2).grown g3) e4 (by omega)).mono ?_
  rintro e w4 ⟨p4, k4, rfl, q4, g4⟩
  go_wp2_with fail
  refine (min_any ws.length ys.length w4).mono ?_
  rintro e w' ⟨rfl, hw⟩
  obtain rfl := hw.symm
  clear hw
  generalize hn : min ws.length ys.length = n
  have HNN : Hid (min ws.length ys.length = n) := hn
  have hnw : n ≤ ws.length := by omega
  have hny : n ≤ ys.length := by omega
  clear hn
  go_wp2_with fail
  refine (min_any qw.length qy.length w4).mono ?_
  rintro e w' ⟨rfl, hw⟩
  obtain rfl := hw.symm
  clear hw
  generalize hm : min qw.length qy.length = m
  have hmw : m ≤ qw.length := by omega
  have hmy : m ≤ qy.length := by omega
  clear hm
  go_wp2_with fail
  refine (new_any w4).mono ?_
  rintro e w5 ⟨rfl, hG5, g5⟩
  go_wp2_with fail
  have B5 : Below w4.heap.size w4 w5 := below_of_grown g5 (Nat.le_refl _)
  have HW : Hid (∀ w', Below w4.heap.size w5 w' → Cells w' p1 (ws.map .string)) := fun w' hb => (((q1.grown g2).grown g3).grown g4).keep (B5.trans hb) (Nat.le_refl _)
  have HY : Hid (∀ w', Below w4.heap.size w5 w' → Cells w' p2 (ys.map (.int .i64))) := fun w' hb => ((q2.grown g3).grown g4).keep (B5.trans hb) (Nat.le_refl _)
  have HQW : Hid (∀ w', Below w4.heap.size w5 w' → Cells w' p3 (qw.map .string)) := fun w' hb => (q3.grown g4).keep (B5.trans hb) (Nat.le_refl _)
  have HQY : Hid (∀ w', Below w4.heap.size w5 w' → Cells w' p4 (qy.map (.int .i64))) := fun w' hb => q4.keep (B5.trans hb) (Nat.le_refl _)
  have HB : Hid (Below w.heap.size w w5) := (((((Below.refl _ _).grown g1 (Nat.le_refl _) (by simp)).grown g2 g1.size (by simp)).grown g3 (Nat.le_trans g1.size g2.size) (by simp)).grown g4 (Nat.le_trans (Nat.le_trans g1.size g2.size) g3.size) (by simp)).grown g5 (Nat.le_trans (Nat.le_trans (Nat.le_trans g1.size g2.size) g3.size) g4.size) (by simp)
  have hsz4 : w.heap.size ≤ w4.heap.size := Nat.le_trans (Nat.le_trans (Nat.le_trans g1.size g2.size) g3.size) g4.size
  have hz1 : ∀ s ∈ ws, s.size ≤ maxLen := z1
  have hz3 : ∀ s ∈ qw, s.size ≤ maxLen := z3
  refine (build_any w5 p1 p2 k1 k2 ws ys w4.heap.size n g5.size hG5 HW.out HY.out hnw hny (by omega) hz1 z2).mono ?_
  rintro e w6 ⟨rfl, names, cs, hR⟩
  have hR0 : Hid (RB w4.heap.size w5.heap.size n ws ys w5 w6 n names cs) := hR
  have hNl : w4.heap.size + 3 < w5.heap.size := hG5.lt
  generalize hN : w4.heap.size = N at *
  clear h1 h2 h3 h4 e1 e2 e3 e4 q1 q2 q3 q4 g1 g2 g3 g4 g5 hG5 hR B5 z1 z3 hd b2 B1 hN
  go_wp2_with fail
  go_loopw [13] (fun i wr => ∃ k : Nat, k ≤ n ∧ i = .int .i64 k ∧ w6.grownBy wr none) (fun i _ => n - (intOf i).toNat)
  case atStart => exact ⟨0, Nat.zero_le _, rfl, World.grownBy.refl _ _⟩
  case round =>
    obtain ⟨k, hk, rfl, hg⟩ := hrel
    by_cases hlt : k < n
    · obtain ⟨s, hs⟩ := getD_some (l := ws) (k := k) (by omega)
      obtain ⟨y, hys⟩ := getD_some (l := ys) (k := k) (by omega)
      obtain ⟨i, hi, hcsk⟩ := hR0.out.seen k s hlt hs
      have hbel : Below N w5 wr := hR0.out.below.grown hg (by have := hR0.out.below.size; omega) (by simp)
      obtain ⟨bw, ow, haw, hcs⟩ := HW.out wr hbel k (.string s) (by simp [hs])
      obtain ⟨by', oy, hay, hcy⟩ := HY.out wr hbel k (.int .i64 y) (by simp [hys])
      subst haw hay
      have hgot := hR0.out.got.kept hg (by right; simp [Value.ownBlock])
      have hck : wr.cell? ⟨w5.heap.size, k, none⟩ = some (.int .i64 i) := by rw [hgot.cellAt k (by omega), hcsk]
      have HG : Hid (IsG wr N names ((ws.zip ys).take n)) := hR0.out.isG.fresh hg
      have hwy := z2 y (List.mem_of_getElem? hys)
      have HS : Hid (ws[k]? = some s) := hs
      have HYS : Hid (ys[k]? = some y) := hys
      have HI : Hid (names[i]? = some s) := hi
      have HBW : Hid (Below N w5 wr) := hbel
      have HGR : Hid (w6.grownBy wr none) := hg
      clear hs hys hi hcsk hgot hbel hg
      go_wp2_with fail
      go_cut [14] (fun s14 wc => ∃ ri : Nat, s14 = .int .i64 ri ∧ ri < n ∧ ws[ri]? = some s ∧ ys[ri]? = some y ∧ w6.grownBy wc none)
      case first =>
        go_region_with (go_at_call 26; refine (zzRowFor_any HG.out.drew i s y HI.out hwy).mono ?_; rintro e w' ⟨r, rfl, hr, hg⟩)
        all_goals
          go_wp2_with fail
          go_meet
          case rel =>
            rcases hr with ⟨_, hno⟩ | ⟨ri, hri, hat⟩
            · exact absurd (by rw [List.getElem?_take, if_pos hlt]; exact zip_at HS.out HYS.out) (hno k)
            · obtain ⟨t1, t2, t3⟩ := zip_take_at hat
              have g9 : wr.grownBy w' none := ⟨hg.os, hg.tape, hg.output, hg.size, fun j hj hq => hg.block j hj hq⟩
              exact ⟨ri, by rw [hri], t1, t2, t3, HGR.out.trans g9⟩
      case rest =>
        obtain ⟨ri, rfl, hrn, hr1, hr2, hg⟩ := hcut
        have hbel : Below N w5 wc := hR0.out.below.grown hg (by have := hR0.out.below.size; omega) (by simp)
        obtain ⟨bw2, ow2, haw2, hcs2⟩ := HW.out wc hbel k (.string s) (by simp [HS.out])
        obtain ⟨by2, oy2, hay2, hcy2⟩ := HY.out wc hbel k (.int .i64 y) (by simp [HYS.out])
        obtain ⟨bw3, ow3, haw3, hcs3⟩ := HW.out wc hbel ri (.string s) (by simp [hr1])
        obtain ⟨by3, oy3, hay3, hcy3⟩ := HY.out wc hbel ri (.int .i64 y) (by simp [hr2])
        simp at haw2 hay2 haw3 hay3
        obtain ⟨rfl, rfl⟩ := haw2
        obtain ⟨rfl, rfl⟩ := hay2
        obtain ⟨rfl, rfl⟩ := haw3
        obtain ⟨rfl, rfl⟩ := hay3
        have HGR2 : Hid (w6.grownBy wc none) := hg
        have hd1 : decide ((ri : Int) < 0) = false := decide_eq_false (by omega)
        have hd2 : decide ((n : Int) ≤ (ri : Int)) = false := decide_eq_false (by omega)
        have hrl : (ri : Int) < (ws.length : Int) := by omega
        have hrl2 : (ri : Int) < (ys.length : Int) := by omega
        have hkl : (k : Int) < (ws.length : Int) := by omega
        have hkl2 : (k : Int) < (ys.length : Int) := by omega
        clear hcs hcy hck HG hr1 hr2 hg hbel HBW HGR
        go_wp2_with fail
        go_quiet (fail)
        go_wp2_with fail
        go_roundw
        case rel => exact ⟨k + 1, by omega, by go_num, HGR2.out.trans (grownBy_drewN _ _ _)⟩
        case measure => simp [intOf]; omega
    · have hG0 : Hid (IsG wr N names ((ws.zip ys).take n)) := hR0.out.isG.fresh hg
      have hB0 : Hid (Below N w5 wr) := hR0.out.below.grown hg (by have := hR0.out.below.size; omega) (by simp)
      have hin : Hid (∀ e ∈ (ws.zip ys).take n, e.1 ∈ names) := fun e he => by
        obtain ⟨j, hj⟩ := List.getElem?_of_mem he
        obtain ⟨t1, t2, _⟩ := zip_take_at (s := e.1) (y := e.2) hj
        obtain ⟨i, hi, _⟩ := hR0.out.seen j e.1 t1 t2
        exact List.mem_of_getElem? hi
      have hnl : names.length ≤ 4096 := by rw [hR0.out.len]; have := firsts_le ws n; omega
      have hent : Hid (∀ (i : Nat) (t : ByteArray) (v : Int), ((ws.zip ys).take n)[i]? = some (t, v) ↔ i < n ∧ ws[i]? = some t ∧ ys[i]? = some v) := fun i t v => ⟨zip_take_at, fun ⟨u1, u2, u3⟩ => by rw [List.getElem?_take, if_pos u1]; exact zip_at u2 u3⟩
      clear hR0 hg
      generalize (ws.zip ys).take n = es at hG0 hin hent
      go_wp2_with fail
      go_loopw [15] (fun i wr => ∃ (q : Nat) (nms : List ByteArray), i = .int .i64 q ∧ q ≤ m ∧ IsG wr N nms es ∧ (∀ e ∈ es, e.1 ∈ nms) ∧ Below N w5 wr ∧ nms.length ≤ 4096 + q) (fun i _ => m - (intOf i).toNat)
      case atStart => exact ⟨0, names, rfl, Nat.zero_le _, hG0.out, hin.out, hB0.out, by omega⟩
      case round =>
        clear hG0 hB0 hin hlt hk
        obtain ⟨q, nms, rfl, hq, hG, hin, hB, hnq⟩ := hrel
        by_cases hlt : q < m
        · obtain ⟨s, hs⟩ := getD_some (l := qw) (k := q) (by omega)
          obtain ⟨y, hys⟩ := getD_some (l := qy) (k := q) (by omega)
          obtain ⟨bw, ow, haw, hcs⟩ := HQW.out _ hB q (.string s) (by simp [hs])
          obtain ⟨by', oy, hay, hcy⟩ := HQY.out _ hB q (.int .i64 y) (by simp [hys])
          subst haw hay
          have HS : Hid (qw[q]? = some s) := hs
          have HYS : Hid (qy[q]? = some y) := hys
          have hwy := z4 y (List.mem_of_getElem? hys)
          have hsz := hz3 s (List.mem_of_getElem? hs)
          have HG : Hid (IsG wr N nms es) := hG
          have HIN : Hid (∀ e ∈ es, e.1 ∈ nms) := hin
          have HB : Hid (Below N w5 wr) := hB
          clear hs hys hG hin hB
          go_upto_region 24 with fail
          go_cut [16] (fun s16 wc => ∃ (i : Nat) (nms' : List ByteArray), s16 = .int .i64 i ∧ nms'[i]? = some s ∧ IsG wc N nms' es ∧ (∀ e ∈ es, e.1 ∈ nms') ∧ Below N w5 wc ∧ nms'.length ≤ 4096 + q + 1)
          case first =>
            by_cases hmem : ∃ i : Nat, nms[i]? = some s
            · obtain ⟨i, hi⟩ := hmem
              have HI : Hid (nms[i]? = some s) := hi
              clear hi
              go_wp2_with fail
              refine (index_old HG.out i s HI.out).mono ?_
              rintro e w7 ⟨rfl, hw⟩
              obtain rfl := hw.symm
              clear hw
              go_wp2_with fail
              go_meet
              case rel => exact ⟨i, nms, rfl, HI.out, HG.out, HIN.out, HB.out, by omega⟩
            · have hn : s ∉ nms := fun hm => by
                obtain ⟨i, hi, e⟩ := List.mem_iff_getElem.1 hm
                exact hmem ⟨i, by rw [List.getElem?_eq_getElem hi, e]⟩
              have hno : ∀ (j : Nat) (e : ByteArray × Int), es[j]? = some e → e.1 ≠ s := fun j e hj he => hn (he ▸ HIN.out e (List.mem_of_getElem? hj))
              have HC0 : Hid (cnt s es = 0) := cnt_none _ _ (fun e he hq => hn (hq ▸ HIN.out e he))
              have HL0 : Hid (lastOf s es = -1) := lastOf_none _ _ hno
              clear hno hmem
              go_wp2_with fail
              refine (index_new HG.out s hn hsz HC0.out HL0.out (by omega)).mono ?_
              rintro e w7 ⟨rfl, hG7, hK7⟩
              have HG7 : Hid _ := hG7
              have HK7 : Hid _ := hK7
              clear hG7 hK7
              go_wp2_with fail
              go_meet
              case rel => exact ⟨nms.length, nms ++ [s], rfl, by simp, HG7.out, fun e he => List.mem_append_left _ (HIN.out e he), HB.out.trans HK7.out.below, by simp; omega⟩
          case rest =>
            clear HG HIN hcs hcy HB hnq
            obtain ⟨i, nms', rfl, hi, hG, hin, hB, hnq⟩ := hcut
            obtain ⟨by2, oy2, hay2, hcy⟩ := HQY.out _ hB q (.int .i64 y) (by simp [HYS.out])
            simp at hay2
            obtain ⟨rfl, rfl⟩ := hay2
            have HI : Hid (nms'[i]? = some s) := hi
            have HG : Hid (IsG wc N nms' es) := hG
            have HIN : Hid (∀ e ∈ es, e.1 ∈ nms') := hin
            have HB3 : Hid (Below N w5 wc) := hB
            clear hi hG hin hB
            go_wp2_with fail
            refine (zzRowFor_any HG.out i s y HI.out hwy).mono ?_
            rintro e w8 ⟨r, rfl, hr, hg8⟩
            have HB8 : Hid (Below N w5 w8) := HB3.out.grown hg8 (by have := IsG.lt HG.out; omega) (by simp)
            have HG8 : Hid (IsG w8 N nms' es) := HG.out.fresh hg8
            have HR : Hid (RowAns es s y r) := hr
            obtain ⟨by2, oy2, hay2, hcy8⟩ := HQY.out _ HB8.out q (.int .i64 y) (by simp [HYS.out])
            simp at hay2
            obtain ⟨rfl, rfl⟩ := hay2
            obtain ⟨bw2, ow2, haw2, hcs8⟩ := HQW.out _ HB8.out q (.string s) (by simp [HS.out])
            simp at haw2
            obtain ⟨rfl, rfl⟩ := haw2
            have hql : (q : Int) < (qw.length : Int) := by omega
            have hql2 : (q : Int) < (qy.length : Int) := by omega
            clear hr hg8 HG HB3 hcy HI
            go_wp2_with fail
            go_loopw [18, 19] (fun s18 s19 wr => ∃ (k : Nat) (b : Bool), s19 = .int .i64 k ∧ k ≤ n ∧ s18 = .bool b ∧ (b = true ↔ ∃ j : Nat, j < k ∧ es[j]? = some (s, y)) ∧ ∃ nq, wr = w8.drewN nq) (fun _ s19 _ => n - (intOf s19).toNat)
            case atStart => exact ⟨0, false, rfl, Nat.zero_le _, rfl, by simp, 0, rfl⟩
            case round =>
              obtain ⟨k, b, rfl, hk, rfl, hbb, nq, rfl⟩ := hrel
              have HBB : Hid (b = true ↔ ∃ j : Nat, j < k ∧ es[j]? = some (s, y)) := hbb
              clear hbb
              by_cases hlt2 : k < n
              · obtain ⟨t, ht⟩ := getD_some (l := ws) (k := k) (by omega)
                obtain ⟨v, hv⟩ := getD_some (l := ys) (k := k) (by omega)
                obtain ⟨b1, o1, ha1, hc1⟩ := HW.out _ HB8.out k (.string t) (by simp [ht])
                obtain ⟨b2, o2, ha2, hc2⟩ := HY.out _ HB8.out k (.int .i64 v) (by simp [hv])
                subst ha1 ha2
                have hkl : (k : Int) < (ws.length : Int) := by omega
                have hkl2 : (k : Int) < (ys.length : Int) := by omega
                have HE : Hid (es[k]? = some (t, v)) := (hent.out k t v).2 ⟨hlt2, ht, hv⟩
                clear ht hv
                by_cases hts : t = s
                · subst hts
                  have hse := str_eq_mk t
                  by_cases hvy : v = y
                  · subst hvy
                    go_wp2_with fail
                    go_quiet (fail)
                    go_wp2_with fail
                    go_roundw
                    case rel => exact ⟨k + 1, true, by go_num, by omega, rfl, ex_hit HE.out, _, rfl⟩
                    case measure => simp [intOf]; omega
                  · have hne : (v == y) = false := by simpa using hvy
                    go_wp2_with fail
                    go_quiet (fail)
                    go_wp2_with fail
                    go_roundw
                    case rel => exact ⟨k + 1, b, by go_num, by omega, rfl, ex_miss HBB.out HE.out (by simpa using hvy), _, rfl⟩
                    case measure => simp [intOf]; omega
                · have hse := str_ne_mk hts
                  go_wp2_with fail
                  go_quiet (fail)
                  go_wp2_with fail
                  go_roundw
                  case rel => exact ⟨k + 1, b, by go_num, by omega, rfl, ex_miss HBB.out HE.out (by simp [hts]), _, rfl⟩
                  case measure => simp [intOf]; omega
              · have hkn : k = n := by omega
                subst hkn
                cases b with
                | false =>
                  have hr : r = -1 := by
                    rcases HR.out with ⟨h, _⟩ | ⟨ri, _, hat⟩
                    · exact h
                    · have := HBB.out.2 ⟨ri, ((hent.out ri s y).1 hat).1, hat⟩
                      simp at this
                  subst hr
                  clear HBB
                  go_wp2_with fail
                  go_roundw
                  case rel => exact ⟨q + 1, nms', by go_num, by omega, HG8.out.drewN _, HIN.out, below_drewN HB8.out _, by omega⟩
                  case measure => simp [intOf]; omega
                | true =>
                  obtain ⟨ri, hri, hat⟩ : ∃ ri : Nat, r = ri ∧ es[ri]? = some (s, y) := by
                    rcases HR.out with ⟨_, hno⟩ | h
                    · obtain ⟨j, _, hj⟩ := HBB.out.1 rfl
                      exact absurd hj (hno j)
                    · exact h
                  subst hri
                  obtain ⟨t1, t2, t3⟩ := (hent.out ri s y).1 hat
                  obtain ⟨b1, o1, ha1, hc1⟩ := HW.out _ HB8.out ri (.string s) (by simp [t2])
                  obtain ⟨b2, o2, ha2, hc2⟩ := HY.out _ HB8.out ri (.int .i64 y) (by simp [t3])
                  subst ha1 ha2
                  have hd1 : decide ((ri : Int) < 0) = false := decide_eq_false (by omega)
                  have hd2 : decide ((k : Int) ≤ (ri : Int)) = false := decide_eq_false (by omega)
                  have hrl : (ri : Int) < (ws.length : Int) := by omega
                  have hrl2 : (ri : Int) < (ys.length : Int) := by omega
                  clear HBB HR hat t2 t3
                  go_wp2_with fail
                  go_quiet (fail)
                  go_wp2_with fail
                  go_roundw
                  case rel => exact ⟨q + 1, nms', by go_num, by omega, HG8.out.drewN _, HIN.out, below_drewN HB8.out _, by omega⟩
                  case measure => simp [intOf]; omega
        · go_wp2_with fail
          go_ret
          exact ⟨rfl, HB.out.trans (hB.mono hsz4)⟩

end Go.Proofs.Qxb6000555a
