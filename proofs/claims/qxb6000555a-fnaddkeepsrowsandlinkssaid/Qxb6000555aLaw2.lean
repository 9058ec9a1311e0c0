import Derived.Test.Qxb6000555aBuild
import Derived.Test.Qxb6000555aBytes
import Derived.Deep.DeepCutAuto
namespace Go.Proofs.Qxb6000555a
open Go.RowKit Go.Maps

section
variable {w : World} {N : Nat} {names : List ByteArray} {es : List (ByteArray × Int)}

set_option maxHeartbeats 400000 in
theorem rowCount_any (h : IsG w N names es) (n : Nat) (hl : es.length = n) :
    Calls Try.prog 21 #[.pointer (some ⟨N + 3, 0, none⟩)] w fun e w' => e = .returned (.int .i64 n) ∧ w' = w := by
  subst hl
  obtain ⟨vc, vr, D1, D2, h⟩ := h
  have h1 := h.c2
  obtain ⟨a, cap, hv⟩ := own_len h.rows
  rw [hv] at h1
  clear h hv
  go_enter Try.func21, Try.ntmps21
  go_wp2
  go_ret
  exact ⟨rfl, rfl⟩

set_option maxHeartbeats 400000 in
theorem rowYear_any (h : IsG w N names es) (i : Nat) (who : ByteArray) (y : Int) (hi : es[i]? = some (who, y)) :
    Calls Try.prog 22 #[.pointer (some ⟨N + 3, 0, none⟩), .int .i64 i] w fun e w' => e = .returned (.int .i64 y) ∧ w' = w := by
  obtain ⟨vc, vr, D1, D2, h⟩ := h
  have h1 := h.c2
  obtain ⟨g, cap, hv, k0, k1, k2⟩ := h.row hi
  have hlt : i < es.length := (List.getElem?_eq_some_iff.1 hi).1
  rw [hv] at h1
  clear h hv hi
  go_enter Try.func22, Try.ntmps22
  go_wp2
  go_ret
  exact ⟨rfl, rfl⟩

set_option maxHeartbeats 400000 in
theorem rowLine_any (h : IsG w N names es) (i : Nat) (who : ByteArray) (y : Int) (hi : es[i]? = some (who, y)) :
    Calls Try.prog 23 #[.pointer (some ⟨N + 3, 0, none⟩), .int .i64 i] w fun e w' => e = .returned (.int .i64 i) ∧ w' = w := by
  obtain ⟨vc, vr, D1, D2, h⟩ := h
  have h1 := h.c2
  obtain ⟨g, cap, hv, k0, k1, k2⟩ := h.row hi
  have hlt : i < es.length := (List.getElem?_eq_some_iff.1 hi).1
  rw [hv] at h1
  clear h hv hi
  go_enter Try.func23, Try.ntmps23
  go_wp2
  go_ret
  exact ⟨rfl, rfl⟩

set_option maxHeartbeats 400000 in
theorem rowPrev_any (h : IsG w N names es) (i : Nat) (who : ByteArray) (y : Int) (hi : es[i]? = some (who, y)) :
    Calls Try.prog 24 #[.pointer (some ⟨N + 3, 0, none⟩), .int .i64 i] w fun e w' => e = .returned (.int .i64 (lastOf who (es.take i))) ∧ w' = w := by
  obtain ⟨vc, vr, D1, D2, h⟩ := h
  have h1 := h.c2
  obtain ⟨g, cap, hv, k0, k1, k2⟩ := h.row hi
  have hlt : i < es.length := (List.getElem?_eq_some_iff.1 hi).1
  rw [hv] at h1
  clear h hv hi
  go_enter Try.func24, Try.ntmps24
  go_wp2
  go_ret
  exact ⟨rfl, rfl⟩
end

theorem grown_below {w w' : World} {N : Nat} (h : w.grownBy w' none) (hN : N ≤ w.heap.size) : Below N w w' := (Below.refl _ _).grown h hN (by simp)

theorem take_snoc_at {es : List (ByteArray × Int)} {j : Nat} {e : ByteArray × Int} (h : es[j]? = some e) : es.take (j + 1) = es.take j ++ [e] := by
  obtain ⟨hlt, he⟩ := List.getElem?_eq_some_iff.1 h
  rw [List.take_succ_eq_append_getElem hlt, he]

/-- the inner loop's three numbers behind j entries -/
structure Tally (es : List (ByteArray × Int)) (s : ByteArray) (k j : Nat) (prev last : Int) (count : Nat) : Prop where
  prev : prev = lastOf s (es.take (min j k))
  count : count = cnt s (es.take j)
  last : last = lastOf s (es.take j)

theorem tally_start (es : List (ByteArray × Int)) (s : ByteArray) (k : Nat) : Tally es s k 0 (-1) (-1) 0 := ⟨by simp [lastOf_nil], by simp [cnt_nil], by simp [lastOf_nil]⟩
theorem tally_hit {es : List (ByteArray × Int)} {s : ByteArray} {v : Int} {k j : Nat} {prev last : Int} {count : Nat} (h : Tally es s k j prev last count) (he : es[j]? = some (s, v)) : Tally es s k (j + 1) (if j < k then (j : Int) else prev) j (count + 1) := by
  have hlj : (es.take j).length = j := by
    have := (List.getElem?_eq_some_iff.1 he).1
    simp; omega
  have e1 : lastOf s (es.take (j + 1)) = j := by rw [take_snoc_at he, lastOf_snoc, if_pos rfl, hlj]
  refine ⟨?_, by rw [take_snoc_at he, cnt_snoc, if_pos rfl, h.count], e1.symm⟩
  split
  · rename_i hjk
    rw [Nat.min_eq_left (by omega), e1]
  · rename_i hjk
    rw [h.prev, Nat.min_eq_right (by omega), Nat.min_eq_right (by omega)]
theorem tally_miss {es : List (ByteArray × Int)} {s t : ByteArray} {v : Int} {k j : Nat} {prev last : Int} {count : Nat} (h : Tally es s k j prev last count) (he : es[j]? = some (t, v)) (hne : t ≠ s) : Tally es s k (j + 1) prev last count := by
  have e1 : lastOf s (es.take (j + 1)) = lastOf s (es.take j) := by rw [take_snoc_at he, lastOf_snoc, if_neg hne]
  refine ⟨?_, by rw [take_snoc_at he, cnt_snoc, if_neg hne, h.count], by rw [e1, h.last]⟩
  rw [h.prev]
  by_cases hjk : j < k
  · rw [Nat.min_eq_left (by omega), Nat.min_eq_left (by omega), e1]
  · rw [Nat.min_eq_right (by omega), Nat.min_eq_right (by omega)]

set_option maxRecDepth 100000 in
set_option maxHeartbeats 2000000 in
theorem law2_main (w : World) (a1 a2 : Option Addr) (c1 c2 : Nat) (ws : List ByteArray) (ys : List Int)
    (h1 : Cells w a1 (ws.map .string)) (h2 : Cells w a2 (ys.map (.int .i64))) (e1 : a1 = none → ws = [] ∧ c1 = 0) (e2 : a2 = none → ys = [] ∧ c2 = 0)
    (z1 : ∀ s ∈ ws, s.size ≤ 9223372036854775807) (z2 : ∀ y ∈ ys, (Lit.int .i64 y).wf = true)
    (b1 : ws.length + tot ws + ys.length ≤ 1048576) (n1 : ws.length ≤ 4096) (n2 : ys.length ≤ 4096) (b2 : 16 * ws.length + tot ws + 8 * ys.length ≤ 1048576) :
    Calls Try.prog 4 #[.slice a1 ws.length c1, .slice a2 ys.length c2] w fun e w' => e = .returned (.bool true) ∧ Below w.heap.size w w' := by
  have hd : decide (ws.length + tot ws + ys.length ≤ 1048576) = true := decide_eq_true b1
  go_enter Try.func4, Try.ntmps4
  go_wp2_with fail
  refine (bytes17_any w a1 a2 c1 c2 ws ys h1 z1 (by omega) (by omega)).mono ?_
  rintro e w' ⟨rfl, hw⟩
  obtain rfl := hw.symm
  clear hw
  go_wp2_with fail
  refine (strBytes_any w a1 c1 ws h1 (by omega) (by omega)).mono ?_
  rintro e w' ⟨rfl, hw⟩
  obtain rfl := hw.symm
  clear hw
  go_wp2_with fail
  refine (copyStrs_all w a1 c1 ws h1 e1 (by omega)).mono ?_
  rintro e w1 ⟨p1, k1, rfl, q1, g1⟩
  go_wp2_with fail
  refine (copyInts_all w1 a2 c2 ys (h2.grown g1) e2 (by omega)).mono ?_
  rintro e w4 ⟨p2, k2, rfl, q2, g2⟩
  go_wp2_with fail
  refine (min_any ws.length ys.length w4).mono ?_
  rintro e w' ⟨rfl, hw⟩
  obtain rfl := hw.symm
  clear hw
  generalize hn : min ws.length ys.length = n
  have hnw : n ≤ ws.length := by omega
  have hny : n ≤ ys.length := by omega
  clear hn
  go_wp2_with fail
  refine (new_any w4).mono ?_
  rintro e w5 ⟨rfl, hG5, g5⟩
  go_wp2_with fail
  have B5 : Below w4.heap.size w4 w5 := grown_below g5 (Nat.le_refl _)
  have HW : Hid (∀ w', Below w4.heap.size w5 w' → Cells w' p1 (ws.map .string)) := fun w' hb => (q1.grown g2).keep (B5.trans hb) (Nat.le_refl _)
  have HY : Hid (∀ w', Below w4.heap.size w5 w' → Cells w' p2 (ys.map (.int .i64))) := fun w' hb => q2.keep (B5.trans hb) (Nat.le_refl _)
  have HB : Hid (Below w.heap.size w w5) := grown_below ((g1.trans g2).trans g5) (Nat.le_refl _)
  have hsz4 : w.heap.size ≤ w4.heap.size := (g1.trans g2).size
  have hz1 : ∀ s ∈ ws, s.size ≤ maxLen := z1
  refine (build_any w5 p1 p2 k1 k2 ws ys w4.heap.size n g5.size hG5 HW.out HY.out hnw hny (by omega) hz1 z2).mono ?_
  rintro e w6 ⟨rfl, names, cs, hR⟩
  have hR0 : Hid (RB w4.heap.size w5.heap.size n ws ys w5 w6 n names cs) := hR
  have hNl : w4.heap.size + 3 < w5.heap.size := hG5.lt
  generalize hN : w4.heap.size = N at *
  clear h1 h2 e1 e2 q1 q2 g1 g2 g5 hG5 hR B5 z1 hd b2 b1 hN
  have hent : Hid (∀ (i : Nat) (t : ByteArray) (v : Int), ((ws.zip ys).take n)[i]? = some (t, v) ↔ i < n ∧ ws[i]? = some t ∧ ys[i]? = some v) := fun i t v => ⟨zip_take_at, fun ⟨u1, u2, u3⟩ => by rw [List.getElem?_take, if_pos u1]; exact zip_at u2 u3⟩
  have hel : Hid (((ws.zip ys).take n).length = n) := by show _ = _; simp; omega
  have hG6 : Hid (IsG w6 N names ((ws.zip ys).take n)) := hR0.out.isG
  have hB6 : Hid (Below N w5 w6) := hR0.out.below
  have hlen6 : Hid (names.length = firsts ws n) := hR0.out.len
  generalize (ws.zip ys).take n = es at hent hel hG6
  go_wp2_with fail
  refine (rowCount_any hG6.out n hel.out).mono ?_
  rintro e w' ⟨rfl, hw⟩
  obtain rfl := hw.symm
  clear hw
  go_wp2_with fail
  go_loopw [8, 9] (fun s8 s9 wr => ∃ k : Nat, s9 = .int .i64 k ∧ k ≤ n ∧ s8 = .int .i64 (firsts ws k) ∧ w6.grownBy wr none) (fun _ s9 _ => n - (intOf s9).toNat)
  case atStart => exact ⟨0, rfl, Nat.zero_le _, rfl, World.grownBy.refl _ _⟩
  case round =>
    obtain ⟨k, rfl, hk, rfl, hg⟩ := hrel
    have hfl := firsts_le ws k
    have HBR : Hid (Below N w5 wr) := hB6.out.grown hg (by have := hB6.out.size; omega) (by simp)
    have HGR : Hid (IsG wr N names es) := IsG.fresh hG6.out hg
    have HGW : Hid (w6.grownBy wr none) := hg
    by_cases hlt : k < n
    · obtain ⟨s, hs⟩ := getD_some (l := ws) (k := k) (by omega)
      obtain ⟨y, hys⟩ := getD_some (l := ys) (k := k) (by omega)
      obtain ⟨i, hi, hcsk⟩ := hR0.out.seen k s hlt hs
      obtain ⟨bw, ow, haw, hcs⟩ := HW.out wr HBR.out k (.string s) (by simp [hs])
      obtain ⟨by', oy, hay, hcy⟩ := HY.out wr HBR.out k (.int .i64 y) (by simp [hys])
      subst haw hay
      have hgot := hR0.out.got.kept hg (by right; simp [Value.ownBlock])
      have hck : wr.cell? ⟨w5.heap.size, k, none⟩ = some (.int .i64 i) := by rw [hgot.cellAt k (by omega), hcsk]
      have HS : Hid (ws[k]? = some s) := hs
      have HI : Hid (names[i]? = some s) := hi
      have HE : Hid (es[k]? = some (s, y)) := (hent.out k s y).2 ⟨hlt, hs, hys⟩
      have hkl : (k : Int) < (ws.length : Int) := by omega
      have hkl2 : (k : Int) < (ys.length : Int) := by omega
      have hkl3 : (k : Int) < (n : Int) := by omega
      clear hs hys hi hcsk hg hgot
      go_wp2_with fail
      go_quiet ((first | (go_at_call 22; exact Calls.quiet_of_same (rowYear_any (IsG.drewN HGR.out _) k s y HE.out)) | (go_at_call 23; exact Calls.quiet_of_same (rowLine_any (IsG.drewN HGR.out _) k s y HE.out))))
      go_wp2_with fail
      refine (first_any (wr.drewN nq) _ _ ws (HW.out _ (below_drewN HBR.out nq)) (by omega) k (by omega)).mono ?_
      rintro e wz ⟨j, rfl, hjk, hje, hjf, nq2, hw⟩
      have hgz : wr.grownBy wz none := by rw [hw]; exact (grownBy_drewN _ _ _).trans (grownBy_drewN _ _ _)
      have HBZ : Hid (Below N w5 wz) := HBR.out.grown hgz (by have := HBR.out.size; omega) (by simp)
      have HGZ : Hid (IsG wz N names es) := IsG.fresh HGR.out hgz
      have HGWZ : Hid (w6.grownBy wz none) := HGW.out.trans hgz
      have hcsz := hgz.cell hcs (by simp)
      have hckz := hgz.cell hck (by simp)
      have hjs : ws[j]? = some s := hje.trans HS.out
      have HF : Hid ((j = k ∧ isNew ws k = true) ∨ (j < k ∧ isNew ws k = false)) := by
        rcases Nat.lt_or_ge j k with h | h
        · exact .inr ⟨h, isNew_false HS.out h hjs⟩
        · refine .inl ⟨by omega, isNew_true HS.out (fun i hi hq => hjf i (by omega) (hq.trans HS.out.symm))⟩
      clear hw hgz hcs hcy hck HBR HGR HGW hje hjf hjs
      go_upto_if 76 with fail
      go_cut [8] (fun s8 wc => s8 = .int .i64 (firsts ws (k + 1)) ∧ wc = wz)
      case first =>
        rcases HF.out with ⟨hj, hnew⟩ | ⟨hj, hnew⟩
        · subst hj
          go_wp2_with fail
          go_meet
          case rel => exact ⟨by simp [firsts, hnew], rfl⟩
        · go_wp2_with fail
          go_meet
          case rel => exact ⟨by simp [firsts, hnew], rfl⟩
      case rest =>
        obtain ⟨rfl, hwc⟩ := hcut
        obtain rfl := hwc.symm
        clear hwc HF
        go_wp2_with fail
        go_loopw [10, 11, 12, 13] (fun s10 s11 s12 s13 wr2 => ∃ (j cn : Nat) (pv ls : Int), s13 = .int .i64 j ∧ j ≤ n ∧ s10 = .int .i64 pv ∧ s11 = .int .i64 cn ∧ s12 = .int .i64 ls ∧ Tally es s k j pv ls cn ∧ ∃ nq, wr2 = wz.drewN nq) (fun _ _ _ s13 _ => n - (intOf s13).toNat)
        case atStart => exact ⟨0, 0, -1, -1, rfl, Nat.zero_le _, rfl, rfl, rfl, tally_start es s k, 0, rfl⟩
        case round =>
          obtain ⟨j2, cn, pv, ls, rfl, hj2, rfl, rfl, rfl, hT, nq3, rfl⟩ := hrel
          have HT : Hid (Tally es s k j2 pv ls cn) := hT
          have hcn : cn ≤ n := by rw [hT.count]; have := cnt_le s (es.take j2); have h2 : (es.take j2).length ≤ j2 := List.length_take_le _ _; omega
          clear hT
          by_cases hlt2 : j2 < n
          · obtain ⟨t, ht⟩ := getD_some (l := ws) (k := j2) (by omega)
            obtain ⟨v, hv⟩ := getD_some (l := ys) (k := j2) (by omega)
            obtain ⟨bw2, ow2, haw2, hct⟩ := HW.out wz HBZ.out j2 (.string t) (by simp [ht])
            simp at haw2
            obtain ⟨rfl, rfl⟩ := haw2
            have HE2 : Hid (es[j2]? = some (t, v)) := (hent.out j2 t v).2 ⟨hlt2, ht, hv⟩
            have hjl : (j2 : Int) < (ws.length : Int) := by omega
            clear ht hv
            by_cases hts : t = s
            · subst hts
              have hse := str_eq_mk t
              have HT2 : Hid _ := tally_hit HT.out HE2.out
              by_cases hjk2 : j2 < k
              · rw [if_pos hjk2] at HT2
                go_wp2_with fail
                go_quiet (fail)
                go_wp2_with fail
                go_roundw
                case rel => exact ⟨j2 + 1, cn + 1, _, _, by go_num, by omega, rfl, by go_num, rfl, HT2.out, _, rfl⟩
                case measure => simp [intOf]; omega
              · rw [if_neg hjk2] at HT2
                go_wp2_with fail
                go_quiet (fail)
                go_wp2_with fail
                go_roundw
                case rel => exact ⟨j2 + 1, cn + 1, _, _, by go_num, by omega, rfl, by go_num, rfl, HT2.out, _, rfl⟩
                case measure => simp [intOf]; omega
            · have hse := str_ne_mk hts
              go_wp2_with fail
              go_quiet (fail)
              go_wp2_with fail
              go_roundw
              case rel => exact ⟨j2 + 1, cn, _, _, by go_num, by omega, rfl, by go_num, rfl, tally_miss HT.out HE2.out hts, _, rfl⟩
              case measure => simp [intOf]; omega
          · have hjn : j2 = n := by omega
            have hte : es.take j2 = es := List.take_of_length_le (by rw [hel.out]; omega)
            have e1 : pv = lastOf s (es.take k) := by rw [HT.out.prev, Nat.min_eq_right (by omega)]
            have e2 : cn = cnt s es := by rw [HT.out.count, hte]
            have e3 : ls = lastOf s es := by rw [HT.out.last, hte]
            clear HT hte hjn
            subst e1 e2 e3
            go_wp2_with fail
            refine (rowPrev_any (IsG.drewN HGZ.out _) k s y HE.out).mono ?_
            rintro e w9 ⟨rfl, rfl⟩
            go_wp2_with fail
            refine (length_any (IsG.drewN HGZ.out _) i s HI.out).mono ?_
            rintro e w9 ⟨rfl, rfl⟩
            go_wp2_with fail
            refine (last_any (IsG.drewN HGZ.out _) i s HI.out).mono ?_
            rintro e w9 ⟨rfl, rfl⟩
            go_wp2_with fail
            go_roundw
            case rel => exact ⟨k + 1, by go_num, by omega, rfl, HGWZ.out.trans (grownBy_drewN _ _ _)⟩
            case measure => simp [intOf]; omega
    · go_wp2_with fail
      have hkn : k = n := by omega
      subst hkn
      refine (count_any HGR.out).mono ?_
      rintro e w' ⟨rfl, hw⟩
      obtain rfl := hw.symm
      clear hw
      go_wp2_with fail
      go_ret
      refine ⟨?_, HB.out.trans (HBR.out.mono hsz4)⟩
      have := hlen6.out
      simp [this]

end Go.Proofs.Qxb6000555a
