/-
  THE WALK OF FnNewSourcePlacementOneMoreAsked (function 6): the inputs that the law goes into.
-/
import Derived.Test.Qxb6612939aWalkF
import Derived.Test.Qxb6612939aLaws
namespace Go.Proofs.Qxb6612939a
open Go.RowKit

theorem sources18n (a0 a1 a2 a3 : Option Addr) (l0 l1 l2 l3 : List ByteArray) (c0 c1 c2 c3 : Nat) (w : World) (h0 : Strs w a0 l0) (h1 : Strs w a1 l1) (h2 : Strs w a2 l2) (h3 : Strs w a3 l3) (e1 : l1.length = l0.length) (e2 : l2.length = l0.length) (e3 : l3.length = l0.length) (hn : l0.length ≤ 65536) :
    Calls Try.prog 18 #[.slice a0 l0.length c0, .slice a1 l1.length c1, .slice a2 l2.length c2, .slice a3 l3.length c3] w fun e w' => (∃ b, e = .returned (.slice (some ⟨b, 0, none⟩) l0.length l0.length) ∧ Reps w' (some ⟨b, 0, none⟩) l0.length (fun i => l0.getD i ByteArray.empty) (fun i => l1.getD i ByteArray.empty) (fun i => l2.getD i ByteArray.empty) (fun i => l3.getD i ByteArray.empty)) ∧ Below w.heap.size w w' := by
  rw [e1, e2, e3]
  exact sources18 a0 a1 a2 a3 l0 l1 l2 l3 l0.length c0 c1 c2 c3 w h0 h1 h2 h3 rfl e1.symm e2.symm e3.symm hn

/-- The arguments that are slices of strings, in world w. -/
structure Args (w : World) (an af ar au av az : Option Addr) (ln lf lr lu lv lz : List ByteArray) : Prop where
  n : Strs w an ln
  f : Strs w af lf
  r : Strs w ar lr
  u : Strs w au lu
  v : Strs w av lv
  z : Strs w az lz

set_option maxHeartbeats 2000000 in
set_option maxRecDepth 100000 in
theorem walk6 (id : ByteArray) (asked : Int) (an af ar au av az : Option Addr) (ln lf lr lu lv lz : List ByteArray) (cn cf cr cu cv cz : Nat) (w : World) (hid : id.size ≤ 65536) (hA : Args w an af ar au av az ln lf lr lu lv lz)
    (mn : ln.length ≤ 65536) (mf : lf.length ≤ 65536) (mr : lr.length ≤ 65536) (mu : lu.length ≤ 65536) (mv : lv.length ≤ 65536) (mz : lz.length ≤ 65536) (eF : lf.length = ln.length) (eR : lr.length = ln.length) (eU : lu.length = ln.length) (hk1 : -1073741824 ≤ asked) (hk2 : asked ≤ 1073741824) :
    Calls Try.prog 6 #[.string id, .slice an ln.length cn, .slice af lf.length cf, .slice ar lr.length cr, .slice au lu.length cu, .int .i64 asked, .slice av lv.length cv, .slice az lz.length cz] w fun e w' => e = .returned (.bool true) ∧ Below w.heap.size w w' := by
  have HA := hide hA
  have M := hide (And.intro mn (And.intro mf (And.intro mr (And.intro mu (And.intro mv mz)))))
  have HID := hide hid
  have HE := hide (And.intro eF (And.intro eR eU))
  have b1 : ((lf.length : Int) != (ln.length : Int)) = false := by simp [eF]
  have b2 : ((lr.length : Int) != (ln.length : Int)) = false := by simp [eR]
  have b3 : ((lu.length : Int) != (ln.length : Int)) = false := by simp [eU]
  clear hA eF eR eU
  go_enter Try.func6, Try.ntmps6
  go_wp2_with fail
  refine (bytes21 id asked an ln cn af lf cf ar lr cr au lu cu av lv cv az lz cz _ (by unfold maxLen; omega) HA.out.n HA.out.f HA.out.r HA.out.u HA.out.v HA.out.z (by unfold maxLen; omega) (by unfold maxLen; omega) (by unfold maxLen; omega) (by unfold maxLen; omega) (by unfold maxLen; omega) (by unfold maxLen; omega)).mono ?_
  rintro e w' ⟨⟨r, rfl⟩, rfl⟩
  cases r
  · go_wp2_with fail
    go_ret
    exact ⟨rfl, Below.refl _ _⟩
  go_wp2_with fail
  refine (strs8 _ an ln cn _ HA.out.n M.out.1).mono ?_
  rintro e w' ⟨⟨z1, rfl⟩, rfl⟩
  by_cases q1 : 1048576 < z1
  · go_wp2_with fail
    go_ret
    exact ⟨rfl, Below.refl _ _⟩
  go_wp2_with fail
  refine (strs8 _ af lf cf _ HA.out.f M.out.2.1).mono ?_
  rintro e w' ⟨⟨z2, rfl⟩, rfl⟩
  clear q1
  by_cases q1 : 1048576 < z2
  · go_wp2_with fail
    go_ret
    exact ⟨rfl, Below.refl _ _⟩
  go_wp2_with fail
  refine (strs8 _ ar lr cr _ HA.out.r M.out.2.2.1).mono ?_
  rintro e w' ⟨⟨z3, rfl⟩, rfl⟩
  clear q1
  by_cases q1 : 1048576 < z3
  · go_wp2_with fail
    go_ret
    exact ⟨rfl, Below.refl _ _⟩
  go_wp2_with fail
  refine (strs8 _ au lu cu _ HA.out.u M.out.2.2.2.1).mono ?_
  rintro e w' ⟨⟨z4, rfl⟩, rfl⟩
  clear q1
  by_cases q1 : 1048576 < z4
  · go_wp2_with fail
    go_ret
    exact ⟨rfl, Below.refl _ _⟩
  go_wp2_with fail
  refine (strs8 _ av lv cv _ HA.out.v M.out.2.2.2.2.1).mono ?_
  rintro e w' ⟨⟨z5, rfl⟩, rfl⟩
  clear q1
  by_cases q1 : 1048576 < z5
  · go_wp2_with fail
    go_ret
    exact ⟨rfl, Below.refl _ _⟩
  go_wp2_with fail
  refine (strs8 _ az lz cz _ HA.out.z M.out.2.2.2.2.2).mono ?_
  rintro e w' ⟨⟨z6, rfl⟩, rfl⟩
  clear q1
  by_cases q1 : 1048576 < z6
  · go_wp2_with fail
    go_ret
    exact ⟨rfl, Below.refl _ _⟩
  go_wp2_with fail
  clear q1
  refine (clone10 an ln cn _ HA.out.n mn).mono ?_
  rintro e w1 ⟨⟨bn, dn, rfl, hs⟩, hb⟩
  have Sn := hide hs
  have BW := hide hb
  clear hs hb
  go_wp2_with fail
  refine (clone10 af lf cf _ (HA.out.f.below BW.out) mf).mono ?_
  rintro e w2 ⟨⟨bf, df, rfl, hs⟩, hb⟩
  replace Sn := hide (Sn.out.below hb)
  have Sf := hide hs
  replace BW := hide (below_trans BW.out hb)
  clear hs hb
  go_wp2_with fail
  refine (clone10 ar lr cr _ (HA.out.r.below BW.out) mr).mono ?_
  rintro e w3 ⟨⟨br, dr, rfl, hs⟩, hb⟩
  replace Sn := hide (Sn.out.below hb)
  replace Sf := hide (Sf.out.below hb)
  have Sr := hide hs
  replace BW := hide (below_trans BW.out hb)
  clear hs hb
  go_wp2_with fail
  refine (clone10 au lu cu _ (HA.out.u.below BW.out) mu).mono ?_
  rintro e w4 ⟨⟨bu, du, rfl, hs⟩, hb⟩
  replace Sn := hide (Sn.out.below hb)
  replace Sf := hide (Sf.out.below hb)
  replace Sr := hide (Sr.out.below hb)
  have Su := hide hs
  replace BW := hide (below_trans BW.out hb)
  clear hs hb
  go_wp2_with fail
  refine (clone10 av lv cv _ (HA.out.v.below BW.out) mv).mono ?_
  rintro e w5 ⟨⟨bv, dv, rfl, hs⟩, hb⟩
  replace Sn := hide (Sn.out.below hb)
  replace Sf := hide (Sf.out.below hb)
  replace Sr := hide (Sr.out.below hb)
  replace Su := hide (Su.out.below hb)
  have Sv := hide hs
  replace BW := hide (below_trans BW.out hb)
  clear hs hb
  go_wp2_with fail
  refine (clone10 az lz cz _ (HA.out.z.below BW.out) mz).mono ?_
  rintro e w6 ⟨⟨bz, dz, rfl, hs⟩, hb⟩
  replace Sn := hide (Sn.out.below hb)
  replace Sf := hide (Sf.out.below hb)
  replace Sr := hide (Sr.out.below hb)
  replace Su := hide (Su.out.below hb)
  replace Sv := hide (Sv.out.below hb)
  have Sz := hide hs
  replace BW := hide (below_trans BW.out hb)
  clear hs hb
  go_wp2_with fail
  refine (sources18n bn bf br bu ln lf lr lu dn df dr du _ Sn.out Sf.out Sr.out Su.out HE.out.1 HE.out.2.1 HE.out.2.2 mn).mono ?_
  rintro e w7 ⟨⟨br7, rfl, hr⟩, hb⟩
  replace Sn := hide (Sn.out.below hb)
  replace Sf := hide (Sf.out.below hb)
  replace Sr := hide (Sr.out.below hb)
  replace Su := hide (Su.out.below hb)
  replace Sv := hide (Sv.out.below hb)
  replace Sz := hide (Sz.out.below hb)
  have RP := hide hr
  replace BW := hide (below_trans BW.out hb)
  clear hr hb
  go_wp2_with fail
  refine (clone10 bv lv dv _ Sv.out mv).mono ?_
  rintro e w8 ⟨⟨av0, cv0, rfl, hs⟩, hb⟩
  replace Sn := hide (Sn.out.below hb)
  replace Sf := hide (Sf.out.below hb)
  replace Sr := hide (Sr.out.below hb)
  replace Su := hide (Su.out.below hb)
  replace Sv := hide (Sv.out.below hb)
  replace Sz := hide (Sz.out.below hb)
  replace RP := hide (RP.out.below hb)
  replace BW := hide (below_trans BW.out hb)
  have V := hide hs
  clear hs hb
  go_wp2_with fail
  refine (clone10 bz lz dz _ Sz.out mz).mono ?_
  rintro e w9 ⟨⟨az0, cz0, rfl, hs⟩, hb⟩
  replace Sn := hide (Sn.out.below hb)
  replace Sf := hide (Sf.out.below hb)
  replace Sr := hide (Sr.out.below hb)
  replace Su := hide (Su.out.below hb)
  replace Sv := hide (Sv.out.below hb)
  replace Sz := hide (Sz.out.below hb)
  replace RP := hide (RP.out.below hb)
  replace BW := hide (below_trans BW.out hb)
  replace V := hide (V.out.below hb)
  have Z := hide hs
  clear hs hb
  go_wp2_with fail
  refine (zz19 id (some ⟨br7, 0, none⟩) ln.length ln.length _ _ _ _ asked av0 az0 lv lz cv0 cz0 _ RP.out mn V.out Z.out mv mz (by omega) (by omega)).mono ?_
  rintro e w10 ⟨⟨v0, rfl, p01, q01, p03, q03, p04, q04, rfl, hs, hfr⟩, hb⟩
  replace Sn := hide (Sn.out.below hb)
  replace Sf := hide (Sf.out.below hb)
  replace Sr := hide (Sr.out.below hb)
  replace Su := hide (Su.out.below hb)
  replace Sv := hide (Sv.out.below hb)
  replace Sz := hide (Sz.out.below hb)
  replace RP := hide (RP.out.below hb)
  replace BW := hide (below_trans BW.out hb)
  clear V Z hb hfr
  simp only [map_getD] at hs ⊢
  have R0 := hide (row5_new w10 40 (.string id) (.slice p01 ln.length q01) (.slice p03 (ln.filter fun s => !has lv s).length q03) (.slice p04 (ln.filter (has lz)).length q04) (.int .i64 (stOf ln.length (fun i => ln.getD i ByteArray.empty) (fun i => lf.getD i ByteArray.empty) (has lv) (has lz) (asked))))
  have hb : Below w10.heap.size w10 (w10.alloc (.cells #[.string id, .slice p01 ln.length q01, .slice p03 (ln.filter fun s => !has lv s).length q03, .slice p04 (ln.filter (has lz)).length q04, .int .i64 (stOf ln.length (fun i => ln.getD i ByteArray.empty) (fun i => lf.getD i ByteArray.empty) (has lv) (has lz) (asked))] 40)) := (Below.refl _ _).alloc (Nat.le_refl _) _
  replace Sn := hide (Sn.out.below hb)
  replace Sf := hide (Sf.out.below hb)
  replace Sr := hide (Sr.out.below hb)
  replace Su := hide (Su.out.below hb)
  replace Sv := hide (Sv.out.below hb)
  replace Sz := hide (Sz.out.below hb)
  replace RP := hide (RP.out.below hb)
  replace BW := hide (below_trans BW.out hb)
  have T0 := hide (And.intro (hs.1.below hb) (And.intro (hs.2.1.below hb) (hs.2.2.below hb)))
  clear hs hb
  generalize hst0 : stOf ln.length (fun i => ln.getD i ByteArray.empty) (fun i => lf.getD i ByteArray.empty) (has lv) (has lz) (asked) = st0 at R0 T0 RP Sn Sf Sr Su Sv Sz BW ⊢
  have ST0 := hide hst0
  clear hst0
  go_wp2_with fail
  generalize (w10.alloc (.cells #[.string id, .slice p01 ln.length q01, .slice p03 (ln.filter fun s => !has lv s).length q03, .slice p04 (ln.filter (has lz)).length q04, .int .i64 st0] 40)) = X0 at R0 T0 RP Sn Sf Sr Su Sv Sz BW ⊢
  generalize w10.heap.size = B0 at R0 ⊢
  refine (clone10 bv lv dv _ Sv.out mv).mono ?_
  rintro e w11 ⟨⟨av1, cv1, rfl, hs⟩, hb⟩
  replace Sn := hide (Sn.out.below hb)
  replace Sf := hide (Sf.out.below hb)
  replace Sr := hide (Sr.out.below hb)
  replace Su := hide (Su.out.below hb)
  replace Sv := hide (Sv.out.below hb)
  replace Sz := hide (Sz.out.below hb)
  replace RP := hide (RP.out.below hb)
  replace BW := hide (below_trans BW.out hb)
  replace R0 := hide (row_below R0.out hb)
  replace T0 := hide (And.intro (T0.out.1.below hb) (And.intro (T0.out.2.1.below hb) (T0.out.2.2.below hb)))
  have V := hide hs
  clear hs hb
  go_wp2_with fail
  refine (clone10 bz lz dz _ Sz.out mz).mono ?_
  rintro e w12 ⟨⟨az1, cz1, rfl, hs⟩, hb⟩
  replace Sn := hide (Sn.out.below hb)
  replace Sf := hide (Sf.out.below hb)
  replace Sr := hide (Sr.out.below hb)
  replace Su := hide (Su.out.below hb)
  replace Sv := hide (Sv.out.below hb)
  replace Sz := hide (Sz.out.below hb)
  replace RP := hide (RP.out.below hb)
  replace BW := hide (below_trans BW.out hb)
  replace R0 := hide (row_below R0.out hb)
  replace T0 := hide (And.intro (T0.out.1.below hb) (And.intro (T0.out.2.1.below hb) (T0.out.2.2.below hb)))
  replace V := hide (V.out.below hb)
  have Z := hide hs
  clear hs hb
  go_wp2_with fail
  refine (zz19 id (some ⟨br7, 0, none⟩) ln.length ln.length _ _ _ _ (asked + 1) av1 az1 lv lz cv1 cz1 _ RP.out mn V.out Z.out mv mz (by omega) (by omega)).mono ?_
  rintro e w13 ⟨⟨v1, rfl, p11, q11, p13, q13, p14, q14, rfl, hs, hfr⟩, hb⟩
  replace Sn := hide (Sn.out.below hb)
  replace Sf := hide (Sf.out.below hb)
  replace Sr := hide (Sr.out.below hb)
  replace Su := hide (Su.out.below hb)
  replace Sv := hide (Sv.out.below hb)
  replace Sz := hide (Sz.out.below hb)
  replace RP := hide (RP.out.below hb)
  replace BW := hide (below_trans BW.out hb)
  replace R0 := hide (row_below R0.out hb)
  replace T0 := hide (And.intro (T0.out.1.below hb) (And.intro (T0.out.2.1.below hb) (T0.out.2.2.below hb)))
  clear V Z hb hfr
  simp only [map_getD] at hs ⊢
  have R1 := hide (row5_new w13 40 (.string id) (.slice p11 ln.length q11) (.slice p13 (ln.filter fun s => !has lv s).length q13) (.slice p14 (ln.filter (has lz)).length q14) (.int .i64 (stOf ln.length (fun i => ln.getD i ByteArray.empty) (fun i => lf.getD i ByteArray.empty) (has lv) (has lz) ((asked + 1)))))
  have hb : Below w13.heap.size w13 (w13.alloc (.cells #[.string id, .slice p11 ln.length q11, .slice p13 (ln.filter fun s => !has lv s).length q13, .slice p14 (ln.filter (has lz)).length q14, .int .i64 (stOf ln.length (fun i => ln.getD i ByteArray.empty) (fun i => lf.getD i ByteArray.empty) (has lv) (has lz) ((asked + 1)))] 40)) := (Below.refl _ _).alloc (Nat.le_refl _) _
  replace Sn := hide (Sn.out.below hb)
  replace Sf := hide (Sf.out.below hb)
  replace Sr := hide (Sr.out.below hb)
  replace Su := hide (Su.out.below hb)
  replace Sv := hide (Sv.out.below hb)
  replace Sz := hide (Sz.out.below hb)
  replace RP := hide (RP.out.below hb)
  replace BW := hide (below_trans BW.out hb)
  replace R0 := hide (row_below R0.out hb)
  replace T0 := hide (And.intro (T0.out.1.below hb) (And.intro (T0.out.2.1.below hb) (T0.out.2.2.below hb)))
  have T1 := hide (And.intro (hs.1.below hb) (And.intro (hs.2.1.below hb) (hs.2.2.below hb)))
  clear hs hb
  generalize hst1 : stOf ln.length (fun i => ln.getD i ByteArray.empty) (fun i => lf.getD i ByteArray.empty) (has lv) (has lz) ((asked + 1)) = st1 at R1 T1 RP Sn Sf Sr Su Sv Sz BW R0 T0 ⊢
  have ST1 := hide hst1
  clear hst1
  go_wp2_with fail
  generalize (w13.alloc (.cells #[.string id, .slice p11 ln.length q11, .slice p13 (ln.filter fun s => !has lv s).length q13, .slice p14 (ln.filter (has lz)).length q14, .int .i64 st1] 40)) = X1 at R0 T0 R1 T1 RP Sn Sf Sr Su Sv Sz BW ⊢
  generalize w13.heap.size = B1 at R1 ⊢
  clear M HA HID HE b1 b2 b3 Sf Sr Su RP
  go_loop [21, 22] (fun t i => ∃ k : Nat, k ≤ ln.length ∧ i = .int .i64 k ∧ t = .int .i64 (srv (ln.take k) (has lv) (has lz))) (fun _ i => ln.length - (intOf i).toNat)
  case atStart => exact ⟨0, Nat.zero_le _, rfl, rfl⟩
  case round =>
    obtain ⟨k, hk, rfl, rfl⟩ := hrel
    have hsl : srv (ln.take k) (has lv) (has lz) ≤ 65536 := Nat.le_trans (List.length_filter_le _ _) (by rw [List.length_take]; omega)
    by_cases hlt : k < ln.length
    · obtain hx | ⟨b, off, rfl, hb, hc⟩ := Sn.out
      · subst hx; simp at hlt
      have c0 := hc k hlt
      have hts : srv (ln.take (k + 1)) (has lv) (has lz) = srv (ln.take k) (has lv) (has lz) + if has lv (ln.getD k ByteArray.empty) && !has lz (ln.getD k ByteArray.empty) then 1 else 0 := by
        unfold srv
        rw [List.take_succ_eq_append_getElem hlt, List.filter_append, List.length_append]
        have : ln.getD k ByteArray.empty = ln[k] := by simp [List.getD_eq_getElem?_getD, List.getElem?_eq_getElem hlt]
        rw [this]
        by_cases h : has lv ln[k] && !has lz ln[k] <;> simp [h]
      clear hc
      generalize ln.getD k ByteArray.empty = x at c0 hts
      generalize srv (ln.take k) (has lv) (has lz) = m at hts hsl ⊢
      have HT := hide hts
      clear hts
      go_wp2_with fail
      refine (has9 bv lv dv x _ Sv.out mv).mono ?_
      rintro e w' ⟨rfl, rfl⟩
      cases h1 : has lv x
      · go_wp2_with fail
        go_round
        case rel => exact ⟨k + 1, by omega, by go_num, by rw [HT.out, h1]; simp⟩
        case measure => simp [intOf]; omega
      · go_wp2_with fail
        refine (has9 bz lz dz x _ Sz.out mz).mono ?_
        rintro e w' ⟨rfl, rfl⟩
        cases h2 : has lz x
        · go_wp2_with fail
          go_round
          case rel => exact ⟨k + 1, by omega, by go_num, by rw [HT.out, h1, h2]; simp⟩
          case measure => simp [intOf]; omega
        · go_wp2_with fail
          go_round
          case rel => exact ⟨k + 1, by omega, by go_num, by rw [HT.out, h1, h2]; simp⟩
          case measure => simp [intOf]; omega
    · have ht : ln.take k = ln := List.take_of_length_le (by omega)
      rw [ht] at hsl ⊢
      have o0 := st_online ln.length (fun i => ln.getD i ByteArray.empty) (fun i => lf.getD i ByteArray.empty) (has lv) (has lz) asked
      have o1 := st_online ln.length (fun i => ln.getD i ByteArray.empty) (fun i => lf.getD i ByteArray.empty) (has lv) (has lz) (asked + 1)
      have o2 := st_pending ln.length (fun i => ln.getD i ByteArray.empty) (fun i => lf.getD i ByteArray.empty) (has lv) (has lz) asked
      rw [map_getD, ST0.out] at o0
      rw [map_getD, ST1.out] at o1
      rw [ST0.out, ST1.out] at o2
      change (st0 == 1) = (decide (0 < srv ln (has lv) (has lz)) && decide (asked ≤ srv ln (has lv) (has lz))) at o0
      change (st1 == 1) = (decide (0 < srv ln (has lv) (has lz)) && decide (asked + 1 ≤ srv ln (has lv) (has lz))) at o1
      generalize srv ln (has lv) (has lz) = sv at hsl o0 o1 ⊢
      have O := hide (And.intro o0 (And.intro o1 o2))
      clear o0 o1 o2 ht ST0 ST1
      have eE : (id.toList == id.toList) = true := by simp
      have hcase : ∃ on0 on1 pn0 pn1 : Bool, (st0 == 1) = on0 ∧ (st1 == 1) = on1 ∧ (st0 == 4) = pn0 ∧ (st1 == 4) = pn1 ∧ (pn0 = true → pn1 = true) ∧
          ((on0 = false ∧ on1 = false ∧ ¬ 0 < sv) ∨ (on0 = true ∧ on1 = true ∧ 0 < sv ∧ asked + 1 ≤ sv) ∨ (on0 = true ∧ on1 = false ∧ 0 < sv ∧ asked ≤ sv ∧ ¬ asked + 1 ≤ sv) ∨ (on0 = false ∧ on1 = false ∧ 0 < sv ∧ ¬ asked ≤ sv ∧ ¬ asked + 1 ≤ sv)) := by
        refine ⟨_, _, _, _, rfl, rfl, rfl, rfl, ?_, ?_⟩
        · intro h
          have := O.out.2.2 (by simpa using h)
          simp [this]
        · rw [O.out.1, O.out.2.1]
          by_cases s1 : 0 < sv
          · by_cases s2 : asked + 1 ≤ sv
            · have s3 : asked ≤ sv := by omega
              right; left; simp [s1, s2, s3]
            · by_cases s3 : asked ≤ sv
              · right; right; left; simp [s1, s2, s3]
              · right; right; right; simp [s1, s2, s3]
          · left; simp [s1]
      obtain ⟨on0, on1, pn0, pn1, e1, e2, e3, e4, e5, e6⟩ := hcase
      clear O hk
      rcases e6 with ⟨rfl, rfl, s1⟩ | ⟨rfl, rfl, s1, s2⟩ | ⟨rfl, rfl, s1, s2, s3⟩ | ⟨rfl, rfl, s1, s2, s3⟩
      all_goals
        have g00 := World.rowIs.cell R0.out (i := 0) (by decide)
        have g10 := World.rowIs.cell R1.out (i := 0) (by decide)
        have g01 := World.rowIs.cell R0.out (i := 1) (by decide)
        simp only [row5] at g00 g10 g01
        go_wp2_with fail
        refine (eq15 p01 bn ln ln q01 dn _ T0.out.1 Sn.out (by omega) (by omega)).mono ?_
        rw [show eqL ln ln = true from decide_eq_true rfl]
        rintro e y1 ⟨rfl, hb⟩
        clear g00 g10 g01
        replace R0 := hide (row_below R0.out hb)
        replace R1 := hide (row_below R1.out hb)
        replace T0 := hide (And.intro (T0.out.1.below hb) (And.intro (T0.out.2.1.below hb) (T0.out.2.2.below hb)))
        replace T1 := hide (And.intro (T1.out.1.below hb) (And.intro (T1.out.2.1.below hb) (T1.out.2.2.below hb)))
        replace Sn := hide (Sn.out.below hb)
        replace BW := hide (below_trans BW.out hb)
        clear hb
        have g11 := World.rowIs.cell R1.out (i := 1) (by decide)
        simp only [row5] at g11
        go_wp2_with fail
        refine (eq15 p11 bn ln ln q11 dn _ T1.out.1 Sn.out (by omega) (by omega)).mono ?_
        rw [show eqL ln ln = true from decide_eq_true rfl]
        rintro e y2 ⟨rfl, hb⟩
        clear g11
        replace R0 := hide (row_below R0.out hb)
        replace R1 := hide (row_below R1.out hb)
        replace T0 := hide (And.intro (T0.out.1.below hb) (And.intro (T0.out.2.1.below hb) (T0.out.2.2.below hb)))
        replace T1 := hide (And.intro (T1.out.1.below hb) (And.intro (T1.out.2.1.below hb) (T1.out.2.2.below hb)))
        replace Sn := hide (Sn.out.below hb)
        replace BW := hide (below_trans BW.out hb)
        clear hb
        have g02 := World.rowIs.cell R0.out (i := 2) (by decide)
        have g12 := World.rowIs.cell R1.out (i := 2) (by decide)
        simp only [row5] at g02 g12
        go_wp2_with fail
        refine (eq15 p03 p13 (ln.filter fun s => !has lv s) (ln.filter fun s => !has lv s) q03 q13 _ T0.out.2.1 T1.out.2.1 (Nat.le_trans (List.length_filter_le _ _) (by omega)) (Nat.le_trans (List.length_filter_le _ _) (by omega))).mono ?_
        rw [show eqL (ln.filter fun s => !has lv s) (ln.filter fun s => !has lv s) = true from decide_eq_true rfl]
        rintro e y3 ⟨rfl, hb⟩
        clear g02 g12
        replace R0 := hide (row_below R0.out hb)
        replace R1 := hide (row_below R1.out hb)
        replace T0 := hide (And.intro (T0.out.1.below hb) (And.intro (T0.out.2.1.below hb) (T0.out.2.2.below hb)))
        replace T1 := hide (And.intro (T1.out.1.below hb) (And.intro (T1.out.2.1.below hb) (T1.out.2.2.below hb)))
        replace Sn := hide (Sn.out.below hb)
        replace BW := hide (below_trans BW.out hb)
        clear hb
        have g03 := World.rowIs.cell R0.out (i := 3) (by decide)
        have g13 := World.rowIs.cell R1.out (i := 3) (by decide)
        simp only [row5] at g03 g13
        go_wp2_with fail
        refine (eq15 p04 p14 (ln.filter (has lz)) (ln.filter (has lz)) q04 q14 _ T0.out.2.2 T1.out.2.2 (Nat.le_trans (List.length_filter_le _ _) (by omega)) (Nat.le_trans (List.length_filter_le _ _) (by omega))).mono ?_
        rw [show eqL (ln.filter (has lz)) (ln.filter (has lz)) = true from decide_eq_true rfl]
        rintro e y4 ⟨rfl, hb⟩
        clear g03 g13
        replace R0 := hide (row_below R0.out hb)
        replace R1 := hide (row_below R1.out hb)
        replace T0 := hide (And.intro (T0.out.1.below hb) (And.intro (T0.out.2.1.below hb) (T0.out.2.2.below hb)))
        replace T1 := hide (And.intro (T1.out.1.below hb) (And.intro (T1.out.2.1.below hb) (T1.out.2.2.below hb)))
        replace Sn := hide (Sn.out.below hb)
        replace BW := hide (below_trans BW.out hb)
        clear hb
        have g04 := World.rowIs.cell R0.out (i := 4) (by decide)
        have g14 := World.rowIs.cell R1.out (i := 4) (by decide)
        simp only [row5] at g04 g14
        cases pn0
        · have e3' : (st0 != 4) = true := by rw [bne, e3]; rfl
          clear e3 e4 e5
          go_wp2_with fail
          go_ret
          exact ⟨rfl, BW.out⟩
        · have e5' := e5 rfl
          subst e5'
          have e3' : (st0 != 4) = false := by rw [bne, e3]; rfl
          clear e5 e3
          go_wp2_with fail
          go_ret
          exact ⟨rfl, BW.out⟩
end Go.Proofs.Qxb6612939a
