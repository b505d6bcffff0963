/-
  THE WALK OF FnNewSourcePlacementCut (function 5): lengths within the law's bounds.
-/
import Derived.Test.Qxb6612939aCutParts
namespace Go.Proofs.Qxb6612939a
open Go.RowKit
attribute [local go_sem ↓] Go.wp_at_zero Go.wp_at_succ

theorem pl_drew {w : World} {B : Nat} {id : ByteArray} {L l3 l4 : List ByteArray} {st : Int} {p1 p3 p4 : Option Addr} {q1 q3 q4 : Nat} (h : PlAt w B id L l3 l4 st p1 q1 p3 q3 p4 q4) : PlAt w.drew B id L l3 l4 st p1 q1 p3 q3 p4 q4 := h.below (Below.refl _ _).drew

theorem pl_cells {w : World} {B0 B1 B2 : Nat} {id : ByteArray} {L l3 l4 LA a3 a4 LB b3 b4 : List ByteArray} {st0 st1 st2 : Int} {p01 p03 p04 p11 p13 p14 p21 p23 p24 : Option Addr} {q01 q03 q04 q11 q13 q14 q21 q23 q24 : Nat}
    (h0 : PlAt w B0 id L l3 l4 st0 p01 q01 p03 q03 p04 q04) (h1 : PlAt w B1 id LA a3 a4 st1 p11 q11 p13 q13 p14 q14) (h2 : PlAt w B2 id LB b3 b4 st2 p21 q21 p23 q23 p24 q24) :
    w.cell? ⟨B0, 0, none⟩ = some (.string id) ∧ w.cell? ⟨B0, 1, none⟩ = some (.slice p01 L.length q01) ∧ w.cell? ⟨B0, 2, none⟩ = some (.slice p03 l3.length q03) ∧ w.cell? ⟨B0, 3, none⟩ = some (.slice p04 l4.length q04) ∧ w.cell? ⟨B0, 4, none⟩ = some (.int .i64 st0)
      ∧ w.cell? ⟨B1, 0, none⟩ = some (.string id) ∧ w.cell? ⟨B1, 1, none⟩ = some (.slice p11 LA.length q11) ∧ w.cell? ⟨B1, 2, none⟩ = some (.slice p13 a3.length q13) ∧ w.cell? ⟨B1, 3, none⟩ = some (.slice p14 a4.length q14)
      ∧ w.cell? ⟨B2, 0, none⟩ = some (.string id) ∧ w.cell? ⟨B2, 1, none⟩ = some (.slice p21 LB.length q21) ∧ w.cell? ⟨B2, 2, none⟩ = some (.slice p23 b3.length q23) ∧ w.cell? ⟨B2, 3, none⟩ = some (.slice p24 b4.length q24) :=
  ⟨h0.row.cell (by decide), h0.row.cell (by decide), h0.row.cell (by decide), h0.row.cell (by decide), h0.row.cell (by decide), h1.row.cell (by decide), h1.row.cell (by decide), h1.row.cell (by decide), h1.row.cell (by decide), h2.row.cell (by decide), h2.row.cell (by decide), h2.row.cell (by decide), h2.row.cell (by decide)⟩

theorem state20' (an af av az : Option Addr) (ln lf lv lz : List ByteArray) (cn cf cv cz : Nat) (asked st : Int) (w : World) (hst : srcState ln (has lf) (has lv) (has lz) asked = st) (hn : Strs w an ln) (hf : Strs w af lf) (hv : Strs w av lv) (hz : Strs w az lz) (mn : ln.length ≤ 65536) (mf : lf.length ≤ 65536) (mv : lv.length ≤ 65536) (mz : lz.length ≤ 65536) :
    Calls Try.prog 20 #[.slice an ln.length cn, .slice af lf.length cf, .int .i64 asked, .slice av lv.length cv, .slice az lz.length cz] w fun e w' => e = .returned (.int .i64 st) ∧ w = w' := by
  subst hst
  exact state20 an af av az ln lf lv lz cn cf cv cz asked w hn hf hv hz mn mf mv mz

set_option maxHeartbeats 4000000 in
set_option maxRecDepth 100000 in
theorem walk5 (id : ByteArray) (asked k0 : Int) (an af ar au av az : Option Addr) (ln lf lr lu lv lz : List ByteArray) (cn cf cr cu cv cz : Nat) (w : World) (hid : id.size ≤ 65536) (hA : Args w an af ar au av az ln lf lr lu lv lz)
    (mn : ln.length ≤ 65536) (mf : lf.length ≤ 65536) (mr : lr.length ≤ 65536) (mu : lu.length ≤ 65536) (mv : lv.length ≤ 65536) (mz : lz.length ≤ 65536) (hk2 : asked ≤ 9223372036854775807) :
    Calls Try.prog 5 #[.string id, .slice an ln.length cn, .slice af lf.length cf, .slice ar lr.length cr, .slice au lu.length cu, .int .i64 asked, .slice av lv.length cv, .slice az lz.length cz, .int .i64 k0] w fun e w' => e = .returned (.bool true) ∧ Below w.heap.size w w' := by
  have HA := hide hA
  have M := hide (And.intro mn (And.intro mf (And.intro mr (And.intro mu (And.intro mv mz)))))
  have HK2 := hide hk2
  clear hA hk2
  go_enter Try.func5, Try.ntmps5
  go_wp2_with fail
  refine (bytes17 id asked k0 an ln cn af lf cf ar lr cr au lu cu av lv cv az lz cz _ (by unfold maxLen; omega) HA.out.n HA.out.f HA.out.r HA.out.u HA.out.v HA.out.z (by unfold maxLen; omega) (by unfold maxLen; omega) (by unfold maxLen; omega) (by unfold maxLen; omega) (by unfold maxLen; omega) (by unfold maxLen; omega)).mono ?_
  rintro e w' ⟨⟨r, rfl⟩, rfl⟩
  cases r
  · go_wp2_with fail
    go_ret
    exact ⟨rfl, Below.refl _ _⟩
  go_wp2_with fail
  refine (strs8 _ an ln cn _ HA.out.n M.out.1).mono ?_
  rintro e w' ⟨⟨z0, rfl⟩, rfl⟩
  by_cases q1 : 1048576 < z0
  · go_wp2_with fail
    go_ret
    exact ⟨rfl, Below.refl _ _⟩
  go_wp2_with fail
  refine (strs8 _ af lf cf _ HA.out.f M.out.2.1).mono ?_
  rintro e w' ⟨⟨z1, rfl⟩, rfl⟩
  clear q1
  by_cases q1 : 1048576 < z1
  · go_wp2_with fail
    go_ret
    exact ⟨rfl, Below.refl _ _⟩
  go_wp2_with fail
  refine (strs8 _ ar lr cr _ HA.out.r M.out.2.2.1).mono ?_
  rintro e w' ⟨⟨z2, rfl⟩, rfl⟩
  clear q1
  by_cases q1 : 1048576 < z2
  · go_wp2_with fail
    go_ret
    exact ⟨rfl, Below.refl _ _⟩
  go_wp2_with fail
  refine (strs8 _ au lu cu _ HA.out.u M.out.2.2.2.1).mono ?_
  rintro e w' ⟨⟨z3, rfl⟩, rfl⟩
  clear q1
  by_cases q1 : 1048576 < z3
  · go_wp2_with fail
    go_ret
    exact ⟨rfl, Below.refl _ _⟩
  go_wp2_with fail
  refine (strs8 _ av lv cv _ HA.out.v M.out.2.2.2.2.1).mono ?_
  rintro e w' ⟨⟨z4, rfl⟩, rfl⟩
  clear q1
  by_cases q1 : 1048576 < z4
  · go_wp2_with fail
    go_ret
    exact ⟨rfl, Below.refl _ _⟩
  go_wp2_with fail
  refine (strs8 _ az lz cz _ HA.out.z M.out.2.2.2.2.2).mono ?_
  rintro e w' ⟨⟨z5, rfl⟩, rfl⟩
  clear q1
  by_cases q1 : 1048576 < z5
  · go_wp2_with fail
    go_ret
    exact ⟨rfl, Below.refl _ _⟩
  by_cases eF : lf.length = ln.length
  rotate_left
  · have bF : ((lf.length : Int) != (ln.length : Int)) = true := by rw [bne_iff_ne]; omega
    clear eF
    go_wp2_with fail
    go_ret
    exact ⟨rfl, Below.refl _ _⟩
  have bF : ((lf.length : Int) != (ln.length : Int)) = false := by simp [eF]
  by_cases eR : lr.length = ln.length
  rotate_left
  · have bR : ((lr.length : Int) != (ln.length : Int)) = true := by rw [bne_iff_ne]; omega
    clear eR
    go_wp2_with fail
    go_ret
    exact ⟨rfl, Below.refl _ _⟩
  have bR : ((lr.length : Int) != (ln.length : Int)) = false := by simp [eR]
  by_cases eU : lu.length = ln.length
  rotate_left
  · have bU : ((lu.length : Int) != (ln.length : Int)) = true := by rw [bne_iff_ne]; omega
    clear eU
    go_wp2_with fail
    go_ret
    exact ⟨rfl, Below.refl _ _⟩
  have bU : ((lu.length : Int) != (ln.length : Int)) = false := by simp [eU]
  have HE := hide (And.intro eF (And.intro eR eU))
  clear eF eR eU
  by_cases hk1 : asked < -1073741824
  · go_wp2_with fail
    go_ret
    exact ⟨rfl, Below.refl _ _⟩
  by_cases j1 : k0 < 0
  · go_wp2_with fail
    go_ret
    exact ⟨rfl, Below.refl _ _⟩
  obtain ⟨k, rfl⟩ : ∃ k : Nat, k0 = k := ⟨k0.toNat, by omega⟩
  by_cases j2 : (ln.length : Int) < k
  · go_wp2_with fail
    go_ret
    exact ⟨rfl, Below.refl _ _⟩
  have hk : k ≤ ln.length := by omega
  have HKL := hide hk
  have hkI : (k : Int) ≤ (ln.length : Int) := by omega
  have HK1 := hide (show -1073741824 ≤ asked by omega)
  clear hk
  go_wp2_with fail
  clear q1 hk1 j1 j2
  refine (clone10 an ln cn _ HA.out.n mn).mono ?_
  rintro e w1 ⟨⟨bn, dn, rfl, hs⟩, hb⟩
  have Sn := hide hs
  have BW := hide hb
  clear hs hb
  go_wp2_with fail
  refine (clone10 af lf cf _ (HA.out.f.below BW.out) mf).mono ?_
  rintro e w2 ⟨⟨bf, df, rfl, hs⟩, hb⟩
  replace Sn := hide (Sn.out.below hb)
  have Sf := hide hs
  replace BW := hide (below_trans BW.out hb)
  clear hs hb
  go_wp2_with fail
  refine (clone10 ar lr cr _ (HA.out.r.below BW.out) mr).mono ?_
  rintro e w3 ⟨⟨br, dr, rfl, hs⟩, hb⟩
  replace Sn := hide (Sn.out.below hb)
  replace Sf := hide (Sf.out.below hb)
  have Sr := hide hs
  replace BW := hide (below_trans BW.out hb)
  clear hs hb
  go_wp2_with fail
  refine (clone10 au lu cu _ (HA.out.u.below BW.out) mu).mono ?_
  rintro e w4 ⟨⟨bu, du, rfl, hs⟩, hb⟩
  replace Sn := hide (Sn.out.below hb)
  replace Sf := hide (Sf.out.below hb)
  replace Sr := hide (Sr.out.below hb)
  have Su := hide hs
  replace BW := hide (below_trans BW.out hb)
  clear hs hb
  go_wp2_with fail
  refine (clone10 av lv cv _ (HA.out.v.below BW.out) mv).mono ?_
  rintro e w5 ⟨⟨bv, dv, rfl, hs⟩, hb⟩
  replace Sn := hide (Sn.out.below hb)
  replace Sf := hide (Sf.out.below hb)
  replace Sr := hide (Sr.out.below hb)
  replace Su := hide (Su.out.below hb)
  have Sv := hide hs
  replace BW := hide (below_trans BW.out hb)
  clear hs hb
  go_wp2_with fail
  refine (clone10 az lz cz _ (HA.out.z.below BW.out) mz).mono ?_
  rintro e w6 ⟨⟨bz, dz, rfl, hs⟩, hb⟩
  replace Sn := hide (Sn.out.below hb)
  replace Sf := hide (Sf.out.below hb)
  replace Sr := hide (Sr.out.below hb)
  replace Su := hide (Su.out.below hb)
  replace Sv := hide (Sv.out.below hb)
  have Sz := hide hs
  replace BW := hide (below_trans BW.out hb)
  clear hs hb
  go_wp2_with fail
  refine (sources18n bn bf br bu ln lf lr lu dn df dr du _ Sn.out Sf.out Sr.out Su.out HE.out.1 HE.out.2.1 HE.out.2.2 mn).mono ?_
  rintro e w7 ⟨⟨br7, rfl, hr⟩, hb⟩
  have C := hide (show Ctx w w7 bn bf bv bz br7 ln lf lr lu lv lz from ⟨below_trans BW.out hb, Sn.out.below hb, Sf.out.below hb, Sv.out.below hb, Sz.out.below hb, hr⟩)
  clear hr hb Sn Sf Sr Su Sv Sz BW HA
  go_wp2_with fail
  refine (clone10 bv lv dv _ C.out.v mv).mono ?_
  rintro e w8 ⟨⟨av0, cv0, rfl, hs⟩, hb⟩
  replace C := hide (C.out.below hb)
  have V := hide hs
  clear hs hb
  go_wp2_with fail
  refine (clone10 bz lz dz _ C.out.z mz).mono ?_
  rintro e w9 ⟨⟨az0, cz0, rfl, hs⟩, hb⟩
  replace C := hide (C.out.below hb)
  replace V := hide (V.out.below hb)
  have Z := hide hs
  clear hs hb
  obtain ⟨st0, hst0⟩ : ∃ st, srcState ln (has lf) (has lv) (has lz) asked = st := ⟨_, rfl⟩
  have ST0 := hide hst0
  clear hst0
  go_wp2_with fail
  refine (zz19c id (some ⟨br7, 0, none⟩) ln.length ln.length _ _ _ _ asked av0 az0 lv lz cv0 cz0 ln st0 _ C.out.rp mn V.out Z.out mv mz HK1.out HK2.out (map_getD ln) ((st_is ln lf (has lv) (has lz) asked HE.out.1).trans ST0.out)).mono ?_
  rintro e w10 ⟨⟨v0, rfl, p01, q01, p03, q03, p04, q04, rfl, hs, hfr⟩, hb⟩
  replace C := hide (C.out.below hb)
  clear V Z hb hfr
  have P0 := hide (plAt_new id st0 q01 q03 q04 hs)
  have hb : Below w10.heap.size w10 (w10.alloc (.cells #[.string id, .slice p01 ln.length q01, .slice p03 (ln.filter fun s => !has lv s).length q03, .slice p04 (ln.filter (has lz)).length q04, .int .i64 st0] 40)) := (Below.refl _ _).alloc (Nat.le_refl _) _
  replace C := hide (C.out.below hb)
  clear hs hb
  go_upto_region 37 with fail
  generalize (w10.alloc (.cells #[.string id, .slice p01 ln.length q01, .slice p03 (ln.filter fun s => !has lv s).length q03, .slice p04 (ln.filter (has lz)).length q04, .int .i64 st0] 40)) = X0 at P0 C ⊢
  generalize w10.heap.size = B0 at P0 ⊢
  have hsplit : ∃ LA LB, LA ++ LB = ln ∧ ln.take k = LA ∧ ln.drop k = LB := ⟨_, _, List.take_append_drop k ln, rfl, rfl⟩
  obtain ⟨LA, LB, hab, hla, hlb⟩ := hsplit
  have LAB := hide (And.intro hab (And.intro hla hlb))
  have mla : LA.length ≤ 65536 := by rw [← hla, List.length_take]; omega
  have mlb : LB.length ≤ 65536 := by rw [← hlb, List.length_drop]; omega
  clear hab hla hlb
  have K1 := hide (show (List.range k).map (fun i => ln.getD i ByteArray.empty) = LA from (map_take ln k HKL.out).trans LAB.out.2.1)
  have K2 := hide (show (List.range (ln.length - k)).map (fun i => ln.getD (k + i) ByteArray.empty) = LB from (map_drop ln k HKL.out).trans LAB.out.2.2)
  have hkm : k ≤ 65536 := by have := HKL.out; omega
  go_cut [22] (fun s wx => ∃ bs p1 q1 p3 q3 p4 q4 st, s = .pointer (some ⟨bs, 0, none⟩) ∧ Below X0.heap.size X0 wx ∧ PlAt wx bs id LA (LA.filter fun s => !has lv s) (LA.filter (has lz)) st p1 q1 p3 q3 p4 q4)
  case first => as_aux_lemma =>
    go_region_held3 (fun _ => True) (trivial)
      (first
      | (go_at_call_of 10 bv; refine (clone10 bv lv dv _ (by exact (C.out.below (by repeat (first | exact Below.refl _ _ | apply Below.drew | refine Below.alloc ?_ (by simp) _))).v) mv).mono ?_; rintro e w2 ⟨⟨a2, c2, rfl, hs2⟩, hb2⟩
         have HB2 := hide (show Below X0.heap.size X0 w2 from below_trans (by repeat (first | exact Below.refl _ _ | apply Below.drew | refine Below.alloc ?_ (by simp) _)) hb2)
         have V := hide hs2
         try have HR := hide (sp_new (undrew hb2))
         have SZ2 := hide hb2.size
         clear hb2 hs2)
      | (go_at_call_of 10 bz; refine (clone10 bz lz dz _ (by exact (C.out.below (below_trans HB2.out (by repeat (first | exact Below.refl _ _ | apply Below.drew | refine Below.alloc ?_ (by simp) _)))).z) mz).mono ?_; rintro e w3 ⟨⟨a3, c3, rfl, hs3⟩, hb3⟩
         have HB3 := hide (show Below X0.heap.size X0 w3 from below_trans HB2.out (below_trans (by repeat (first | exact Below.refl _ _ | apply Below.drew | refine Below.alloc ?_ (by simp) _)) hb3))
         have V3 := hide (V.out.below (below_trans (by repeat (first | exact Below.refl _ _ | apply Below.drew | refine Below.alloc ?_ (by simp) _)) hb3))
         have Z := hide hs3
         try have HR := hide (row_below HR.out hb3)
         try have HR := hide (sp_new hb3)
         have SZ3 := hide hb3.size
         clear hb3 hs3)
      | (go_at_call 19; refine (zz19c id _ k _ _ _ _ _ asked a2 a3 lv lz c2 c3 LA _ _ (by exact (reps_take (C.out.below (below_trans HB3.out (by repeat (first | exact Below.refl _ _ | apply Below.drew | refine Below.alloc ?_ (by simp) _)))).rp HKL.out)) (by omega) (by exact V3.out.below (by repeat (first | exact Below.refl _ _ | apply Below.drew | refine Below.alloc ?_ (by simp) _))) (by exact Z.out.below (by repeat (first | exact Below.refl _ _ | apply Below.drew | refine Below.alloc ?_ (by simp) _))) mv mz HK1.out HK2.out K1.out rfl).mono ?_; rintro e w4 ⟨⟨v4, rfl, p1, q1, p3, q3, p4, q4, rfl, hs4, hf4⟩, hb4⟩
         have HB4 := hide (show Below X0.heap.size X0 w4 from below_trans HB3.out (below_trans (by repeat (first | exact Below.refl _ _ | apply Below.drew | refine Below.alloc ?_ (by simp) _)) hb4))
         have T4 := hide hs4
         have FF4 := hide hf4
         have SZ4 := hide hb4.size
         try have HR := hide (row_below HR.out hb4)
         try have HR := hide (sp_new hb4)
         try (have r0 := World.rowIs.cell HR.out (i := 0) (by decide); have r1 := World.rowIs.cell HR.out (i := 1) (by decide); have r2 := World.rowIs.cell HR.out (i := 2) (by decide); have r3 := World.rowIs.cell HR.out (i := 3) (by decide); have r4 := World.rowIs.cell HR.out (i := 4) (by decide); have rf := World.rowIs.frozen HR.out)
         clear hb4 hs4 hf4))
    all_goals
      go_wp2_with fail
      go_meet
    · refine ⟨_, p1, q1, p3, q3, p4, q4, _, rfl, below_trans HB4.out ((Below.refl _ _).alloc (Nat.le_refl _) _), plAt_new id _ q1 q3 q4 T4.out⟩
    · refine ⟨_, p1, q1, p3, q3, p4, q4, _, rfl, set5_below HB4.out HB3.out.size _ _ _ _ _, plAt_set HR.out id _ q1 q3 q4 T4.out (by rw [World.size_alloc]; omega) FF4.out⟩
    · refine ⟨_, p1, q1, p3, q3, p4, q4, _, rfl, set5_below HB4.out HB2.out.size _ _ _ _ _, plAt_set HR.out id _ q1 q3 q4 T4.out (by have := SZ3.out; simp at this; omega) FF4.out⟩
    · refine ⟨_, p1, q1, p3, q3, p4, q4, _, rfl, set5_below HB4.out (Nat.le_refl _) _ _ _ _ _, plAt_set HR.out id _ q1 q3 q4 T4.out (by have := SZ2.out; have := SZ3.out; simp at *; omega) FF4.out⟩
  obtain ⟨B1, p11, q11, p13, q13, p14, q14, st1, rfl, hb, hp⟩ := hcut
  replace C := hide (C.out.below hb)
  replace P0 := hide (P0.out.below hb)
  have P1 := hide hp
  clear hb hp
  replace C := hide (C.out.below (Below.refl _ _))
  go_upto_region 38 with fail
  generalize wc = X1 at P0 P1 C ⊢
  go_cut [23] (fun s wx => ∃ bs p1 q1 p3 q3 p4 q4 st, s = .pointer (some ⟨bs, 0, none⟩) ∧ Below X1.heap.size X1 wx ∧ PlAt wx bs id LB (LB.filter fun s => !has lv s) (LB.filter (has lz)) st p1 q1 p3 q3 p4 q4)
  case first => as_aux_lemma =>
    have hcase : (ln.length = k) = True ∨ (ln.length = k) = False := by by_cases h : ln.length = k <;> simp [h]
    rcases hcase with hif | hif
    · go_region_held3 (fun _ => True) (trivial)
        (first
        | (go_at_call_of 10 bv; refine (clone10 bv lv dv _ (by exact (C.out.below (by repeat (first | exact Below.refl _ _ | apply Below.drew | refine Below.alloc ?_ (by simp) _))).v) mv).mono ?_; rintro e w2 ⟨⟨a2, c2, rfl, hs2⟩, hb2⟩
           have HB2 := hide (show Below X1.heap.size X1 w2 from below_trans (by repeat (first | exact Below.refl _ _ | apply Below.drew | refine Below.alloc ?_ (by simp) _)) hb2)
           have V := hide hs2
           try have HR := hide (sp_new (undrew hb2))
           have SZ2 := hide hb2.size
           clear hb2 hs2)
        | (go_at_call_of 10 bz; refine (clone10 bz lz dz _ (by exact (C.out.below (below_trans HB2.out (by repeat (first | exact Below.refl _ _ | apply Below.drew | refine Below.alloc ?_ (by simp) _)))).z) mz).mono ?_; rintro e w3 ⟨⟨a3, c3, rfl, hs3⟩, hb3⟩
           have HB3 := hide (show Below X1.heap.size X1 w3 from below_trans HB2.out (below_trans (by repeat (first | exact Below.refl _ _ | apply Below.drew | refine Below.alloc ?_ (by simp) _)) hb3))
           have V3 := hide (V.out.below (below_trans (by repeat (first | exact Below.refl _ _ | apply Below.drew | refine Below.alloc ?_ (by simp) _)) hb3))
           have Z := hide hs3
           try have HR := hide (row_below HR.out hb3)
           try have HR := hide (sp_new hb3)
           have SZ3 := hide hb3.size
           clear hb3 hs3)
        | (go_at_call 19; refine (zz19c id _ (ln.length - k) _ _ _ _ _ asked a2 a3 lv lz c2 c3 LB _ _ (by exact (reps_drop (C.out.below (below_trans HB3.out (by repeat (first | exact Below.refl _ _ | apply Below.drew | refine Below.alloc ?_ (by simp) _)))).rp HKL.out (by intro h; first | rfl | exact absurd (of_eq_true hif) h))) (by omega) (by exact V3.out.below (by repeat (first | exact Below.refl _ _ | apply Below.drew | refine Below.alloc ?_ (by simp) _))) (by exact Z.out.below (by repeat (first | exact Below.refl _ _ | apply Below.drew | refine Below.alloc ?_ (by simp) _))) mv mz HK1.out HK2.out K2.out rfl).mono ?_; rintro e w4 ⟨⟨v4, rfl, p1, q1, p3, q3, p4, q4, rfl, hs4, hf4⟩, hb4⟩
           have HB4 := hide (show Below X1.heap.size X1 w4 from below_trans HB3.out (below_trans (by repeat (first | exact Below.refl _ _ | apply Below.drew | refine Below.alloc ?_ (by simp) _)) hb4))
           have T4 := hide hs4
           have FF4 := hide hf4
           have SZ4 := hide hb4.size
           try have HR := hide (row_below HR.out hb4)
           try have HR := hide (sp_new hb4)
           try (have r0 := World.rowIs.cell HR.out (i := 0) (by decide); have r1 := World.rowIs.cell HR.out (i := 1) (by decide); have r2 := World.rowIs.cell HR.out (i := 2) (by decide); have r3 := World.rowIs.cell HR.out (i := 3) (by decide); have r4 := World.rowIs.cell HR.out (i := 4) (by decide); have rf := World.rowIs.frozen HR.out)
           clear hb4 hs4 hf4))
      all_goals
        go_wp2_with fail
        go_meet
      · refine ⟨_, p1, q1, p3, q3, p4, q4, _, rfl, below_trans HB4.out ((Below.refl _ _).alloc (Nat.le_refl _) _), plAt_new id _ q1 q3 q4 T4.out⟩
      · refine ⟨_, p1, q1, p3, q3, p4, q4, _, rfl, set5_below HB4.out HB3.out.size _ _ _ _ _, plAt_set HR.out id _ q1 q3 q4 T4.out (by rw [World.size_alloc]; omega) FF4.out⟩
      · refine ⟨_, p1, q1, p3, q3, p4, q4, _, rfl, set5_below HB4.out HB2.out.size _ _ _ _ _, plAt_set HR.out id _ q1 q3 q4 T4.out (by have := SZ3.out; simp at this; omega) FF4.out⟩
      · refine ⟨_, p1, q1, p3, q3, p4, q4, _, rfl, set5_below HB4.out (Nat.le_refl _) _ _ _ _ _, plAt_set HR.out id _ q1 q3 q4 T4.out (by have := SZ2.out; have := SZ3.out; simp at *; omega) FF4.out⟩
    · go_region_held3 (fun _ => True) (trivial)
        (first
        | (go_at_call_of 10 bv; refine (clone10 bv lv dv _ (by exact (C.out.below (by repeat (first | exact Below.refl _ _ | apply Below.drew | refine Below.alloc ?_ (by simp) _))).v) mv).mono ?_; rintro e w2 ⟨⟨a2, c2, rfl, hs2⟩, hb2⟩
           have HB2 := hide (show Below X1.heap.size X1 w2 from below_trans (by repeat (first | exact Below.refl _ _ | apply Below.drew | refine Below.alloc ?_ (by simp) _)) hb2)
           have V := hide hs2
           try have HR := hide (sp_new (undrew hb2))
           have SZ2 := hide hb2.size
           clear hb2 hs2)
        | (go_at_call_of 10 bz; refine (clone10 bz lz dz _ (by exact (C.out.below (below_trans HB2.out (by repeat (first | exact Below.refl _ _ | apply Below.drew | refine Below.alloc ?_ (by simp) _)))).z) mz).mono ?_; rintro e w3 ⟨⟨a3, c3, rfl, hs3⟩, hb3⟩
           have HB3 := hide (show Below X1.heap.size X1 w3 from below_trans HB2.out (below_trans (by repeat (first | exact Below.refl _ _ | apply Below.drew | refine Below.alloc ?_ (by simp) _)) hb3))
           have V3 := hide (V.out.below (below_trans (by repeat (first | exact Below.refl _ _ | apply Below.drew | refine Below.alloc ?_ (by simp) _)) hb3))
           have Z := hide hs3
           try have HR := hide (row_below HR.out hb3)
           try have HR := hide (sp_new hb3)
           have SZ3 := hide hb3.size
           clear hb3 hs3)
        | (go_at_call 19; refine (zz19c id _ (ln.length - k) _ _ _ _ _ asked a2 a3 lv lz c2 c3 LB _ _ (by exact (reps_drop (C.out.below (below_trans HB3.out (by repeat (first | exact Below.refl _ _ | apply Below.drew | refine Below.alloc ?_ (by simp) _)))).rp HKL.out (by intro h; first | rfl | exact absurd (of_eq_true hif) h))) (by omega) (by exact V3.out.below (by repeat (first | exact Below.refl _ _ | apply Below.drew | refine Below.alloc ?_ (by simp) _))) (by exact Z.out.below (by repeat (first | exact Below.refl _ _ | apply Below.drew | refine Below.alloc ?_ (by simp) _))) mv mz HK1.out HK2.out K2.out rfl).mono ?_; rintro e w4 ⟨⟨v4, rfl, p1, q1, p3, q3, p4, q4, rfl, hs4, hf4⟩, hb4⟩
           have HB4 := hide (show Below X1.heap.size X1 w4 from below_trans HB3.out (below_trans (by repeat (first | exact Below.refl _ _ | apply Below.drew | refine Below.alloc ?_ (by simp) _)) hb4))
           have T4 := hide hs4
           have FF4 := hide hf4
           have SZ4 := hide hb4.size
           try have HR := hide (row_below HR.out hb4)
           try have HR := hide (sp_new hb4)
           try (have r0 := World.rowIs.cell HR.out (i := 0) (by decide); have r1 := World.rowIs.cell HR.out (i := 1) (by decide); have r2 := World.rowIs.cell HR.out (i := 2) (by decide); have r3 := World.rowIs.cell HR.out (i := 3) (by decide); have r4 := World.rowIs.cell HR.out (i := 4) (by decide); have rf := World.rowIs.frozen HR.out)
           clear hb4 hs4 hf4))
      all_goals
        go_wp2_with fail
        go_meet
      · refine ⟨_, p1, q1, p3, q3, p4, q4, _, rfl, below_trans HB4.out ((Below.refl _ _).alloc (Nat.le_refl _) _), plAt_new id _ q1 q3 q4 T4.out⟩
      · refine ⟨_, p1, q1, p3, q3, p4, q4, _, rfl, set5_below HB4.out HB3.out.size _ _ _ _ _, plAt_set HR.out id _ q1 q3 q4 T4.out (by rw [World.size_alloc]; omega) FF4.out⟩
      · refine ⟨_, p1, q1, p3, q3, p4, q4, _, rfl, set5_below HB4.out HB2.out.size _ _ _ _ _, plAt_set HR.out id _ q1 q3 q4 T4.out (by have := SZ3.out; simp at this; omega) FF4.out⟩
      · refine ⟨_, p1, q1, p3, q3, p4, q4, _, rfl, set5_below HB4.out (Nat.le_refl _) _ _ _ _ _, plAt_set HR.out id _ q1 q3 q4 T4.out (by have := SZ2.out; have := SZ3.out; simp at *; omega) FF4.out⟩
  obtain ⟨B2, p21, q21, p23, q23, p24, q24, st2, rfl, hb, hp⟩ := hcut
  replace C := hide (C.out.below hb)
  replace P0 := hide (P0.out.below hb)
  replace P1 := hide (P1.out.below hb)
  have P2 := hide hp
  clear hb hp K1 K2 hkI HKL
  go_wp2_with fail
  refine (filter13x bn bv ln lv (ln.filter fun s => !has lv s) dn dv false _ (filt_false ln lv) C.out.n C.out.v mn mv).mono ?_
  rintro e y1 ⟨⟨ad, cd, rfl, hs⟩, hb⟩
  replace C := hide (C.out.below hb)
  replace P0 := hide (P0.out.below hb)
  replace P1 := hide (P1.out.below hb)
  replace P2 := hide (P2.out.below hb)
  have D := hide hs
  clear hb hs
  go_wp2_with fail
  refine (filter13x bn bz ln lz (ln.filter (has lz)) dn dz true _ (filt_true ln lz) C.out.n C.out.z mn mz).mono ?_
  rintro e y2 ⟨⟨ax, cx, rfl, hs⟩, hb⟩
  replace C := hide (C.out.below hb)
  replace P0 := hide (P0.out.below hb)
  replace P1 := hide (P1.out.below hb)
  replace P2 := hide (P2.out.below hb)
  replace D := hide (D.out.below hb)
  have G := hide hs
  clear hb hs
  have eE : (id.toList == id.toList) = true := by simp
  have eS : (st0 == st0) = true := by simp
  go_upto_region 41 with fail
  as_aux_lemma =>
    simp only [List.append_eq, List.cons_append, List.nil_append]
    go_region_held3 (fun w' => w'.cell? ⟨B0, 0, none⟩ = some (.string id) ∧ w'.cell? ⟨B0, 1, none⟩ = some (.slice p01 ln.length q01) ∧ w'.cell? ⟨B0, 2, none⟩ = some (.slice p03 (ln.filter fun s => !has lv s).length q03) ∧ w'.cell? ⟨B0, 3, none⟩ = some (.slice p04 (ln.filter (has lz)).length q04) ∧ w'.cell? ⟨B0, 4, none⟩ = some (.int .i64 st0)
        ∧ w'.cell? ⟨B1, 0, none⟩ = some (.string id) ∧ w'.cell? ⟨B1, 1, none⟩ = some (.slice p11 LA.length q11) ∧ w'.cell? ⟨B1, 2, none⟩ = some (.slice p13 (LA.filter fun s => !has lv s).length q13) ∧ w'.cell? ⟨B1, 3, none⟩ = some (.slice p14 (LA.filter (has lz)).length q14)
        ∧ w'.cell? ⟨B2, 0, none⟩ = some (.string id) ∧ w'.cell? ⟨B2, 1, none⟩ = some (.slice p21 LB.length q21) ∧ w'.cell? ⟨B2, 2, none⟩ = some (.slice p23 (LB.filter fun s => !has lv s).length q23) ∧ w'.cell? ⟨B2, 3, none⟩ = some (.slice p24 (LB.filter (has lz)).length q24)) (first | exact pl_cells (st1 := st1) (st2 := st2) (by exact P0.out) (by exact P1.out) (by exact P2.out) | exact pl_cells (st1 := st1) (st2 := st2) (by exact pl_drew P0.out) (by exact pl_drew P1.out) (by exact pl_drew P2.out))
      (first
      | (go_at_call_of 15 bn; refine (eq15x p01 bn ln q01 dn _ (by exact (P0.out.below (by repeat (first | exact Below.refl _ _ | apply Below.drew | refine Below.alloc ?_ (by simp) _))).s1) (by exact (C.out.below (by repeat (first | exact Below.refl _ _ | apply Below.drew | refine Below.alloc ?_ (by simp) _))).n) (by omega)).mono ?_; rintro e y3 ⟨rfl, hb⟩
         replace C := hide (C.out.below (below_trans (by repeat (first | exact Below.refl _ _ | apply Below.drew | refine Below.alloc ?_ (by simp) _)) hb))
         replace P0 := hide (P0.out.below (below_trans (by repeat (first | exact Below.refl _ _ | apply Below.drew | refine Below.alloc ?_ (by simp) _)) hb))
         replace P1 := hide (P1.out.below (below_trans (by repeat (first | exact Below.refl _ _ | apply Below.drew | refine Below.alloc ?_ (by simp) _)) hb))
         replace P2 := hide (P2.out.below (below_trans (by repeat (first | exact Below.refl _ _ | apply Below.drew | refine Below.alloc ?_ (by simp) _)) hb))
         replace D := hide (D.out.below (below_trans (by repeat (first | exact Below.refl _ _ | apply Below.drew | refine Below.alloc ?_ (by simp) _)) hb))
         replace G := hide (G.out.below (below_trans (by repeat (first | exact Below.refl _ _ | apply Below.drew | refine Below.alloc ?_ (by simp) _)) hb))
         clear hb)
      | (go_at_call_of 15 ad; refine (eq15x p03 ad (ln.filter fun s => !has lv s) q03 cd _ (by exact (P0.out.below (by repeat (first | exact Below.refl _ _ | apply Below.drew | refine Below.alloc ?_ (by simp) _))).s3) (by exact (D.out.below (by repeat (first | exact Below.refl _ _ | apply Below.drew | refine Below.alloc ?_ (by simp) _)))) (Nat.le_trans (List.length_filter_le _ _) (by omega))).mono ?_; rintro e y4 ⟨rfl, hb⟩
         replace C := hide (C.out.below (below_trans (by repeat (first | exact Below.refl _ _ | apply Below.drew | refine Below.alloc ?_ (by simp) _)) hb))
         replace P0 := hide (P0.out.below (below_trans (by repeat (first | exact Below.refl _ _ | apply Below.drew | refine Below.alloc ?_ (by simp) _)) hb))
         replace P1 := hide (P1.out.below (below_trans (by repeat (first | exact Below.refl _ _ | apply Below.drew | refine Below.alloc ?_ (by simp) _)) hb))
         replace P2 := hide (P2.out.below (below_trans (by repeat (first | exact Below.refl _ _ | apply Below.drew | refine Below.alloc ?_ (by simp) _)) hb))
         replace G := hide (G.out.below (below_trans (by repeat (first | exact Below.refl _ _ | apply Below.drew | refine Below.alloc ?_ (by simp) _)) hb))
         clear hb)
      | (go_at_call_of 15 ax; refine (eq15x p04 ax (ln.filter (has lz)) q04 cx _ (by exact (P0.out.below (by repeat (first | exact Below.refl _ _ | apply Below.drew | refine Below.alloc ?_ (by simp) _))).s4) (by exact (G.out.below (by repeat (first | exact Below.refl _ _ | apply Below.drew | refine Below.alloc ?_ (by simp) _)))) (Nat.le_trans (List.length_filter_le _ _) (by omega))).mono ?_; rintro e y5 ⟨rfl, hb⟩
         replace C := hide (C.out.below (below_trans (by repeat (first | exact Below.refl _ _ | apply Below.drew | refine Below.alloc ?_ (by simp) _)) hb))
         replace P0 := hide (P0.out.below (below_trans (by repeat (first | exact Below.refl _ _ | apply Below.drew | refine Below.alloc ?_ (by simp) _)) hb))
         replace P1 := hide (P1.out.below (below_trans (by repeat (first | exact Below.refl _ _ | apply Below.drew | refine Below.alloc ?_ (by simp) _)) hb))
         replace P2 := hide (P2.out.below (below_trans (by repeat (first | exact Below.refl _ _ | apply Below.drew | refine Below.alloc ?_ (by simp) _)) hb))
         clear hb)
      | (go_at_call_of 11 p11; refine (cat11x p11 p21 LA LB ln q11 q21 _ LAB.out.1 (by exact (P1.out.below (by repeat (first | exact Below.refl _ _ | apply Below.drew | refine Below.alloc ?_ (by simp) _))).s1) (by exact (P2.out.below (by repeat (first | exact Below.refl _ _ | apply Below.drew | refine Below.alloc ?_ (by simp) _))).s1) (by omega) (by omega)).mono ?_; rintro e x0 ⟨⟨ac0, cc0, rfl, hs⟩, hb⟩
         replace C := hide (C.out.below (below_trans (by repeat (first | exact Below.refl _ _ | apply Below.drew | refine Below.alloc ?_ (by simp) _)) hb))
         replace P0 := hide (P0.out.below (below_trans (by repeat (first | exact Below.refl _ _ | apply Below.drew | refine Below.alloc ?_ (by simp) _)) hb))
         replace P1 := hide (P1.out.below (below_trans (by repeat (first | exact Below.refl _ _ | apply Below.drew | refine Below.alloc ?_ (by simp) _)) hb))
         replace P2 := hide (P2.out.below (below_trans (by repeat (first | exact Below.refl _ _ | apply Below.drew | refine Below.alloc ?_ (by simp) _)) hb))
         have J0 := hide hs
         clear hs
         clear hb)
      | (go_at_call_of 15 ac0; refine (eq15x p01 ac0 ln q01 cc0 _ (by exact (P0.out.below (by repeat (first | exact Below.refl _ _ | apply Below.drew | refine Below.alloc ?_ (by simp) _))).s1) (by exact (J0.out.below (by repeat (first | exact Below.refl _ _ | apply Below.drew | refine Below.alloc ?_ (by simp) _)))) (by omega)).mono ?_; rintro e y6 ⟨rfl, hb⟩
         replace C := hide (C.out.below (below_trans (by repeat (first | exact Below.refl _ _ | apply Below.drew | refine Below.alloc ?_ (by simp) _)) hb))
         replace P0 := hide (P0.out.below (below_trans (by repeat (first | exact Below.refl _ _ | apply Below.drew | refine Below.alloc ?_ (by simp) _)) hb))
         replace P1 := hide (P1.out.below (below_trans (by repeat (first | exact Below.refl _ _ | apply Below.drew | refine Below.alloc ?_ (by simp) _)) hb))
         replace P2 := hide (P2.out.below (below_trans (by repeat (first | exact Below.refl _ _ | apply Below.drew | refine Below.alloc ?_ (by simp) _)) hb))
         clear hb)
      | (go_at_call_of 11 p13; refine (cat11x p13 p23 (LA.filter fun s => !has lv s) (LB.filter fun s => !has lv s) (ln.filter fun s => !has lv s) q13 q23 _ (by rw [← List.filter_append, LAB.out.1]) (by exact (P1.out.below (by repeat (first | exact Below.refl _ _ | apply Below.drew | refine Below.alloc ?_ (by simp) _))).s3) (by exact (P2.out.below (by repeat (first | exact Below.refl _ _ | apply Below.drew | refine Below.alloc ?_ (by simp) _))).s3) (Nat.le_trans (List.length_filter_le _ _) (by omega)) (Nat.le_trans (List.length_filter_le _ _) (by omega))).mono ?_; rintro e x1 ⟨⟨ac1, cc1, rfl, hs⟩, hb⟩
         replace C := hide (C.out.below (below_trans (by repeat (first | exact Below.refl _ _ | apply Below.drew | refine Below.alloc ?_ (by simp) _)) hb))
         replace P0 := hide (P0.out.below (below_trans (by repeat (first | exact Below.refl _ _ | apply Below.drew | refine Below.alloc ?_ (by simp) _)) hb))
         replace P1 := hide (P1.out.below (below_trans (by repeat (first | exact Below.refl _ _ | apply Below.drew | refine Below.alloc ?_ (by simp) _)) hb))
         replace P2 := hide (P2.out.below (below_trans (by repeat (first | exact Below.refl _ _ | apply Below.drew | refine Below.alloc ?_ (by simp) _)) hb))
         have J1 := hide hs
         clear hs
         clear hb)
      | (go_at_call_of 15 ac1; refine (eq15x p03 ac1 (ln.filter fun s => !has lv s) q03 cc1 _ (by exact (P0.out.below (by repeat (first | exact Below.refl _ _ | apply Below.drew | refine Below.alloc ?_ (by simp) _))).s3) (by exact (J1.out.below (by repeat (first | exact Below.refl _ _ | apply Below.drew | refine Below.alloc ?_ (by simp) _)))) (Nat.le_trans (List.length_filter_le _ _) (by omega))).mono ?_; rintro e y7 ⟨rfl, hb⟩
         replace C := hide (C.out.below (below_trans (by repeat (first | exact Below.refl _ _ | apply Below.drew | refine Below.alloc ?_ (by simp) _)) hb))
         replace P0 := hide (P0.out.below (below_trans (by repeat (first | exact Below.refl _ _ | apply Below.drew | refine Below.alloc ?_ (by simp) _)) hb))
         replace P1 := hide (P1.out.below (below_trans (by repeat (first | exact Below.refl _ _ | apply Below.drew | refine Below.alloc ?_ (by simp) _)) hb))
         replace P2 := hide (P2.out.below (below_trans (by repeat (first | exact Below.refl _ _ | apply Below.drew | refine Below.alloc ?_ (by simp) _)) hb))
         clear hb)
      | (go_at_call_of 11 p14; refine (cat11x p14 p24 (LA.filter (has lz)) (LB.filter (has lz)) (ln.filter (has lz)) q14 q24 _ (by rw [← List.filter_append, LAB.out.1]) (by exact (P1.out.below (by repeat (first | exact Below.refl _ _ | apply Below.drew | refine Below.alloc ?_ (by simp) _))).s4) (by exact (P2.out.below (by repeat (first | exact Below.refl _ _ | apply Below.drew | refine Below.alloc ?_ (by simp) _))).s4) (Nat.le_trans (List.length_filter_le _ _) (by omega)) (Nat.le_trans (List.length_filter_le _ _) (by omega))).mono ?_; rintro e x2 ⟨⟨ac2, cc2, rfl, hs⟩, hb⟩
         replace C := hide (C.out.below (below_trans (by repeat (first | exact Below.refl _ _ | apply Below.drew | refine Below.alloc ?_ (by simp) _)) hb))
         replace P0 := hide (P0.out.below (below_trans (by repeat (first | exact Below.refl _ _ | apply Below.drew | refine Below.alloc ?_ (by simp) _)) hb))
         replace P1 := hide (P1.out.below (below_trans (by repeat (first | exact Below.refl _ _ | apply Below.drew | refine Below.alloc ?_ (by simp) _)) hb))
         replace P2 := hide (P2.out.below (below_trans (by repeat (first | exact Below.refl _ _ | apply Below.drew | refine Below.alloc ?_ (by simp) _)) hb))
         have J2 := hide hs
         clear hs
         clear hb)
      | (go_at_call_of 15 ac2; refine (eq15x p04 ac2 (ln.filter (has lz)) q04 cc2 _ (by exact (P0.out.below (by repeat (first | exact Below.refl _ _ | apply Below.drew | refine Below.alloc ?_ (by simp) _))).s4) (by exact (J2.out.below (by repeat (first | exact Below.refl _ _ | apply Below.drew | refine Below.alloc ?_ (by simp) _)))) (Nat.le_trans (List.length_filter_le _ _) (by omega))).mono ?_; rintro e y8 ⟨rfl, hb⟩
         replace C := hide (C.out.below (below_trans (by repeat (first | exact Below.refl _ _ | apply Below.drew | refine Below.alloc ?_ (by simp) _)) hb))
         replace P0 := hide (P0.out.below (below_trans (by repeat (first | exact Below.refl _ _ | apply Below.drew | refine Below.alloc ?_ (by simp) _)) hb))
         replace P1 := hide (P1.out.below (below_trans (by repeat (first | exact Below.refl _ _ | apply Below.drew | refine Below.alloc ?_ (by simp) _)) hb))
         replace P2 := hide (P2.out.below (below_trans (by repeat (first | exact Below.refl _ _ | apply Below.drew | refine Below.alloc ?_ (by simp) _)) hb))
         clear hb)
      | (go_at_call 20; refine (state20' bn bf bv bz ln lf lv lz dn df dv dz asked st0 _ ST0.out (by exact (C.out.below (by repeat (first | exact Below.refl _ _ | apply Below.drew | refine Below.alloc ?_ (by simp) _))).n) (by exact (C.out.below (by repeat (first | exact Below.refl _ _ | apply Below.drew | refine Below.alloc ?_ (by simp) _))).f) (by exact (C.out.below (by repeat (first | exact Below.refl _ _ | apply Below.drew | refine Below.alloc ?_ (by simp) _))).v) (by exact (C.out.below (by repeat (first | exact Below.refl _ _ | apply Below.drew | refine Below.alloc ?_ (by simp) _))).z) mn mf mv mz).mono ?_; rintro e x9 ⟨rfl, rfl⟩))
    all_goals
      go_wp2_with fail
      go_ret
      exact ⟨rfl, C.out.bel⟩

end Go.Proofs.Qxb6612939a
