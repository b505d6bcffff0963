/-
  THE WALK OF FnEndWordLeastHashesAreTheMinimaOfEachShingle (function 5).
-/
import Derived.Test.Qxb6612898aEwMainV
import Derived.Test.Qxb6612898aEwStateL
import Derived.Test.Qxb6612898aEwBytesL
import Derived.OpenShut
namespace Go.Proofs.Qxb6612898a.EW
open Go.RowKit
theorem a2_lrange (w : World) (L : Nat → Int) (t : TypeId) (o : Obj) : ((w.alloc (.cells (lcs L).toArray t)).alloc o).rangeAt w.heap.size 0 (lcs L) := by
  intro j v hv
  rw [Nat.zero_add]
  have : ((w.alloc (.cells (lcs L).toArray t)).alloc o).heap[w.heap.size]? = some (.cells (lcs L).toArray t) := by
    rw [heap_alloc_old _ _ (h := by simp), heap_alloc_new]
  rw [cell_of_row _ _ _ _ _ _ this]
  simpa using hv
theorem av_in (x : Int) : 0 ≤ av x ∧ av x ≤ 18446744073709551615 := by
  unfold av
  exact bounds_u64 (wf_bits _ _ _ _)
theorem xx_in (l : List Int) : 0 ≤ xx l ∧ xx l ≤ 18446744073709551615 := by
  unfold xx fin
  simp only []
  split <;> split <;> exact av_in _
theorem hj_eq (x : Int) : ∀ (j : Nat), 0 ≤ x → x ≤ 18446744073709551615 → hj x j = IntKind.u64.wrap (x + IntKind.u64.wrap ((j : Int) * 11400714785074694791))
  | 0, h0, h1 => by rw [hj, IntKind.wrap_u64, IntKind.wrap_u64]; simp; omega
  | j + 1, h0, h1 => by
    rw [hj, hj_eq x j h0 h1]
    simp only [IntKind.wrap_u64]
    push_cast
    rw [Int.add_mul]
    omega

set_option linter.unusedSimpArgs false in
set_option maxHeartbeats 8000000 in
set_option maxRecDepth 100000 in
theorem main5 (L : Nat → Int) (V : Nat → Nat) (sz sp : Int) (rv : Value) (l1 : List Int) (a : Option Addr) (c : Nat) (K0 : List (List Int)) (w : World) (hr : Cl w rv l1) (h : Ws w a K0) (hnone : a = none → K0 = [])
    (hn1 : l1.length ≤ maxLen) (hn : K0.length ≤ maxLen) (hw : ∀ i, (K0.getD i []).length ≤ maxLen) (hsz : sz ≤ 9223372036854775807) :
    Calls Try.prog 5 #[.agg (lcs L).toArray, .agg (fcs V).toArray, .int .i64 sz, rv, .int .i64 sp, .slice a K0.length c] w fun e w' => e = .returned (.bool true) ∧ Below w.heap.size w w' := by
  obtain ⟨n, hl⟩ : ∃ n, n = K0.length := ⟨_, rfl⟩
  rw [← hl] at hn ⊢
  obtain ⟨a1, c1, rfl, hc1, hb1⟩ := hr.shp
  have HR := hide hr
  have H := hide h
  have HL := hide hl
  have HW := hide hw
  have HN := hide hnone
  clear h hl hw hr hb1 hnone
  have hB0 : Below w.heap.size w ((w.alloc (.cells (lcs L).toArray 39)).alloc (.cells (fcs V).toArray 30)) := ((Below.refl _ _).alloc (Nat.le_refl _) _).alloc (by simp) _
  have HB0 := hide hB0
  have HBX := hide (show ((w.alloc (.cells (lcs L).toArray 39)).alloc (.cells (fcs V).toArray 30)).rangeAt (w.heap.size + 1) 0 (fcs V) from by
    have h := a1_range (w.alloc (.cells (lcs L).toArray 39)) V 30
    simpa using h)
  have HBY := hide (a2_lrange w L 39 (.cells (fcs V).toArray 30))
  clear hB0
  go_enter Try.func5, Try.ntmps5
  go_wp2_with (first
    | refine wpList_load_mid rfl 30 _ rfl (w.heap.size + 1) 0 rfl (fcs V) _ HBX.out Try.underlying30 rfl (size30 V) ?_
    | refine wpList_load_mid rfl 39 _ rfl w.heap.size 0 rfl (lcs L) _ HBY.out Try.underlying39 rfl (size39 L) ?_)
  rw [show Value.slice a n c = Value.slice a K0.length c by rw [HL.out]]
  refine (bytes23 V L sz sp a1 a l1.length c1 c K0 _ (H.out.below HB0.out) hn1 (by rw [← HL.out]; exact hn) HW.out).mono ?_
  rintro e w1 ⟨⟨r, rfl, hr⟩, hb⟩
  rw [← HL.out]
  have HBD := hide hr
  clear hr
  have HBX1 := hide (range_below HBX.out hb (by simp))
  have HBY1 := hide (range_below HBY.out hb (by simp; omega))
  have HB1 := hide (below_trans HB0.out hb)
  have HLT := hide (show w.heap.size + 1 < w1.heap.size from Nat.lt_of_lt_of_le (by simp) hb.size)
  clear hb HBX HB0 HBY
  cases r
  · go_wp2_with fail
    go_ret
    exact ⟨rfl, HB1.out⟩
  by_cases q1 : 65536 < l1.length
  · go_wp2_with fail
    go_ret
    exact ⟨rfl, HB1.out⟩
  by_cases q2 : 4096 < n
  · go_wp2_with fail
    go_ret
    exact ⟨rfl, HB1.out⟩
  clear hn1 hn
  have hn1 : l1.length ≤ 65536 := by omega
  have hn : n ≤ 4096 := by omega
  go_wp2_with fail
  go_loopw [13, 14] (fun sv iv wr => ∃ (k : Nat) (s : Int), k ≤ n ∧ iv = .int .i64 k ∧ sv = .int .i64 s ∧ 0 ≤ s ∧ s ≤ 65536 ∧ Hid (s = (l1.length : Int) + (lsum (K0.take k) : Nat)) ∧ w1 = wr) (fun _ iv _ => n - natOf iv)
  case atStart => exact ⟨0, (l1.length : Int), Nat.zero_le _, rfl, rfl, by omega, by omega, by simp [lsum, Hid], rfl⟩
  case round =>
    obtain ⟨k, s, hk, rfl, rfl, hs0, hs1, HSM, rfl⟩ := hrel
    by_cases hlt : k < n
    · obtain hx | ⟨b, off, rfl, hbl, hc⟩ := H.out
      · have := HL.out; rw [hx] at this; simp at this; omega
      obtain ⟨v, hcv, hcl⟩ := hc k (by rw [← HL.out]; exact hlt)
      have c0 := (HB1.out.cell (p := ⟨b, off + k, none⟩) hbl).trans hcv
      obtain ⟨a2, c2, hv, _⟩ := hcl.shp
      have hm := HW.out k
      obtain ⟨m, hme⟩ : ∃ m, m = (K0.getD k []).length := ⟨_, rfl⟩
      rw [← hme] at hv hm
      subst hv
      unfold maxLen at hm
      have HME := hide hme
      clear hc hcl hcv hme
      have hi : (k : Int) < n := by omega
      have hi0 : (0 : Int) ≤ k := by omega
      have hm2 : m ≤ 1048576 := by rw [HME.out]; exact HBD.out (by first | exact rfl | trivial) k (by have := HL.out; omega)
      by_cases q5 : 65536 < s + m
      · go_wp2_with fail
        go_ret
        exact ⟨rfl, HB1.out⟩
      go_wp2_with fail
      go_roundw
      case rel => exact ⟨k + 1, s + m, by omega, by simp, rfl, by omega, by omega, (by
        have := HSM.out
        show s + m = (l1.length : Int) + (lsum (K0.take (k + 1)) : Nat)
        rw [lsum_take_succ K0 k (by rw [← HL.out]; exact hlt), ← HME.out]
        omega), (by first | exact rfl | trivial)⟩
      case measure => simp [natOf]; omega
    · have hi : (n : Int) ≤ k := by omega
      have HTOT := hide (show l1.length + lsum K0 ≤ 65536 from by
        have h1 := HSM.out
        rw [show K0.take k = K0 from List.take_of_length_le (by rw [← HL.out]; omega)] at h1
        omega)
      by_cases q7 : sz < 1
      · go_wp2_with fail
        go_ret
        exact ⟨rfl, HB1.out⟩
      have hz1 : 1 ≤ sz := by omega
      go_wp2_with fail
      refine (clone10 _ l1 w1 (HR.out.below HB1.out) (by omega)).mono ?_
      rintro e w2 ⟨⟨v2, rfl, hcf⟩, hb⟩
      have HR2 := hide hcf.cl
      have HB2 := hide (below_trans HB1.out hb)
      have HBX2 := hide (range_below HBX1.out hb HLT.out)
      have HBY2 := hide (range_below HBY1.out hb (by have := HLT.out; omega))
      have HLT2 := hide (Nat.lt_of_lt_of_le HLT.out hb.size)
      obtain ⟨ar, cr, rfl, _⟩ := hcf.cl.shp
      clear hcf hb HBX1 HLT HBY1
      go_wp2_with fail
      rw [show Value.slice a n c = Value.slice a K0.length c by rw [HL.out]]
      refine (clone11 a K0 c w2 (H.out.below HB2.out) HN.out (by rw [← HL.out]; omega) (fun i => ?_)).mono ?_
      · have := getD_le_lsum K0 i; have := HTOT.out; omega
      rintro e w3 ⟨⟨aw, cw, rfl, hws, hnw⟩, hb⟩
      rw [← HL.out]
      have HWS := hide hws
      replace HR2 := hide (HR2.out.below hb)
      have HB3 := hide (below_trans HB2.out hb)
      have HBX3 := hide (range_below HBX2.out hb HLT2.out)
      have HBY3 := hide (range_below HBY2.out hb (by have := HLT2.out; omega))
      have HLT3 := hide (Nat.lt_of_lt_of_le HLT2.out hb.size)
      clear hws hnw hb HBX2 HLT2 HB2 HBY2
      go_wp2_with fail
      refine (clone10 _ l1 w3 HR2.out (by omega)).mono ?_
      rintro e w4 ⟨⟨v4, rfl, hcf⟩, hb⟩
      have HRW := hide hcf.cl
      replace HWS := hide (HWS.out.below hb)
      replace HR2 := hide (HR2.out.below hb)
      have HB4 := hide (below_trans HB3.out hb)
      have HBX4 := hide (range_below HBX3.out hb HLT3.out)
      have HBY4 := hide (range_below HBY3.out hb (by have := HLT3.out; omega))
      have HLT4 := hide (Nat.lt_of_lt_of_le HLT3.out hb.size)
      obtain ⟨aq, cq, rfl, _⟩ := hcf.cl.shp
      clear hcf hb HBX3 HLT3 HB3 HBY3
      go_wp2_with (first
        | refine wpList_load_mid rfl 30 _ rfl (w.heap.size + 1) 0 rfl (fcs V) _ HBX4.out Try.underlying30 rfl (size30 V) ?_
        | refine wpList_load_mid rfl 39 _ rfl w.heap.size 0 rfl (lcs L) _ HBY4.out Try.underlying39 rfl (size39 L) ?_)
      refine (new12_least V L sz ar l1.length cr sp w4).mono ?_
      rintro e w5 ⟨⟨T, bL, rfl, hal⟩, hb⟩
      have HAL := hide hal
      have HBB := hide hb
      have HBY5 := hide (range_below HBY4.out hb (by have := HLT4.out; omega))
      clear hal hb HBY4
      have hz39 := z39
      go_wp2_with (first
        | refine wpList_load_mid rfl 39 _ rfl w.heap.size 0 rfl (lcs L) _ HBY5.out Try.underlying39 rfl (size39 L) ?_
        | refine wpList_store_all rfl 39 _ _ rfl w5.heap.size 39 (lcs L) rfl rfl _ (row_fresh w5 _ 39 _ (by simp [lcs_len])) (size39 L) (lcs_one L) ?_)
      intro w6 HWN HG6
      have HBN := hide (show Below w5.heap.size w5 w6 from ((Below.refl _ _).alloc (Nat.le_refl _) _).grown HG6.out (by simp) (fun j hj => by simp at hj; omega))
      clear HG6
      obtain ⟨z, hz⟩ : ∃ z : Nat, sz = z := ⟨sz.toNat, by omega⟩
      have HZ := hide hz
      have hz1' : 1 ≤ z := by omega
      have HL6 := hide (show Al w6 w6 w4.heap.size T (some bL) V L sz (.slice none 0 0) (.slice ar l1.length cr) sp (.slice none 0 0) (.slice none 0 0) (.slice none 0 0) (.slice none 0 0) (.slice none 0 0) [] (jn (stay sz (last z []))) (lens (stay sz (last z []))) ∧ Ot w4 w6 39 128 w5.heap.size (lf L) (.slice none 0 0) [] from by
        have e : stay sz (last z []) = [] := by unfold stay last; simp
        rw [e]
        exact ⟨(HAL.out.below HBN.out).re, ⟨HBB.out.trans (HBN.out.mono HBB.out.size), lf_lcs HWN.out, HBB.out.size, ⟨[], World.ownsRow_nil _ _ _ _, fun i hi => absurd hi (Nat.not_lt_zero _)⟩, fun i hi => absurd hi (Nat.not_lt_zero _)⟩⟩)
      have HBW := hide HB4.out
      generalize w5.heap.size = Wb at HL6 ⊢
      clear HAL HBY5 HWN HBN HBB hz HB4 hz39
      go_wp2_with fail
      go_loopw [18, 19] (fun kv iv wr => ∃ (k : Nat) (L1 : Nat → Int) (wd sh ln : Value) (K : List (List Int)), k ≤ n ∧ iv = .int .i64 k ∧ Hid (Al wr wr w4.heap.size T (some bL) V L1 sz wd (.slice ar l1.length cr) sp sh ln wd sh ln [] (jn (stay sz (last z K))) (lens (stay sz (last z K))) ∧ Ot w4 wr 39 128 Wb (lf L1) kv K) ∧ Hid (lsum K ≤ lsum (K0.take k) ∧ K.length ≤ k)) (fun _ iv _ => n - natOf iv)
      case atStart => exact ⟨0, L, _, _, _, [], Nat.zero_le _, rfl, HL6.out, by simp [lsum, Hid]⟩
      case round =>
        obtain ⟨k2, L1, wd, sh, ln, K, hk2, rfl, HLP, HKB⟩ := hrel
        by_cases hlt2 : k2 < n
        · obtain hx | ⟨b, off, rfl, hbl, hc⟩ := HWS.out
          · have := HL.out; rw [hx] at this; simp at this; omega
          obtain ⟨v, hcv, hcl⟩ := hc k2 (by rw [← HL.out]; exact hlt2)
          obtain ⟨x, hxe⟩ : ∃ x, x = K0.getD k2 [] := ⟨_, rfl⟩
          rw [← hxe] at hcl
          have HXE := hide hxe
          have HXL := hide (show x.length ≤ 65536 from by have := getD_le_lsum K0 k2; have := HTOT.out; rw [hxe]; omega)
          have HCL := hide hcl
          have HCV := hide hcv
          have HBL := hide hbl
          obtain ⟨a2, c2, hv, _⟩ := hcl.shp
          obtain ⟨m, hme⟩ : ∃ m, m = x.length := ⟨_, rfl⟩
          rw [← hme] at hv
          subst hv
          have HME := hide hme
          have c0 := (HLP.out.2.be.cell (p := ⟨b, off + k2, none⟩) hbl).trans hcv
          clear hc hcl hcv hme hxe hbl
          have hi2 : (k2 : Int) < n := by omega
          have hi20 : (0 : Int) ≤ k2 := by omega
          go_wp2_with fail
          refine (app13 w4.heap.size T (some bL) V L1 sz (.slice ar l1.length cr) sp sh ln wd _ x _ _ wr wr HLP.out.1 (HCL.out.below HLP.out.2.be) (by have := HXL.out; omega)).mono ?_
          rintro e w7 ⟨rfl, wd7, h7⟩
          have HA7 := hide h7.re
          have HO7 := hide (HLP.out.2.frm h7.fr (by decide))
          clear h7 c0
          by_cases hx0 : m = 0
          · have HX0 := hide (show x = [] from List.eq_nil_of_length_eq_zero (by rw [← HME.out]; exact hx0))
            subst hx0
            have HA7' := hide (show Al w7 w7 w4.heap.size T (some bL) V L1 sz wd7 (.slice ar l1.length cr) sp sh ln wd7 sh ln [] (jn (stay sz (last z K))) (lens (stay sz (last z K))) from by have h := HA7.out; rw [HX0.out] at h; exact h)
            clear HA7
            go_wp2_with fail
            refine (end14_none w4.heap.size T (some bL) V L1 sz (.slice ar l1.length cr) sp sh ln wd7 _ _ w7 w7 HA7'.out).mono ?_
            rintro e w8 ⟨rfl, rfl⟩
            obtain ⟨a7, c7, hwd7⟩ := HA7'.out.ow.shp
            simp only [List.length_nil] at hwd7
            subst hwd7
            have c0 := (HO7.out.be.cell (p := ⟨b, off + k2, none⟩) HBL.out).trans HCV.out
            go_wp2_with fail
            refine (word15 w4.heap.size T (some bL) V L1 sz (.slice ar l1.length cr) sp sh ln _ _ _ _ w7 w7 HA7'.out).mono ?_
            rintro e w8 ⟨rfl, rfl⟩
            go_wp2_with fail
            go_roundw
            case rel => exact ⟨k2 + 1, L1, _, sh, ln, K, by omega, by simp, hide ⟨HA7'.out, HO7.out⟩, hide ⟨by
              have := HKB.out.1
              rw [lsum_take_succ K0 k2 (by rw [← HL.out]; exact hlt2)]; omega, by have := HKB.out.2; omega⟩⟩
            case measure => simp [natOf]; omega
          · have HP := hide (show 0 < x.length from by rw [← HME.out]; omega)
            have hm0 : (0 : Int) < m := by omega
            have HJB := hide (show (jn (stay sz (last z K))).length + x.length ≤ 500000 ∧ (stay sz (last z K)).length ≤ 100000 ∧ (jn (K ++ [x])).length ≤ 500000 ∧ (K ++ [x]).length ≤ 100000 from by
              have h1 := HKB.out.1
              have h2 := HKB.out.2
              have h3 := HTOT.out
              have h4 := lsum_take_le K0 k2
              have h5 := jn_lsum K
              have h6 := stay_last_le sz z K
              have h7 := HXL.out
              refine ⟨by omega, by omega, ?_, by simp; omega⟩
              rw [jn_append]; simp; omega)
            go_wp2_with fail
            refine (end14 w4.heap.size T (some bL) V L1 sz (.slice ar l1.length cr) sp sh ln wd7 x (stay sz (last z K)) w7 w7 HA7.out hz1 (fun e => by unfold stay; rw [if_pos e]) HP.out HJB.out.1 HJB.out.2.1).mono ?_
            rintro e w8 ⟨rfl, V2, L2, wd8, sh8, ln8', h8, hfe⟩
            rw [win_last HZ.out hz1' K x] at h8 hfe
            have HA8 := hide h8.re
            have HO8 := hide (HO7.out.frm h8.fr (by decide))
            have HFE := hide hfe
            clear h8 hfe HA7 HO7
            obtain ⟨a7, c7, hwd7⟩ := HA8.out.ow.shp
            simp only [List.length_nil] at hwd7
            subst hwd7
            have c0 := (HO8.out.be.cell (p := ⟨b, off + k2, none⟩) HBL.out).trans HCV.out
            go_wp2_with fail
            refine (word15 w4.heap.size T (some bL) V2 L2 sz (.slice ar l1.length cr) sp sh8 ln8' _ _ _ _ w8 w8 HA8.out).mono ?_
            rintro e w8' ⟨rfl, rfl⟩
            obtain ⟨i31, hi31, hz310, hz311, hz312⟩ := info_parts info31'
            obtain ⟨vs, hvs⟩ := (HO8.out.below (w1 := w8.alloc (.cells #[.slice a2 m c2] 31)) ((Below.refl _ _).alloc (Nat.le_refl _) _)).own
            have HVS := hide hvs
            have HBV := hide (show w4.heap.size ≤ (w8.alloc (.cells #[.slice a2 m c2] 31)).heap.size from Nat.le_trans HO8.out.be.size (by simp))
            clear hvs
            have hKl : K.length ≤ 4096 := by have := HKB.out.2; omega
            go_wp2_with (at_builtin; refine wpList_append_own_at _ rfl _ _ 32 rfl w4.heap.size 31 i31 (.slice none 0 0) 1 24 Try.underlying32 hi31 hz310 hz311 hz312 rfl (by decide) _ K.length vs rfl HVS.out ⟨w8.heap.size, 0, none⟩ 1 1 [.slice a2 m c2] rfl rfl (cell_one_new _ _ _) (by simp [Value.oneCell']) (by unfold maxLen; omega) (by omega) HBV.out ?_)
            intro kv9 w9 hown hgrow hnil hat
            have HO9 := hide ((HO8.out.below (w1 := w8.alloc (.cells #[.slice a2 m c2] 31)) ((Below.refl _ _).alloc (Nat.le_refl _) _)).more (kv' := kv9) HCL.out HP.out hgrow (fun vs' hv' => by
              have e : vs' = vs := owns_same hv' HVS.out
              rw [e]; exact hown) (by decide))
            have HA9 := hide ((HA8.out.below (w1 := w8.alloc (.cells #[.slice a2 m c2] 31)) ((Below.refl _ _).alloc (Nat.le_refl _) _)).frm (E := [31]) (Frm.of_own hgrow HVS.out (by simp) HBV.out) (by decide) (by decide) (by decide) (by decide))
            clear hown hgrow hnil hat HVS HBV c0
            obtain ⟨a9, c9, hkv9, hws9⟩ := HO9.out.ws
            have HWS9 := hide hws9
            have hlk : (K ++ [x]).length = K.length + 1 := by simp
            rw [hlk] at hkv9
            clear hws9
            subst hkv9
            by_cases hge : sz ≤ (K.length : Int) + 1
            · have HFT := hide (show V2 = V ∧ L2 = lmin (xx (jn (last z (K ++ [x]))).dropLast) L1 from by
                have h := HFE.out
                unfold Fe at h
                rw [if_pos (by rw [last_len, hlk]; have := HZ.out; omega)] at h
                exact h)
              have HJL := hide (show (jn ((K ++ [x]).drop ((K ++ [x]).length - z))).dropLast.length ≤ 500000 from by rw [List.length_dropLast]; have := jn_drop_le (K ++ [x]) ((K ++ [x]).length - z); have := HJB.out.2.2.1; omega)
              have HKB2 := hide (show lsum (K ++ [x]) ≤ lsum (K0.take (k2 + 1)) ∧ (K ++ [x]).length ≤ k2 + 1 from ⟨by
                have := HKB.out.1
                rw [lsum_take_succ K0 k2 (by rw [← HL.out]; exact hlt2), lsum_append, ← HXE.out]; omega, by have := HKB.out.2; omega⟩)
              go_wp2_with fail
              refine (join18' a9 (K ++ [x]) c9 (K.length + 1) ((K ++ [x]).length - z) z sz _ hlk.symm HZ.out HWS9.out HO9.out.ne (by have := HZ.out; omega) hz1' HJB.out.2.2.1 HJB.out.2.2.2).mono ?_
              rintro e wz1 ⟨⟨aj, cj, nj, jl, rfl, hnj, hjl, hcj, hbj⟩, hb⟩
              have HBJ := hide hbj
              have HCJ := hide hcj
              have HNJ := hide hnj
              have HJJ := hide hjl
              have HOz1 := hide (HO9.out.below hb)
              have HAz1 := hide (HA9.out.below hb).re
              clear hb hcj hbj hnj hjl
              go_wp2_with fail
              refine (xx17' aj jl nj cj _ HNJ.out HBJ.out (by rw [HNJ.out, HJJ.out]; have := HJL.out; omega) HCJ.out).mono ?_
              rintro e wz2 ⟨rfl, hb⟩
              have HOz2 := hide (HOz1.out.below hb)
              have HAz2 := hide (HAz1.out.below hb).re
              clear hb
              obtain ⟨hx, hhx⟩ : ∃ hx, hx = xx jl := ⟨_, rfl⟩
              rw [← hhx]
              have HHX := hide hhx
              have hx0 : 0 ≤ hx := by rw [hhx]; exact (xx_in jl).1
              have hx1 : hx ≤ 18446744073709551615 := by rw [hhx]; exact (xx_in jl).2
              clear hhx
              go_wp2_with fail
              generalize hwq : wr = wq at HLP
              clear hwq
              go_loopw [21] (fun jv wr => ∃ (j : Nat), j ≤ 128 ∧ jv = .int .i64 j ∧ Hid (wr.rowIs Wb 39 128 (lf fun i => if i < j then lmin hx L1 i else L1 i) ∧ wz2.grownBy wr (some Wb))) (fun jv _ => 128 - natOf jv)
              case atStart => exact ⟨0, Nat.zero_le _, rfl, by simpa using HOz2.out.wn, World.grownBy.refl _ _⟩
              case round =>
                obtain ⟨j, hjb, rfl, HQ⟩ := hrel
                by_cases hj128 : j < 128
                · have hjI : (j : Int) < 128 := by omega
                  have hjI0 : (0 : Int) ≤ j := by omega
                  have q0 : wr.cell? ⟨Wb, j, none⟩ = some (.int .u64 (L1 j)) := by
                    rw [World.rowIs.cell HQ.out.1 hj128]; simp [lf]
                  have f0 : wr.frozen? ⟨Wb, j, none⟩ = false := World.rowIs.frozen HQ.out.1 j
                  have hwj : IntKind.u64.wrap (j : Int) = j := by rw [IntKind.wrap_u64]; omega
                  have HJE := hide (hj_eq hx j hx0 hx1)
                  obtain ⟨cc, hcc⟩ : ∃ cc, cc = av (IntKind.u64.wrap (hx + IntKind.u64.wrap ((j : Int) * 11400714785074694791))) := ⟨_, rfl⟩
                  have HCE := hide (show av (hj hx j) = cc from by rw [HJE.out, hcc])
                  have HCC := hide hcc
                  clear hcc
                  by_cases hc : cc < L1 j
                  · have HST := hide (least_step HQ.out (by rw [HCE.out]; exact hc))
                    rw [HCE.out] at HST
                    go_wp2_with fail
                    refine (av24 _ _).mono ?_
                    rintro e w' ⟨rfl, rfl⟩
                    rw [← HCC.out]
                    go_wp2_with fail
                    go_roundw
                    case rel => exact ⟨j + 1, by omega, by simp, HST.out⟩
                    case measure => simp [natOf]; omega
                  · have HST := hide (least_keep HQ.out (by rw [HCE.out]; exact hc))
                    have hc' : L1 j ≤ cc := by omega
                    go_wp2_with fail
                    refine (av24 _ _).mono ?_
                    rintro e w' ⟨rfl, rfl⟩
                    rw [← HCC.out]
                    go_wp2_with fail
                    go_roundw
                    case rel => exact ⟨j + 1, by omega, by simp, HST.out⟩
                    case measure => simp [natOf]; omega
                · have hjI : (128 : Int) ≤ j := by omega
                  have hq : j = 128 := by omega
                  have HV := hide (show Al wr wr w4.heap.size T (some bL) V (lmin hx L1) sz (.slice a7 0 c7) (.slice ar l1.length cr) sp sh8 ln8' (.slice a7 0 c7) sh8 ln8' [] (jn (stay sz (last z (K ++ [x])))) (lens (stay sz (last z (K ++ [x])))) ∧ Ot w4 wr 39 128 Wb (lf (lmin hx L1)) (.slice a9 (K.length + 1) c9) (K ++ [x]) from by
                    have h1 := HAz2.out.frm (E := [39]) (Frm.of_grown HQ.out.2 HOz2.out.wn (by simp) HOz2.out.wb) (by decide) (by decide) (by decide) (by decide)
                    rw [HFT.out.1, HFT.out.2] at h1
                    have e : xx (jn (last z (K ++ [x]))).dropLast = hx := by rw [HHX.out, HJJ.out]; rfl
                    rw [e] at h1
                    refine ⟨h1, HOz2.out.want HQ.out.2 (World.rowIs.congr HQ.out.1 fun i hi => ?_) (by decide)⟩
                    simp [lf, hq, hi])
                  clear HQ
                  go_wp2_with fail
                  go_roundw
                  case rel => exact ⟨k2 + 1, lmin hx L1, _, sh8, ln8', K ++ [x], by omega, by simp, hide HV.out, HKB2.out⟩
                  case measure => simp [natOf]; omega
            · have hge' : (K.length : Int) + 1 < sz := by omega
              have HVL := hide (show V2 = V ∧ L2 = L1 from by
                have h := HFE.out
                unfold Fe at h
                rw [if_neg (by rw [last_len, hlk]; have := HZ.out; omega)] at h
                exact h)
              go_wp2_with fail
              go_roundw
              case rel => exact ⟨k2 + 1, L1, _, sh8, ln8', K ++ [x], by omega, by simp, hide ⟨by have h := HA9.out; rw [HVL.out.1, HVL.out.2] at h; exact h, HO9.out⟩, hide ⟨by
                have := HKB.out.1
                rw [lsum_take_succ K0 k2 (by rw [← HL.out]; exact hlt2), lsum_append, ← HXE.out]; omega, by have := HKB.out.2; omega⟩⟩
              case measure => simp [natOf]; omega
        · have hi2 : (n : Int) ≤ k2 := by omega
          go_wp2_with fail
          generalize hwo : wr = wo at HLP ⊢
          clear hwo
          have hz39 := z39
          obtain ⟨a9, c9, hkv, hws9⟩ := HLP.out.2.ws
          have HWS9 := hide hws9
          obtain ⟨aw7, cw7, hwd7⟩ := HLP.out.1.ow.shp
          obtain ⟨ax, cx, hsh, hcx, _, _, hbsx⟩ := HLP.out.1.os.bs
          obtain ⟨al, cl, hln, hisl⟩ := HLP.out.1.ol.is
          have HBX := hide hbsx
          have HIL := hide hisl
          clear hws9 hbsx hisl
          obtain ⟨nx, hnx⟩ : ∃ nx, nx = (jn (stay sz (last z K))).length := ⟨_, rfl⟩
          obtain ⟨nl, hnl⟩ : ∃ nl, nl = (lens (stay sz (last z K))).length := ⟨_, rfl⟩
          obtain ⟨nk, hnk⟩ : ∃ nk, nk = K.length := ⟨_, rfl⟩
          rw [← hnx] at hsh hcx
          rw [← hnl] at hln
          rw [← hnk] at hkv
          simp only [List.length_nil] at hwd7
          subst hkv
          subst hwd7
          subst hsh
          subst hln
          have HNX := hide (And.intro hnx (And.intro hnl hnk))
          clear hnx hnl hnk
          refine (state19_least w4.heap.size T bL V L1 sz (.slice ar l1.length cr) sp _ _ _ _ _ _ wo wo HLP.out.1 ⟨_, _, _, rfl⟩).mono ?_
          rintro e w7 ⟨rfl, hb⟩
          have HB7 := hide hb
          have HWN7 := hide (row_below hb HLP.out.2.wn)
          have HWL7 := hide (show Wb < w7.heap.size from Nat.lt_of_lt_of_le HLP.out.2.wn.lt hb.size)
          clear hb
          go_wp2_with (first
            | refine wpList_store_all rfl 30 _ _ rfl w7.heap.size 30 (fcs V) rfl rfl _ (a2_row0 w7 _ _ 30 _ (by rw [fcs_len]; rfl)) (size30 V) (fcs_one V) ?_)
          intro w8 HR8 HG8
          have HB8 := hide (show Below w7.heap.size w7 w8 from (((Below.refl _ _).alloc (Nat.le_refl _) _).alloc (by simp) _).grown HG8.out (by simp; omega) (fun j hj => by simp at hj; omega))
          have HT8 := hide (row_grown (T := w7.heap.size + 1) (a2_row1 w7 _ (lcs fun _ => 0).toArray 39 128 (by simp [lcs_len])) HG8.out (by simp))
          clear HG8
          have HT8' := hide (show w8.rowIs (w7.heap.size + 1) 39 (lcs L1).length _ from by rw [lcs_len]; exact HT8.out)
          go_wp2_with (first
            | refine wpList_store_all rfl 39 _ _ rfl (w7.heap.size + 1) 39 (lcs L1) rfl rfl _ HT8'.out (size39 _) (lcs_one _) ?_)
          intro w9 HR9 HG9
          have HGV := hide (row_grown (vf_fcs HR8.out (fun _ => undef)) HG9.out (by simp))
          have HB9 := hide (show Below w7.heap.size w7 w9 from HB8.out.grown HG9.out HB8.out.size (fun j hj => by simp at hj; omega))
          have HWN9 := hide (row_below HB9.out HWN7.out)
          have HBT := hide (show Below wo.heap.size wo w9 from HB7.out.trans (HB9.out.mono HB7.out.size))
          have HLV := hide (lf_lcs HR9.out)
          have HBX9 := hide (show w9.rangeAt (w.heap.size + 1) 0 (fcs V) from range_below (range_below (HBX4.out) HLP.out.2.be HLT4.out) HBT.out (Nat.lt_of_lt_of_le HLT4.out HLP.out.2.be.size))
          clear HG9 HR9 HR8 HT8 HT8' HB8 HWN7 hz39
          generalize hGl : w7.heap.size + 1 = Gl at HLV ⊢
          clear hGl
          generalize w7.heap.size = Gv at HGV ⊢
          generalize hBv : w.heap.size + 1 = Bv at HBX9 ⊢
          clear hBv
          have HLT9 := hide (show Bv < w9.heap.size from World.block_lt_of_cell? w9 ⟨Bv, 0, none⟩ (HBX9.out 0 _ (by rw [fcs_at V (by omega)])))
          go_wp2_with fail
          go_loopw [32] (fun iv wr => ∃ (j : Nat), j ≤ 128 ∧ iv = .int .i64 j ∧ Hid (Below w9.heap.size w9 wr)) (fun iv _ => 128 - natOf iv)
          case atStart => exact ⟨0, Nat.zero_le _, rfl, Below.refl _ _⟩
          case round =>
            obtain ⟨j, hjb, rfl, HQ⟩ := hrel
            by_cases hj128 : j < 128
            · have hjI : (j : Int) < 128 := by omega
              have hjI0 : (0 : Int) ≤ j := by omega
              have qa : wr.cell? ⟨Gl, j, none⟩ = some (.int .u64 (L1 j)) := World.rowIs.cell (row_below HQ.out HLV.out) hj128
              have qb : wr.cell? ⟨Wb, j, none⟩ = some (.int .u64 (L1 j)) := World.rowIs.cell (row_below HQ.out HWN9.out) hj128
              go_upto_region 43 with fail
              go_region
              go_wp2_with fail
              go_roundw
              case rel => exact ⟨j + 1, by omega, by simp, Below.drew HQ.out⟩
              case measure => simp [natOf]; omega
            · have hjI : (128 : Int) ≤ j := by omega
              generalize hwt : wr = wt at HQ ⊢
              clear hwt
              go_wp2_with fail
              go_loopw [33] (fun iv wr => ∃ (j : Nat), j ≤ 64 ∧ iv = .int .i64 j ∧ Hid (Below wt.heap.size wt wr)) (fun iv _ => 64 - natOf iv)
              case atStart => exact ⟨0, Nat.zero_le _, rfl, Below.refl _ _⟩
              case round =>
                obtain ⟨j2, hj2, rfl, HQ2⟩ := hrel
                by_cases hj64 : j2 < 64
                · have hjI : (j2 : Int) < 64 := by omega
                  have hjI0 : (0 : Int) ≤ j2 := by omega
                  have HQ3 := hide (below_trans HQ.out HQ2.out)
                  have qa : wr.cell? ⟨Gv, j2, none⟩ = some (.float .f64 (V j2)) := by
                    rw [World.rowIs.cell (row_below HQ3.out HGV.out) hj64]; simp [vf, hj64]
                  have qb : wr.cell? ⟨Bv, j2, none⟩ = some (.float .f64 (V j2)) := by
                    have h := range_below HBX9.out HQ3.out HLT9.out j2 _ (fcs_at V hj64)
                    rw [Nat.zero_add] at h; exact h
                  have hsm : smf (V j2) (V j2) = true := smf_of_sim (.inl rfl)
                  go_upto_region 48 with fail
                  go_region_held3 (fun w' => w'.cell? ⟨Gv, j2, none⟩ = some (.float .f64 (V j2)) ∧ w'.cell? ⟨Bv, j2, none⟩ = some (.float .f64 (V j2))) (first | exact ⟨qa, qb⟩) (first | (go_at_call 20; refine (same20 _ _ _).mono ?_; rintro e w' ⟨rfl, rfl⟩))
                  all_goals
                    go_wp2_with fail
                    go_roundw
                    case rel => exact ⟨j2 + 1, by omega, by simp, Below.drew HQ2.out⟩
                    case measure => simp [natOf]; omega
                · have hjI : (64 : Int) ≤ j2 := by omega
                  have HBQ := hide (show Below wo.heap.size wo wr from HBT.out.trans ((below_trans HQ.out HQ2.out).mono HBT.out.size))
                  go_wp2_with fail
                  refine (same21 ar aq l1 cr cq wr ((HR2.out.below HLP.out.2.be).below HBQ.out).bs' ((HRW.out.below HLP.out.2.be).below HBQ.out).bs' (by omega)).mono ?_
                  rintro e wa ⟨rfl, hb⟩
                  have HBA := hide (below_trans HBQ.out hb)
                  clear hb
                  have HFIN := hide (show Below w.heap.size w wa from HBW.out.trans ((HLP.out.2.be.trans (HBA.out.mono HLP.out.2.be.size)).mono HBW.out.size))
                  go_wp2_with fail
                  refine (holds22 a9 ax al K sz c9 cx cl nk nx nl z wa HNX.out.2.2 HNX.out.1 HNX.out.2.1 HZ.out (HWS9.out.below HBA.out) HLP.out.2.ne (by have := jn_lsum K; have := HKB.out; have := lsum_take_le K0 k2; have := HTOT.out; omega) (by have := HKB.out.2; omega) (HBX.out.below HBA.out) (HIL.out.below HBA.out)).mono ?_
                  rintro e wb ⟨rfl, hb⟩
                  have HFIN2 := hide (below_trans HFIN.out hb)
                  clear hb
                  go_wp2_with fail
                  go_ret
                  exact ⟨rfl, HFIN2.out⟩
end Go.Proofs.Qxb6612898a.EW
