/-
  THE WALK OF FnEndWordVotesEachShingleOnce (function 4).
-/
import Derived.Test.Qxb6612898aEwLawP
namespace Go.Proofs.Qxb6612898a.EW
open Go.RowKit
theorem lsum_take_le : ∀ (K : List (List Int)) (k : Nat), lsum (K.take k) ≤ lsum K
  | [], k => by simp
  | x :: r, 0 => by simp [lsum]
  | x :: r, k + 1 => by have := lsum_take_le r k; simp [lsum]; exact this
theorem stay_last_le (sz : Int) (z : Nat) (K : List (List Int)) : (jn (stay sz (last z K))).length ≤ (jn K).length ∧ (stay sz (last z K)).length ≤ K.length := by
  unfold stay
  split
  · simp [jn]
  · exact ⟨jn_drop_le K _, by unfold last; rw [List.length_drop]; omega⟩
theorem owns_same {w : World} {B e n : Nat} {v : Value} {xs ys : List Value} (h : w.ownsRow B e 1 v n xs) (k : w.ownsRow B e 1 v n ys) : xs = ys := by
  rcases h.2 with ⟨rfl, h0⟩ | ⟨g, cap, cur, rfl, _, hg, _, _, _, ht⟩
  · rcases k.2 with ⟨_, k0⟩ | ⟨g', cap', cur', hv, _⟩
    · rw [List.eq_nil_of_length_eq_zero (by simpa [h0] using h.1 : xs.length = 0), List.eq_nil_of_length_eq_zero (by simpa [h0] using k.1 : ys.length = 0)]
    · cases hv
  · rcases k.2 with ⟨hv, _⟩ | ⟨g', cap', cur', hv, _, hg', _, _, _, ht'⟩
    · cases hv
    · simp only [Value.slice.injEq, Option.some.injEq, Addr.mk.injEq, and_true, true_and] at hv
      obtain ⟨rfl, rfl⟩ := hv
      rw [hg] at hg'
      simp at hg'
      rw [← ht, ← ht', hg']

theorem join18' (a : Option Addr) (K : List (List Int)) (c n s z : Nat) (sz : Int) (w : World) (hn' : n = K.length) (hz' : sz = z) (h : Ws w a K) (hne : ∀ i, i < K.length → 0 < (K.getD i []).length) (hK : K.length = s + z) (hz : 1 ≤ z) (hb : (jn K).length ≤ 500000) (hn : K.length ≤ 100000) :
    Calls Try.prog 18 #[.slice a n c, .int .i64 sz] w fun e w' => (∃ a' c' n' jl, e = .returned (.slice a' n' c') ∧ n' = jl.length ∧ jl = (jn (K.drop s)).dropLast ∧ n' ≤ c' ∧ Bs w' a' jl) ∧ Below w.heap.size w w' := by
  subst hn'
  subst hz'
  refine (join18 a K c s z w h hne hK hz hb hn).mono ?_
  rintro e w1 ⟨⟨a', c', rfl, h1, h2⟩, h3⟩
  exact ⟨⟨a', c', _, _, rfl, rfl, rfl, h1, h2⟩, h3⟩
theorem xx17' (a : Option Addr) (l : List Int) (n c : Nat) (w : World) (hl : n = l.length) (h : Bs w a l) (hn : n ≤ 1000000) (hc : n ≤ c) :
    Calls Try.prog 17 #[.slice a n c] w fun e w' => e = .returned (.int .u64 (xx l)) ∧ Below w.heap.size w w' := by
  subst hl
  exact xx17 a l c w h hn hc
theorem vstep {w4 w : World} {T Wb : Nat} {V : Nat → Nat} {L : Nat → Int} {sz : Int} {wd rn : Value} {sp : Int} {sh ln kv : Value} {sl ll : List Int} {U U' : Nat → Nat} {f : Nat → Value} {K : List (List Int)}
    (ha : Al w w w4.heap.size T none V L sz wd rn sp sh ln wd sh ln [] sl ll) (ho : Ot w4 w 30 64 Wb (vf U f) kv K) :
    Al (w.setCells Wb 0 (fcs U')) (w.setCells Wb 0 (fcs U')) w4.heap.size T none V L sz wd rn sp sh ln wd sh ln [] sl ll ∧ Ot w4 (w.setCells Wb 0 (fcs U')) 30 64 Wb (vf U' f) kv K := by
  have hg := grown_setCells (b := Wb) (fcs U') 0 w w (World.grownBy.refl _ _)
  refine ⟨ha.frm (E := [30]) (Frm.of_grown hg ho.wn (by simp) ho.wb) (by decide) (by decide) (by decide) (by decide), ho.want hg ?_ (by decide)⟩
  refine World.rowIs.congr (row_setCells (fcs U') 0 64 w _ ho.wn) fun i hi => ?_
  rw [if_pos ⟨by omega, by rw [fcs_len]; omega⟩, Nat.sub_zero]
  simp [vf, hi, List.getD_eq_getElem?_getD, fcs_at U' hi]

theorem Cl.bs' {w : World} {a : Option Addr} {n c : Nat} {l : List Int} (h : Cl w (.slice a n c) l) : Bs w a l := by
  obtain ⟨a', c', hv, _, hb⟩ := h.shp
  simp only [Value.slice.injEq] at hv
  rw [hv.1]; exact hb
theorem a2_row0 (w : World) (o' : Obj) (c : Array Value) (t n : Nat) (hn : c.size = n) : ((w.alloc (.cells c t)).alloc o').rowIs w.heap.size t n (fun i => c.getD i undef) :=
  (row_fresh w c t n hn).alloc o'
theorem a2_row1 (w : World) (o : Obj) (c : Array Value) (t n : Nat) (hn : c.size = n) : ((w.alloc o).alloc (.cells c t)).rowIs (w.heap.size + 1) t n (fun i => c.getD i undef) := by
  have := row_fresh (w.alloc o) c t n hn
  simpa using this
theorem holds22 (a a1 a2 : Option Addr) (K : List (List Int)) (sz : Int) (c c1 c2 nk nx nl z : Nat) (w : World) (hnk : nk = K.length) (hnx : nx = (jn (stay sz (last z K))).length) (hnl : nl = (lens (stay sz (last z K))).length) (hz : sz = z)
    (h : Ws w a K) (hne : ∀ i, i < K.length → 0 < (K.getD i []).length) (hb : (jn K).length ≤ 500000) (hn : K.length ≤ 100000) (h1 : Bs w a1 (jn (stay sz (last z K)))) (h2 : Is w a2 (lens (stay sz (last z K)))) :
    Calls Try.prog 22 #[.slice a nk c, .int .i64 sz, .slice a1 nx c1, .slice a2 nl c2] w fun e w' => e = .returned (.bool true) ∧ Below w.heap.size w w' := by
  subst hnk
  subst hnx
  subst hnl
  by_cases e1 : sz = 1
  · have e : stay sz (last z K) = [] := if_pos e1
    rw [e, e1]
    refine (holds22_one a a1 a2 K.length c c1 c2 w).mono ?_
    rintro e w1 ⟨rfl, rfl⟩
    exact ⟨rfl, Below.refl _ _⟩
  · have e : stay sz (last z K) = K.drop (K.length - z) := if_neg e1
    rw [e] at h1 h2 ⊢
    by_cases e2 : sz < K.length
    · exact holds22_more a a1 a2 K sz c c1 c2 (K.length - z) z w h hne (by omega) hb hn e1 hz e2 h1 h2
    · exact holds22_all a a1 a2 K sz c c1 c2 (K.length - z) K.length w h hne (by omega) hb hn e1 (by omega) (by omega) h1 h2

set_option linter.unusedSimpArgs false in
set_option maxHeartbeats 8000000 in
set_option maxRecDepth 100000 in
theorem main4 (V : Nat → Nat) (sz sp : Int) (rv : Value) (l1 : List Int) (a : Option Addr) (c : Nat) (K0 : List (List Int)) (w : World) (hr : Cl w rv l1) (h : Ws w a K0) (hnone : a = none → K0 = [])
    (hn1 : l1.length ≤ maxLen) (hn : K0.length ≤ maxLen) (hw : ∀ i, (K0.getD i []).length ≤ maxLen) (hsz : sz ≤ 9223372036854775807) :
    Calls Try.prog 4 #[.agg (fcs V).toArray, .int .i64 sz, rv, .int .i64 sp, .slice a K0.length c] w fun e w' => e = .returned (.bool true) ∧ Below w.heap.size w w' := by
  obtain ⟨n, hl⟩ : ∃ n, n = K0.length := ⟨_, rfl⟩
  rw [← hl] at hn ⊢
  obtain ⟨a1, c1, rfl, hc1, hb1⟩ := hr.shp
  have HR := hide hr
  have H := hide h
  have HL := hide hl
  have HW := hide hw
  have HN := hide hnone
  clear h hl hw hr hb1 hnone
  have hB0 : Below w.heap.size w (w.alloc (.cells (fcs V).toArray 30)) := (Below.refl _ _).alloc (Nat.le_refl _) _
  have HB0 := hide hB0
  have HBX := hide (a1_range w V 30)
  clear hB0
  go_enter Try.func4, Try.ntmps4
  go_wp2_with (refine wpList_load_mid rfl 30 _ rfl w.heap.size 0 rfl (fcs V) _ HBX.out Try.underlying30 rfl (size30 V) ?_)
  rw [show Value.slice a n c = Value.slice a K0.length c by rw [HL.out]]
  refine (bytes9 V sz sp a1 a l1.length c1 c K0 _ (H.out.below HB0.out) hn1 (by rw [← HL.out]; exact hn) HW.out).mono ?_
  rintro e w1 ⟨⟨r, rfl, hr⟩, hb⟩
  rw [← HL.out]
  have HBD := hide hr
  clear hr
  have HBX1 := hide (range_below HBX.out hb (by simp))
  have HB1 := hide (below_trans HB0.out hb)
  have HLT := hide (show w.heap.size < w1.heap.size from Nat.lt_of_lt_of_le (by simp) hb.size)
  clear hb HBX HB0
  cases r
  · go_wp2_with fail
    go_ret
    exact ⟨rfl, HB1.out⟩
  by_cases q1 : 65536 < l1.length
  · go_wp2_with fail
    go_ret
    exact ⟨rfl, HB1.out⟩
  by_cases q2 : 4096 < n
  · go_wp2_with fail
    go_ret
    exact ⟨rfl, HB1.out⟩
  clear hn1 hn
  have hn1 : l1.length ≤ 65536 := by omega
  have hn : n ≤ 4096 := by omega
  go_wp2_with fail
  go_loopw [11, 12] (fun sv iv wr => ∃ (k : Nat) (s : Int), k ≤ n ∧ iv = .int .i64 k ∧ sv = .int .i64 s ∧ 0 ≤ s ∧ s ≤ 65536 ∧ Hid (s = (l1.length : Int) + (lsum (K0.take k) : Nat)) ∧ w1 = wr) (fun _ iv _ => n - natOf iv)
  case atStart => exact ⟨0, (l1.length : Int), Nat.zero_le _, rfl, rfl, by omega, by omega, by simp [lsum, Hid], rfl⟩
  case round =>
    obtain ⟨k, s, hk, rfl, rfl, hs0, hs1, HSM, rfl⟩ := hrel
    by_cases hlt : k < n
    · obtain hx | ⟨b, off, rfl, hbl, hc⟩ := H.out
      · have := HL.out; rw [hx] at this; simp at this; omega
      obtain ⟨v, hcv, hcl⟩ := hc k (by rw [← HL.out]; exact hlt)
      have c0 := (HB1.out.cell (p := ⟨b, off + k, none⟩) hbl).trans hcv
      obtain ⟨a2, c2, hv, _⟩ := hcl.shp
      have hm := HW.out k
      obtain ⟨m, hme⟩ : ∃ m, m = (K0.getD k []).length := ⟨_, rfl⟩
      rw [← hme] at hv hm
      subst hv
      unfold maxLen at hm
      have HME := hide hme
      clear hc hcl hcv hme
      have hi : (k : Int) < n := by omega
      have hi0 : (0 : Int) ≤ k := by omega
      have hm2 : m ≤ 1048576 := by rw [HME.out]; exact HBD.out (by first | exact rfl | trivial) k (by have := HL.out; omega)
      by_cases q5 : 65536 < s + m
      · go_wp2_with fail
        go_ret
        exact ⟨rfl, HB1.out⟩
      go_wp2_with fail
      go_roundw
      case rel => exact ⟨k + 1, s + m, by omega, by simp, rfl, by omega, by omega, (by
        have := HSM.out
        show s + m = (l1.length : Int) + (lsum (K0.take (k + 1)) : Nat)
        rw [lsum_take_succ K0 k (by rw [← HL.out]; exact hlt), ← HME.out]
        omega), (by first | exact rfl | trivial)⟩
      case measure => simp [natOf]; omega
    · have hi : (n : Int) ≤ k := by omega
      have HTOT := hide (show l1.length + lsum K0 ≤ 65536 from by
        have h1 := HSM.out
        rw [show K0.take k = K0 from List.take_of_length_le (by rw [← HL.out]; omega)] at h1
        omega)
      by_cases q7 : sz < 1
      · go_wp2_with fail
        go_ret
        exact ⟨rfl, HB1.out⟩
      have hz1 : 1 ≤ sz := by omega
      go_wp2_with fail
      refine (clone10 _ l1 w1 (HR.out.below HB1.out) (by omega)).mono ?_
      rintro e w2 ⟨⟨v2, rfl, hcf⟩, hb⟩
      have HR2 := hide hcf.cl
      have HB2 := hide (below_trans HB1.out hb)
      have HBX2 := hide (range_below HBX1.out hb HLT.out)
      have HLT2 := hide (Nat.lt_of_lt_of_le HLT.out hb.size)
      obtain ⟨ar, cr, rfl, _⟩ := hcf.cl.shp
      clear hcf hb HBX1 HLT
      go_wp2_with fail
      rw [show Value.slice a n c = Value.slice a K0.length c by rw [HL.out]]
      refine (clone11 a K0 c w2 (H.out.below HB2.out) HN.out (by rw [← HL.out]; omega) (fun i => ?_)).mono ?_
      · have := getD_le_lsum K0 i; have := HTOT.out; omega
      rintro e w3 ⟨⟨aw, cw, rfl, hws, hnw⟩, hb⟩
      rw [← HL.out]
      have HWS := hide hws
      replace HR2 := hide (HR2.out.below hb)
      have HB3 := hide (below_trans HB2.out hb)
      have HBX3 := hide (range_below HBX2.out hb HLT2.out)
      have HLT3 := hide (Nat.lt_of_lt_of_le HLT2.out hb.size)
      clear hws hnw hb HBX2 HLT2 HB2
      go_wp2_with fail
      refine (clone10 _ l1 w3 HR2.out (by omega)).mono ?_
      rintro e w4 ⟨⟨v4, rfl, hcf⟩, hb⟩
      have HRW := hide hcf.cl
      replace HWS := hide (HWS.out.below hb)
      replace HR2 := hide (HR2.out.below hb)
      have HB4 := hide (below_trans HB3.out hb)
      have HBX4 := hide (range_below HBX3.out hb HLT3.out)
      have HLT4 := hide (Nat.lt_of_lt_of_le HLT3.out hb.size)
      obtain ⟨aq, cq, rfl, _⟩ := hcf.cl.shp
      clear hcf hb HBX3 HLT3 HB3
      go_wp2_with (first
        | refine wpList_load_mid rfl 30 _ rfl w.heap.size 0 rfl (fcs V) _ HBX4.out Try.underlying30 rfl (size30 V) ?_
        | refine wpList_build39 rfl rfl ?_)
      refine (new12_vote V (fun _ => 0) sz ar l1.length cr sp w4).mono ?_
      rintro e w5 ⟨⟨T, rfl, hal⟩, hb⟩
      have HAL := hide hal
      have HBB := hide hb
      have HBX5 := hide (range_below HBX4.out hb HLT4.out)
      clear hal hb HBX4
      go_wp2_with (first
        | refine wpList_load_mid rfl 30 _ rfl w.heap.size 0 rfl (fcs V) _ HBX5.out Try.underlying30 rfl (size30 V) ?_
        | refine wpList_store_all rfl 30 _ _ rfl w5.heap.size 30 (fcs V) rfl rfl _ (row_fresh w5 _ 30 _ (by rw [fcs_len]; rfl)) (size30 V) (fcs_one V) ?_)
      intro w6 HWN HG6
      have HBN := hide (show Below w5.heap.size w5 w6 from ((Below.refl _ _).alloc (Nat.le_refl _) _).grown HG6.out (by simp) (fun j hj => by simp at hj; omega))
      clear HG6
      obtain ⟨z, hz⟩ : ∃ z : Nat, sz = z := ⟨sz.toNat, by omega⟩
      have HZ := hide hz
      have hz1' : 1 ≤ z := by omega
      have HL6 := hide (show Al w6 w6 w4.heap.size T none V (fun _ => 0) sz (.slice none 0 0) (.slice ar l1.length cr) sp (.slice none 0 0) (.slice none 0 0) (.slice none 0 0) (.slice none 0 0) (.slice none 0 0) [] (jn (stay sz (last z []))) (lens (stay sz (last z []))) ∧ Ot w4 w6 30 64 w5.heap.size (vf V fun _ => undef) (.slice none 0 0) [] ∧ (∀ i, i < 64 → Sim (V i) (V i)) from by
        have e : stay sz (last z []) = [] := by unfold stay last; simp
        rw [e]
        exact ⟨(HAL.out.below HBN.out).re, ⟨HBB.out.trans (HBN.out.mono HBB.out.size), vf_fcs HWN.out _, HBB.out.size, ⟨[], World.ownsRow_nil _ _ _ _, fun i hi => absurd hi (Nat.not_lt_zero _)⟩, fun i hi => absurd hi (Nat.not_lt_zero _)⟩, fun i _ => .inl rfl⟩)
      have HBW := hide HB4.out
      generalize w5.heap.size = Wb at HL6 ⊢
      clear HAL HBX5 HWN HBN HBB hz HB4
      go_wp2_with fail
      go_loopw [16, 17] (fun kv iv wr => ∃ (k : Nat) (V1 U : Nat → Nat) (L1 : Nat → Int) (wd sh ln : Value) (K : List (List Int)), k ≤ n ∧ iv = .int .i64 k ∧ Hid (Al wr wr w4.heap.size T none V1 L1 sz wd (.slice ar l1.length cr) sp sh ln wd sh ln [] (jn (stay sz (last z K))) (lens (stay sz (last z K))) ∧ Ot w4 wr 30 64 Wb (vf U fun _ => undef) kv K ∧ (∀ i, i < 64 → Sim (V1 i) (U i))) ∧ Hid (lsum K ≤ lsum (K0.take k) ∧ K.length ≤ k)) (fun _ iv _ => n - natOf iv)
      case atStart => exact ⟨0, V, V, fun _ => 0, _, _, _, [], Nat.zero_le _, rfl, HL6.out, by simp [lsum, Hid]⟩
      case round =>
        obtain ⟨k2, V1, U, L1, wd, sh, ln, K, hk2, rfl, HLP, HKB⟩ := hrel
        by_cases hlt2 : k2 < n
        · obtain hx | ⟨b, off, rfl, hbl, hc⟩ := HWS.out
          · have := HL.out; rw [hx] at this; simp at this; omega
          obtain ⟨v, hcv, hcl⟩ := hc k2 (by rw [← HL.out]; exact hlt2)
          obtain ⟨x, hxe⟩ : ∃ x, x = K0.getD k2 [] := ⟨_, rfl⟩
          rw [← hxe] at hcl
          have HXE := hide hxe
          have HXL := hide (show x.length ≤ 65536 from by have := getD_le_lsum K0 k2; have := HTOT.out; rw [hxe]; omega)
          have HCL := hide hcl
          have HCV := hide hcv
          have HBL := hide hbl
          obtain ⟨a2, c2, hv, _⟩ := hcl.shp
          obtain ⟨m, hme⟩ : ∃ m, m = x.length := ⟨_, rfl⟩
          rw [← hme] at hv
          subst hv
          have HME := hide hme
          have c0 := (HLP.out.2.1.be.cell (p := ⟨b, off + k2, none⟩) hbl).trans hcv
          clear hc hcl hcv hme hxe hbl
          have hi2 : (k2 : Int) < n := by omega
          have hi20 : (0 : Int) ≤ k2 := by omega
          go_wp2_with fail
          refine (app13 w4.heap.size T none V1 L1 sz (.slice ar l1.length cr) sp sh ln wd _ x _ _ wr wr HLP.out.1 (HCL.out.below HLP.out.2.1.be) (by have := HXL.out; omega)).mono ?_
          rintro e w7 ⟨rfl, wd7, h7⟩
          have HA7 := hide h7.re
          have HO7 := hide (HLP.out.2.1.frm h7.fr (by decide))
          clear h7 c0
          by_cases hx0 : m = 0
          · have HX0 := hide (show x = [] from List.eq_nil_of_length_eq_zero (by rw [← HME.out]; exact hx0))
            subst hx0
            have HA7' := hide (show Al w7 w7 w4.heap.size T none V1 L1 sz wd7 (.slice ar l1.length cr) sp sh ln wd7 sh ln [] (jn (stay sz (last z K))) (lens (stay sz (last z K))) from by have h := HA7.out; rw [HX0.out] at h; exact h)
            clear HA7
            go_wp2_with fail
            refine (end14_none w4.heap.size T none V1 L1 sz (.slice ar l1.length cr) sp sh ln wd7 _ _ w7 w7 HA7'.out).mono ?_
            rintro e w8 ⟨rfl, rfl⟩
            obtain ⟨a7, c7, hwd7⟩ := HA7'.out.ow.shp
            simp only [List.length_nil] at hwd7
            subst hwd7
            have c0 := (HO7.out.be.cell (p := ⟨b, off + k2, none⟩) HBL.out).trans HCV.out
            go_wp2_with fail
            refine (word15 w4.heap.size T none V1 L1 sz (.slice ar l1.length cr) sp sh ln _ _ _ _ w7 w7 HA7'.out).mono ?_
            rintro e w8 ⟨rfl, rfl⟩
            go_wp2_with fail
            go_roundw
            case rel => exact ⟨k2 + 1, V1, U, L1, _, sh, ln, K, by omega, by simp, hide ⟨HA7'.out, HO7.out, HLP.out.2.2⟩, hide ⟨by
              have := HKB.out.1
              rw [lsum_take_succ K0 k2 (by rw [← HL.out]; exact hlt2)]; omega, by have := HKB.out.2; omega⟩⟩
            case measure => simp [natOf]; omega
          · have HP := hide (show 0 < x.length from by rw [← HME.out]; omega)
            have hm0 : (0 : Int) < m := by omega
            have HJB := hide (show (jn (stay sz (last z K))).length + x.length ≤ 500000 ∧ (stay sz (last z K)).length ≤ 100000 ∧ (jn (K ++ [x])).length ≤ 500000 ∧ (K ++ [x]).length ≤ 100000 from by
              have h1 := HKB.out.1
              have h2 := HKB.out.2
              have h3 := HTOT.out
              have h4 := lsum_take_le K0 k2
              have h5 := jn_lsum K
              have h6 := stay_last_le sz z K
              have h7 := HXL.out
              refine ⟨by omega, by omega, ?_, by simp; omega⟩
              rw [jn_append]; simp; omega)
            go_wp2_with fail
            refine (end14 w4.heap.size T none V1 L1 sz (.slice ar l1.length cr) sp sh ln wd7 x (stay sz (last z K)) w7 w7 HA7.out hz1 (fun e => by unfold stay; rw [if_pos e]) HP.out HJB.out.1 HJB.out.2.1).mono ?_
            rintro e w8 ⟨rfl, V2, L2, wd8, sh8, ln8', h8, hfe⟩
            rw [win_last HZ.out hz1' K x] at h8 hfe
            have HA8 := hide h8.re
            have HO8 := hide (HO7.out.frm h8.fr (by decide))
            have HFE := hide hfe
            clear h8 hfe HA7 HO7
            obtain ⟨a7, c7, hwd7⟩ := HA8.out.ow.shp
            simp only [List.length_nil] at hwd7
            subst hwd7
            have c0 := (HO8.out.be.cell (p := ⟨b, off + k2, none⟩) HBL.out).trans HCV.out
            go_wp2_with fail
            refine (word15 w4.heap.size T none V2 L2 sz (.slice ar l1.length cr) sp sh8 ln8' _ _ _ _ w8 w8 HA8.out).mono ?_
            rintro e w8' ⟨rfl, rfl⟩
            obtain ⟨i31, hi31, hz310, hz311, hz312⟩ := info_parts info31'
            obtain ⟨vs, hvs⟩ := (HO8.out.below (w1 := w8.alloc (.cells #[.slice a2 m c2] 31)) ((Below.refl _ _).alloc (Nat.le_refl _) _)).own
            have HVS := hide hvs
            have HBV := hide (show w4.heap.size ≤ (w8.alloc (.cells #[.slice a2 m c2] 31)).heap.size from Nat.le_trans HO8.out.be.size (by simp))
            clear hvs
            have hKl : K.length ≤ 4096 := by have := HKB.out.2; omega
            go_wp2_with (at_builtin; refine wpList_append_own_at _ rfl _ _ 32 rfl w4.heap.size 31 i31 (.slice none 0 0) 1 24 Try.underlying32 hi31 hz310 hz311 hz312 rfl (by decide) _ K.length vs rfl HVS.out ⟨w8.heap.size, 0, none⟩ 1 1 [.slice a2 m c2] rfl rfl (cell_one_new _ _ _) (by simp [Value.oneCell']) (by unfold maxLen; omega) (by omega) HBV.out ?_)
            intro kv9 w9 hown hgrow hnil hat
            have HO9 := hide ((HO8.out.below (w1 := w8.alloc (.cells #[.slice a2 m c2] 31)) ((Below.refl _ _).alloc (Nat.le_refl _) _)).more (kv' := kv9) HCL.out HP.out hgrow (fun vs' hv' => by
              have e : vs' = vs := owns_same hv' HVS.out
              rw [e]; exact hown) (by decide))
            have HA9 := hide ((HA8.out.below (w1 := w8.alloc (.cells #[.slice a2 m c2] 31)) ((Below.refl _ _).alloc (Nat.le_refl _) _)).frm (E := [31]) (Frm.of_own hgrow HVS.out (by simp) HBV.out) (by decide) (by decide) (by decide) (by decide))
            clear hown hgrow hnil hat HVS HBV c0
            obtain ⟨a9, c9, hkv9, hws9⟩ := HO9.out.ws
            have HWS9 := hide hws9
            have hlk : (K ++ [x]).length = K.length + 1 := by simp
            rw [hlk] at hkv9
            clear hws9
            subst hkv9
            by_cases hge : sz ≤ (K.length : Int) + 1
            · have HFT := hide (show ∀ i, i < 64 → Sum (V1 i) (cb (xx (jn (last z (K ++ [x]))).dropLast) i) (V2 i) from by
                have h := HFE.out
                unfold Fe at h
                rw [if_pos (by rw [last_len, hlk]; have := HZ.out; omega)] at h
                exact h.2)
              have HJL := hide (show (jn ((K ++ [x]).drop ((K ++ [x]).length - z))).dropLast.length ≤ 500000 from by rw [List.length_dropLast]; have := jn_drop_le (K ++ [x]) ((K ++ [x]).length - z); have := HJB.out.2.2.1; omega)
              have HKB2 := hide (show lsum (K ++ [x]) ≤ lsum (K0.take (k2 + 1)) ∧ (K ++ [x]).length ≤ k2 + 1 from ⟨by
                have := HKB.out.1
                rw [lsum_take_succ K0 k2 (by rw [← HL.out]; exact hlt2), lsum_append, ← HXE.out]; omega, by have := HKB.out.2; omega⟩)
              go_upto_region 30 with fail
              have HOd := hide (HO9.out.below (w1 := w9.drew) (by exact Below.drew (Below.refl _ _)))
              have HAd := hide (HA9.out.below (w1 := w9.drew) (by exact Below.drew (Below.refl _ _))).re
              refine wp_region_held_drew (S := fun _ => True) (by kernel_rfl) trivial (fun _ => ?_)
              refine wpAnyH_take (i := 1) (oi := { dst := some 111, op := Op.move (Operand.tmp 16), type := _, pos := _, after := _, guard := none }) (v := (.slice a9 (K.length + 1) c9)) rfl (by kernel_rfl) (by kernel_rfl) (by kernel_rfl) (fun _ _ _ h => h) (Or.inl ⟨by rfl, ?_⟩) trivial ?_
              · intro w' _
                go_simp
              try simp only [Act.put, List.setIfInBounds_toArray, List.set_cons_zero, List.set_cons_succ, List.toList_toArray]
              refine wpAnyH_take (i := 2) (oi := { dst := some 112, op := Op.move (Operand.tmp 1), type := _, pos := _, after := _, guard := none }) (v := (.int .i64 sz)) rfl (by kernel_rfl) (by kernel_rfl) (by kernel_rfl) (fun _ _ _ h => h) (Or.inl ⟨by rfl, ?_⟩) trivial ?_
              · intro w' _
                go_simp
              try simp only [Act.put, List.setIfInBounds_toArray, List.set_cons_zero, List.set_cons_succ, List.toList_toArray]
              refine wpAnyH_ready (rs := [0, 3]) (by kernel_rfl) (by simp) ?_
              refine AllReadyH.cons (o := { dst := some 110, op := Op.load 30 (Operand.tmp 15), type := _, pos := _, after := _, guard := none }) rfl (fun Kc hK => ?_) ?_
              rotate_left
              · refine AllReadyH.cons (o := { dst := some 113, op := Op.call { callee := Callee.value (Operand.func 18), args := #[Operand.tmp 111, Operand.tmp 112], argTypes := #[32, 3] }, type := _, pos := _, after := _, guard := none }) rfl (fun Kc hK => ?_) AllReadyH.nil
                rw [if_pos (by rfl)]
                go_simp
                refine (join18' a9 (K ++ [x]) c9 (K.length + 1) ((K ++ [x]).length - z) z sz _ hlk.symm HZ.out (HWS9.out.below ((by exact Below.drew (Below.refl _ _)))) HOd.out.ne (by have := HZ.out; omega) hz1' HJB.out.2.2.1 HJB.out.2.2.2).mono ?_
                rintro e wz1 ⟨⟨aj, cj, nj, jl, rfl, hnj, hjl, hcj, hbj⟩, hb⟩
                have HBJ := hide hbj
                have HCJ := hide hcj
                have HNJ := hide hnj
                have HJJ := hide hjl
                clear hcj hbj hnj hjl
                have HOwz1 := hide (HOd.out.below hb)
                have HAwz1 := hide (HAd.out.below hb).re
                clear hb
                refine hK.out _ _ trivial (fun _ => ?_)
                clear hK Kc
                try simp only [Act.put, List.setIfInBounds_toArray, List.set_cons_zero, List.set_cons_succ, List.toList_toArray]
                refine wpAnyH_ready (rs := [0, 4]) (by kernel_rfl) (by simp) ?_
                refine AllReadyH.cons (o := { dst := some 110, op := Op.load 30 (Operand.tmp 15), type := _, pos := _, after := _, guard := none }) rfl (fun Kc hK => ?_) ?_
                rotate_left
                · refine AllReadyH.cons (o := { dst := some 114, op := Op.call { callee := Callee.value (Operand.func 17), args := #[Operand.tmp 113], argTypes := #[31] }, type := _, pos := _, after := _, guard := none }) rfl (fun Kc hK => ?_) AllReadyH.nil
                  rw [if_pos (by rfl)]
                  go_simp
                  refine (xx17' aj jl nj cj _ HNJ.out HBJ.out (by rw [HNJ.out, HJJ.out]; have := HJL.out; omega) HCJ.out).mono ?_
                  rintro e wz2 ⟨rfl, hb⟩
                  have HOwz2 := hide (HOwz1.out.below hb)
                  have HAwz2 := hide (HAwz1.out.below hb).re
                  clear hb
                  refine hK.out _ _ trivial (fun _ => ?_)
                  clear hK Kc
                  try simp only [Act.put, List.setIfInBounds_toArray, List.set_cons_zero, List.set_cons_succ, List.toList_toArray]
                  refine wpAnyH_ready (rs := [0]) (by kernel_rfl) (by simp) ?_
                  refine AllReadyH.cons (o := { dst := some 110, op := Op.load 30 (Operand.tmp 15), type := _, pos := _, after := _, guard := none }) rfl (fun Kc hK => ?_) ?_
                  rotate_left
                  · exact AllReadyH.nil
                  rw [if_pos (by rfl)]
                  refine wp_load_mid 30 _ rfl Wb 0 rfl (fcs U) _ (range_vf HOwz2.out.wn (by omega)) Try.underlying30 rfl (size30 U) ?_
                  try simp only [Act.put, List.setIfInBounds_toArray, List.set_cons_zero, List.set_cons_succ, List.toList_toArray]
                  refine hK.out _ _ trivial (fun _ => ?_)
                  clear hK Kc
                  refine wpAnyH_ready (rs := [5]) (by kernel_rfl) (by simp) ?_
                  refine AllReadyH.cons (o := { dst := some 115, op := Op.call { callee := Callee.value (Operand.func 16), args := #[Operand.tmp 110, Operand.tmp 114, Operand.const (Value.float FloatKind.f64 4607182418800017408)], argTypes := #[30, 38, 29] }, type := _, pos := _, after := _, guard := none }) rfl (fun Kc hK => ?_) ?_
                  rotate_left
                  · exact AllReadyH.nil
                  rw [if_pos (by rfl)]
                  go_simp
                  refine (vadd16 U _ _).mono ?_
                  rintro e wz3 ⟨⟨U', rfl, hU'⟩, hb⟩
                  have HUU := hide hU'
                  clear hU'
                  have HOwz3 := hide (HOwz2.out.below hb)
                  have HAwz3 := hide (HAwz2.out.below hb).re
                  clear hb
                  refine hK.out _ _ trivial (fun _ => ?_)
                  clear hK Kc
                  try simp only [Act.put, List.setIfInBounds_toArray, List.set_cons_zero, List.set_cons_succ, List.toList_toArray]
                  refine wpAnyH_ready (rs := [6]) (by kernel_rfl) (by simp) ?_
                  refine AllReadyH.cons (o := { dst := none, op := Op.store 30 (Operand.tmp 15) (Operand.tmp 115), type := _, pos := _, after := _, guard := none }) rfl (fun Kc hK => ?_) ?_
                  rotate_left
                  · exact AllReadyH.nil
                  rw [if_pos (by rfl)]
                  refine wp_store_mid 30 _ _ rfl Wb 0 (fcs U').toArray rfl rfl (by rw [List.size_toArray, fcs_len]; exact there_row HOwz3.out.wn (by omega)) (by simpa using size30 U') (all_oneCell_toArray (fcs_one U')) ?_
                  try simp only [Act.put, List.setIfInBounds_toArray, List.set_cons_zero, List.set_cons_succ, List.toList_toArray]
                  refine hK.out _ _ trivial (fun _ => ?_)
                  clear hK Kc
                  refine wpAnyH_done (by kernel_rfl) ?_ _
                  have HV := hide (vstep (U' := U') HAwz3.out HOwz3.out)
                  have HSM2 := hide (show ∀ i, i < 64 → Sim (V2 i) (U' i) from fun i hi => sim_sum (HLP.out.2.2 i hi) (HFT.out i hi) (by have h := HUU.out i hi; rw [HJJ.out] at h; exact h))
                  generalize hWW : World.setCells wz3 Wb 0 (fcs U') = WW at HV ⊢
                  clear hWW
                  go_wp2_with fail
                  go_roundw
                  case rel => exact ⟨k2 + 1, V2, U', L2, _, sh8, ln8', K ++ [x], by omega, by simp, hide ⟨HV.out.1, HV.out.2, HSM2.out⟩, HKB2.out⟩
                  case measure => simp [natOf]; omega
                rw [if_pos (by rfl)]
                refine wp_load_mid 30 _ rfl Wb 0 rfl (fcs U) _ (range_vf HOwz1.out.wn (by omega)) Try.underlying30 rfl (size30 U) ?_
                try simp only [Act.put, List.setIfInBounds_toArray, List.set_cons_zero, List.set_cons_succ, List.toList_toArray]
                refine hK.out _ _ trivial (fun _ => ?_)
                clear hK Kc
                refine wpAnyH_ready (rs := [4]) (by kernel_rfl) (by simp) ?_
                refine AllReadyH.cons (o := { dst := some 114, op := Op.call { callee := Callee.value (Operand.func 17), args := #[Operand.tmp 113], argTypes := #[31] }, type := _, pos := _, after := _, guard := none }) rfl (fun Kc hK => ?_) ?_
                rotate_left
                · exact AllReadyH.nil
                rw [if_pos (by rfl)]
                go_simp
                refine (xx17' aj jl nj cj _ HNJ.out HBJ.out (by rw [HNJ.out, HJJ.out]; have := HJL.out; omega) HCJ.out).mono ?_
                rintro e wz2 ⟨rfl, hb⟩
                have HOwz2 := hide (HOwz1.out.below hb)
                have HAwz2 := hide (HAwz1.out.below hb).re
                clear hb
                refine hK.out _ _ trivial (fun _ => ?_)
                clear hK Kc
                try simp only [Act.put, List.setIfInBounds_toArray, List.set_cons_zero, List.set_cons_succ, List.toList_toArray]
                refine wpAnyH_ready (rs := [5]) (by kernel_rfl) (by simp) ?_
                refine AllReadyH.cons (o := { dst := some 115, op := Op.call { callee := Callee.value (Operand.func 16), args := #[Operand.tmp 110, Operand.tmp 114, Operand.const (Value.float FloatKind.f64 4607182418800017408)], argTypes := #[30, 38, 29] }, type := _, pos := _, after := _, guard := none }) rfl (fun Kc hK => ?_) ?_
                rotate_left
                · exact AllReadyH.nil
                rw [if_pos (by rfl)]
                go_simp
                refine (vadd16 U _ _).mono ?_
                rintro e wz3 ⟨⟨U', rfl, hU'⟩, hb⟩
                have HUU := hide hU'
                clear hU'
                have HOwz3 := hide (HOwz2.out.below hb)
                have HAwz3 := hide (HAwz2.out.below hb).re
                clear hb
                refine hK.out _ _ trivial (fun _ => ?_)
                clear hK Kc
                try simp only [Act.put, List.setIfInBounds_toArray, List.set_cons_zero, List.set_cons_succ, List.toList_toArray]
                refine wpAnyH_ready (rs := [6]) (by kernel_rfl) (by simp) ?_
                refine AllReadyH.cons (o := { dst := none, op := Op.store 30 (Operand.tmp 15) (Operand.tmp 115), type := _, pos := _, after := _, guard := none }) rfl (fun Kc hK => ?_) ?_
                rotate_left
                · exact AllReadyH.nil
                rw [if_pos (by rfl)]
                refine wp_store_mid 30 _ _ rfl Wb 0 (fcs U').toArray rfl rfl (by rw [List.size_toArray, fcs_len]; exact there_row HOwz3.out.wn (by omega)) (by simpa using size30 U') (all_oneCell_toArray (fcs_one U')) ?_
                try simp only [Act.put, List.setIfInBounds_toArray, List.set_cons_zero, List.set_cons_succ, List.toList_toArray]
                refine hK.out _ _ trivial (fun _ => ?_)
                clear hK Kc
                refine wpAnyH_done (by kernel_rfl) ?_ _
                have HV := hide (vstep (U' := U') HAwz3.out HOwz3.out)
                have HSM2 := hide (show ∀ i, i < 64 → Sim (V2 i) (U' i) from fun i hi => sim_sum (HLP.out.2.2 i hi) (HFT.out i hi) (by have h := HUU.out i hi; rw [HJJ.out] at h; exact h))
                generalize hWW : World.setCells wz3 Wb 0 (fcs U') = WW at HV ⊢
                clear hWW
                go_wp2_with fail
                go_roundw
                case rel => exact ⟨k2 + 1, V2, U', L2, _, sh8, ln8', K ++ [x], by omega, by simp, hide ⟨HV.out.1, HV.out.2, HSM2.out⟩, HKB2.out⟩
                case measure => simp [natOf]; omega
              rw [if_pos (by rfl)]
              refine wp_load_mid 30 _ rfl Wb 0 rfl (fcs U) _ (range_vf HOd.out.wn (by omega)) Try.underlying30 rfl (size30 U) ?_
              try simp only [Act.put, List.setIfInBounds_toArray, List.set_cons_zero, List.set_cons_succ, List.toList_toArray]
              refine hK.out _ _ trivial (fun _ => ?_)
              clear hK Kc
              refine wpAnyH_ready (rs := [3]) (by kernel_rfl) (by simp) ?_
              refine AllReadyH.cons (o := { dst := some 113, op := Op.call { callee := Callee.value (Operand.func 18), args := #[Operand.tmp 111, Operand.tmp 112], argTypes := #[32, 3] }, type := _, pos := _, after := _, guard := none }) rfl (fun Kc hK => ?_) ?_
              rotate_left
              · exact AllReadyH.nil
              rw [if_pos (by rfl)]
              go_simp
              refine (join18' a9 (K ++ [x]) c9 (K.length + 1) ((K ++ [x]).length - z) z sz _ hlk.symm HZ.out (HWS9.out.below ((by exact Below.drew (Below.refl _ _)))) HOd.out.ne (by have := HZ.out; omega) hz1' HJB.out.2.2.1 HJB.out.2.2.2).mono ?_
              rintro e wz1 ⟨⟨aj, cj, nj, jl, rfl, hnj, hjl, hcj, hbj⟩, hb⟩
              have HBJ := hide hbj
              have HCJ := hide hcj
              have HNJ := hide hnj
              have HJJ := hide hjl
              clear hcj hbj hnj hjl
              have HOwz1 := hide (HOd.out.below hb)
              have HAwz1 := hide (HAd.out.below hb).re
              clear hb
              refine hK.out _ _ trivial (fun _ => ?_)
              clear hK Kc
              try simp only [Act.put, List.setIfInBounds_toArray, List.set_cons_zero, List.set_cons_succ, List.toList_toArray]
              refine wpAnyH_ready (rs := [4]) (by kernel_rfl) (by simp) ?_
              refine AllReadyH.cons (o := { dst := some 114, op := Op.call { callee := Callee.value (Operand.func 17), args := #[Operand.tmp 113], argTypes := #[31] }, type := _, pos := _, after := _, guard := none }) rfl (fun Kc hK => ?_) ?_
              rotate_left
              · exact AllReadyH.nil
              rw [if_pos (by rfl)]
              go_simp
              refine (xx17' aj jl nj cj _ HNJ.out HBJ.out (by rw [HNJ.out, HJJ.out]; have := HJL.out; omega) HCJ.out).mono ?_
              rintro e wz2 ⟨rfl, hb⟩
              have HOwz2 := hide (HOwz1.out.below hb)
              have HAwz2 := hide (HAwz1.out.below hb).re
              clear hb
              refine hK.out _ _ trivial (fun _ => ?_)
              clear hK Kc
              try simp only [Act.put, List.setIfInBounds_toArray, List.set_cons_zero, List.set_cons_succ, List.toList_toArray]
              refine wpAnyH_ready (rs := [5]) (by kernel_rfl) (by simp) ?_
              refine AllReadyH.cons (o := { dst := some 115, op := Op.call { callee := Callee.value (Operand.func 16), args := #[Operand.tmp 110, Operand.tmp 114, Operand.const (Value.float FloatKind.f64 4607182418800017408)], argTypes := #[30, 38, 29] }, type := _, pos := _, after := _, guard := none }) rfl (fun Kc hK => ?_) ?_
              rotate_left
              · exact AllReadyH.nil
              rw [if_pos (by rfl)]
              go_simp
              refine (vadd16 U _ _).mono ?_
              rintro e wz3 ⟨⟨U', rfl, hU'⟩, hb⟩
              have HUU := hide hU'
              clear hU'
              have HOwz3 := hide (HOwz2.out.below hb)
              have HAwz3 := hide (HAwz2.out.below hb).re
              clear hb
              refine hK.out _ _ trivial (fun _ => ?_)
              clear hK Kc
              try simp only [Act.put, List.setIfInBounds_toArray, List.set_cons_zero, List.set_cons_succ, List.toList_toArray]
              refine wpAnyH_ready (rs := [6]) (by kernel_rfl) (by simp) ?_
              refine AllReadyH.cons (o := { dst := none, op := Op.store 30 (Operand.tmp 15) (Operand.tmp 115), type := _, pos := _, after := _, guard := none }) rfl (fun Kc hK => ?_) ?_
              rotate_left
              · exact AllReadyH.nil
              rw [if_pos (by rfl)]
              refine wp_store_mid 30 _ _ rfl Wb 0 (fcs U').toArray rfl rfl (by rw [List.size_toArray, fcs_len]; exact there_row HOwz3.out.wn (by omega)) (by simpa using size30 U') (all_oneCell_toArray (fcs_one U')) ?_
              try simp only [Act.put, List.setIfInBounds_toArray, List.set_cons_zero, List.set_cons_succ, List.toList_toArray]
              refine hK.out _ _ trivial (fun _ => ?_)
              clear hK Kc
              refine wpAnyH_done (by kernel_rfl) ?_ _
              have HV := hide (vstep (U' := U') HAwz3.out HOwz3.out)
              have HSM2 := hide (show ∀ i, i < 64 → Sim (V2 i) (U' i) from fun i hi => sim_sum (HLP.out.2.2 i hi) (HFT.out i hi) (by have h := HUU.out i hi; rw [HJJ.out] at h; exact h))
              generalize hWW : World.setCells wz3 Wb 0 (fcs U') = WW at HV ⊢
              clear hWW
              go_wp2_with fail
              go_roundw
              case rel => exact ⟨k2 + 1, V2, U', L2, _, sh8, ln8', K ++ [x], by omega, by simp, hide ⟨HV.out.1, HV.out.2, HSM2.out⟩, HKB2.out⟩
              case measure => simp [natOf]; omega
            · have hge' : (K.length : Int) + 1 < sz := by omega
              have HVL := hide (show V2 = V1 ∧ L2 = L1 from by
                have h := HFE.out
                unfold Fe at h
                rw [if_neg (by rw [last_len, hlk]; have := HZ.out; omega)] at h
                exact h)
              go_wp2_with fail
              go_roundw
              case rel => exact ⟨k2 + 1, V2, U, L2, _, sh8, ln8', K ++ [x], by omega, by simp, hide ⟨HA9.out, HO9.out, by rw [HVL.out.1]; exact HLP.out.2.2⟩, hide ⟨by
                have := HKB.out.1
                rw [lsum_take_succ K0 k2 (by rw [← HL.out]; exact hlt2), lsum_append, ← HXE.out]; omega, by have := HKB.out.2; omega⟩⟩
              case measure => simp [natOf]; omega
        · have hi2 : (n : Int) ≤ k2 := by omega
          go_wp2_with fail
          generalize hwo : wr = wo at HLP ⊢
          clear hwo
          have hz39 := z39
          obtain ⟨a9, c9, hkv, hws9⟩ := HLP.out.2.1.ws
          have HWS9 := hide hws9
          obtain ⟨aw7, cw7, hwd7⟩ := HLP.out.1.ow.shp
          obtain ⟨ax, cx, hsh, hcx, _, _, hbsx⟩ := HLP.out.1.os.bs
          obtain ⟨al, cl, hln, hisl⟩ := HLP.out.1.ol.is
          have HBX := hide hbsx
          have HIL := hide hisl
          clear hws9 hbsx hisl
          obtain ⟨nx, hnx⟩ : ∃ nx, nx = (jn (stay sz (last z K))).length := ⟨_, rfl⟩
          obtain ⟨nl, hnl⟩ : ∃ nl, nl = (lens (stay sz (last z K))).length := ⟨_, rfl⟩
          obtain ⟨nk, hnk⟩ : ∃ nk, nk = K.length := ⟨_, rfl⟩
          rw [← hnx] at hsh hcx
          rw [← hnl] at hln
          rw [← hnk] at hkv
          simp only [List.length_nil] at hwd7
          subst hkv
          subst hwd7
          subst hsh
          subst hln
          have HNX := hide (And.intro hnx (And.intro hnl hnk))
          clear hnx hnl hnk
          refine (state19_vote w4.heap.size T V1 L1 sz (.slice ar l1.length cr) sp _ _ _ _ _ _ wo wo HLP.out.1 ⟨_, _, _, rfl⟩).mono ?_
          rintro e w7 ⟨rfl, hb⟩
          have HB7 := hide hb
          have HWN7 := hide (row_below hb HLP.out.2.1.wn)
          have HWL7 := hide (show Wb < w7.heap.size from Nat.lt_of_lt_of_le HLP.out.2.1.wn.lt hb.size)
          clear hb
          go_wp2_with (first
            | refine wpList_store_all rfl 30 _ _ rfl w7.heap.size 30 (fcs V1) rfl rfl _ (a2_row0 w7 _ _ 30 _ (by rw [fcs_len]; rfl)) (size30 V1) (fcs_one V1) ?_)
          intro w8 HR8 HG8
          have HB8 := hide (show Below w7.heap.size w7 w8 from (((Below.refl _ _).alloc (Nat.le_refl _) _).alloc (by simp) _).grown HG8.out (by simp; omega) (fun j hj => by simp at hj; omega))
          have HT8 := hide (row_grown (T := w7.heap.size + 1) (a2_row1 w7 _ (lcs fun _ => 0).toArray 39 128 (by simp [lcs_len])) HG8.out (by simp))
          clear HG8
          have HT8' := hide (show w8.rowIs (w7.heap.size + 1) 39 (lcs fun _ => 0).length _ from by rw [lcs_len]; exact HT8.out)
          go_wp2_with (first
            | refine wpList_store_all rfl 39 _ _ rfl (w7.heap.size + 1) 39 (lcs fun _ => 0) rfl rfl _ HT8'.out (size39 _) (lcs_one _) ?_)
          intro w9 HR9 HG9
          have HGV := hide (row_grown (vf_fcs HR8.out (fun _ => undef)) HG9.out (by simp))
          have HB9 := hide (show Below w7.heap.size w7 w9 from HB8.out.grown HG9.out HB8.out.size (fun j hj => by simp at hj; omega))
          have HWN9 := hide (row_below HB9.out HWN7.out)
          have HBT := hide (show Below wo.heap.size wo w9 from HB7.out.trans (HB9.out.mono HB7.out.size))
          clear HG9 HR9 HR8 HT8 HT8' HB8 HWN7 hz39
          generalize w7.heap.size = Gv at HGV ⊢
          go_wp2_with fail
          go_loopw [27] (fun iv wq => ∃ (j : Nat), j ≤ 64 ∧ iv = .int .i64 j ∧ Hid (Below w9.heap.size w9 wq)) (fun iv _ => 64 - natOf iv)
          case atStart => exact ⟨0, Nat.zero_le _, rfl, Below.refl _ _⟩
          case round =>
            obtain ⟨j, hj, rfl, HQ⟩ := hrel
            by_cases hj64 : j < 64
            · have hjI : (j : Int) < 64 := by omega
              have hjI0 : (0 : Int) ≤ j := by omega
              have qa : wr.cell? ⟨Gv, j, none⟩ = some (.float .f64 (V1 j)) := by
                rw [World.rowIs.cell (row_below HQ.out HGV.out) hj64]; simp [vf, hj64]
              have qb : wr.cell? ⟨Wb, j, none⟩ = some (.float .f64 (U j)) := by
                rw [World.rowIs.cell (row_below HQ.out HWN9.out) hj64]; simp [vf, hj64]
              have hsm : smf (V1 j) (U j) = true := smf_of_sim (HLP.out.2.2 j hj64)
              go_upto_region 35 with fail
              go_region_held3 (fun w' => w'.cell? ⟨Gv, j, none⟩ = some (.float .f64 (V1 j)) ∧ w'.cell? ⟨Wb, j, none⟩ = some (.float .f64 (U j))) (first | exact ⟨qa, qb⟩) (first | (go_at_call 20; refine (same20 _ _ _).mono ?_; rintro e w' ⟨rfl, rfl⟩))
              all_goals
                go_wp2_with fail
                go_roundw
                case rel => exact ⟨j + 1, by omega, by simp, Below.drew HQ.out⟩
                case measure => simp [natOf]; omega
            · have hjI : (64 : Int) ≤ j := by omega
              have HBQ := hide (show Below wo.heap.size wo wr from HBT.out.trans (HQ.out.mono HBT.out.size))
              go_wp2_with fail
              refine (same21 ar aq l1 cr cq wr ((HR2.out.below HLP.out.2.1.be).below HBQ.out).bs' ((HRW.out.below HLP.out.2.1.be).below HBQ.out).bs' (by omega)).mono ?_
              rintro e wa ⟨rfl, hb⟩
              have HBA := hide (below_trans HBQ.out hb)
              clear hb
              have HFIN := hide (show Below w.heap.size w wa from HBW.out.trans ((HLP.out.2.1.be.trans (HBA.out.mono HLP.out.2.1.be.size)).mono HBW.out.size))
              go_wp2_with fail
              refine (holds22 a9 ax al K sz c9 cx cl nk nx nl z wa HNX.out.2.2 HNX.out.1 HNX.out.2.1 HZ.out (HWS9.out.below HBA.out) HLP.out.2.1.ne (by have := jn_lsum K; have := HKB.out; have := lsum_take_le K0 k2; have := HTOT.out; omega) (by have := HKB.out.2; omega) (HBX.out.below HBA.out) (HIL.out.below HBA.out)).mono ?_
              rintro e wb ⟨rfl, hb⟩
              have HFIN2 := hide (below_trans HFIN.out hb)
              clear hb
              go_wp2_with fail
              go_ret
              exact ⟨rfl, HFIN2.out⟩
end Go.Proofs.Qxb6612898a.EW
