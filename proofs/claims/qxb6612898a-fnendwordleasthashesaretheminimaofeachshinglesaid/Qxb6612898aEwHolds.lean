import Derived.Test.Qxb6612898aEwJoin
namespace Go.Proofs.Qxb6612898a.EW
open Go.RowKit
theorem lens_take_succ (D : List (List Int)) (j : Nat) (h : j < D.length) : lens (D.take (j + 1)) = lens (D.take j) ++ [((D.getD j []).length : Int)] := by
  rw [take_succ' D j h, lens_append]
theorem jn_take_succ (D : List (List Int)) (j : Nat) (h : j < D.length) : jn (D.take (j + 1)) = jn (D.take j) ++ D.getD j [] ++ [32] := by
  rw [take_succ' D j h, jn_append]
theorem lens_take_len (D : List (List Int)) (j : Nat) : (lens (D.take j)).length ≤ j := by
  rw [lens_len, List.length_take]; omega

set_option maxHeartbeats 400000 in
/-- zzShingleHolds at size 1. -/
theorem holds22_one (a a1 a2 : Option Addr) (n c c1 c2 : Nat) (w : World) :
    Calls Try.prog 22 #[.slice a n c, .int .i64 1, .slice a1 0 c1, .slice a2 0 c2] w fun e w' => e = .returned (.bool true) ∧ w = w' := by
  go_enter Try.func22, Try.ntmps22
  go_wp2_with fail
  go_ret
  exact ⟨rfl, rfl⟩

set_option maxHeartbeats 1600000 in
set_option maxRecDepth 100000 in
theorem holds22_more (a a1 a2 : Option Addr) (K : List (List Int)) (sz : Int) (c c1 c2 s z : Nat) (w : World) (h : Ws w a K) (hne : ∀ i, i < K.length → 0 < (K.getD i []).length) (hK : K.length = s + z) (hb : (jn K).length ≤ 500000) (hn : K.length ≤ 100000) (hs1 : sz ≠ 1) (hsz : sz = z) (hlt : sz < K.length)
    (h1 : Bs w a1 (jn (K.drop s))) (h2 : Is w a2 (lens (K.drop s))) :
    Calls Try.prog 22 #[.slice a K.length c, .int .i64 sz, .slice a1 (jn (K.drop s)).length c1, .slice a2 (lens (K.drop s)).length c2] w fun e w' => e = .returned (.bool true) ∧ Below w.heap.size w w' := by
  obtain ⟨i5, hi5, hz50, hz51, hz52⟩ := info_parts info5
  obtain ⟨i3, hi3, hz30, hz31, hz32⟩ := info_parts info3
  obtain ⟨n, hl⟩ : ∃ n, n = K.length := ⟨_, rfl⟩
  obtain ⟨m1, hm1⟩ : ∃ m1, m1 = (jn (K.drop s)).length := ⟨_, rfl⟩
  obtain ⟨m2, hm2⟩ : ∃ m2, m2 = (lens (K.drop s)).length := ⟨_, rfl⟩
  rw [← hl] at hn hK ⊢
  rw [← hm1, ← hm2]
  rw [← hl] at hlt
  subst hsz
  have H := hide h
  have HL := hide hl
  have HN := hide hne
  have HJ := hide hb
  have HP := hide (And.intro h1 h2)
  have HM1 := hide (And.intro hm1 hm2)
  clear h hl hne hb h1 h2 hm1 hm2
  have hw : IntKind.i64.wrap ((n : Int) - z) = s := by rw [IntKind.wrap_i64]; omega
  have hK1 : n ≤ s + z := by omega
  have hK2 : s + z ≤ n := by omega
  have hq1 : ((z : Int) == 1) = false := by simpa using hs1
  clear hK hs1
  have HD := hide (show (K.drop s).length = z from by rw [List.length_drop, ← HL.out]; omega)
  have HJD := hide (show (jn (K.drop s)).length ≤ 500000 from Nat.le_trans (jn_drop_le K s) HJ.out)
  go_enter Try.func22, Try.ntmps22
  go_wp2_with fail
  go_loopw [10, 11, 12] (fun sv lv iv wr => ∃ (j : Nat), j ≤ z ∧ iv = .int .i64 (s + j : Nat) ∧ Hid (Ow wr w.heap.size sv (jn ((K.drop s).take j)) ∧ Oi wr w.heap.size lv (lens ((K.drop s).take j)) ∧ Below w.heap.size w wr)) (fun _ _ iv _ => n - natOf iv)
  case atStart => exact ⟨0, Nat.zero_le _, by simp, World.ownsRow_nil w _ _ _, World.ownsRow_nil w _ _ _, Below.refl _ _⟩
  case round =>
    obtain ⟨j, hj, rfl, HR⟩ := hrel
    by_cases hlt : j < z
    · obtain hx | ⟨b, off, rfl, hbl, hc⟩ := H.out
      · have := HL.out; rw [hx] at this; simp at this; omega
      obtain ⟨v, hcv, hcl⟩ := hc (s + j) (by rw [← HL.out]; omega)
      have c0 := (HR.out.2.2.cell (p := ⟨b, off + (s + j), none⟩) hbl).trans hcv
      obtain ⟨g, o, c1', hv, hc1, hbs⟩ := (hcl.below HR.out.2.2).some' (HN.out _ (by rw [← HL.out]; omega))
      obtain ⟨m, hm⟩ : ∃ m, m = (K.getD (s + j) []).length := ⟨_, rfl⟩
      rw [← hm] at hv hc1
      subst hv
      have HM := hide hm
      have HBS := hide hbs
      have hword := jn_word (K.drop s) j (by rw [HD.out]; exact hlt)
      rw [getD_drop', ← hm] at hword
      have hbd : (jn ((K.drop s).take j)).length + m + 1 ≤ 500000 := by have := HJD.out; omega
      have hbl2 : (lens ((K.drop s).take j)).length ≤ 100000 := by have := lens_take_len (K.drop s) j; omega
      have HCV := hide hcv
      clear hc hcl hcv hm hbs hword
      have hi : ((s : Int) + (j : Int)) < n := by omega
      have hi0 : (0 : Int) ≤ (s : Int) + (j : Int) := by omega
      have hcast : ((s + j : Nat) : Int) = (s : Int) + (j : Int) := by omega
      have HO1 := hide (show wr.ownsRow w.heap.size 5 1 _ (jn ((K.drop s).take j)).length (u8s (jn ((K.drop s).take j))) from HR.out.1)
      have HC1 := hide (HBS.out.cells)
      have HB1 := hide (show w.heap.size ≤ wr.heap.size from HR.out.2.2.size)
      go_wp2_with (at_builtin; refine wpList_append_own_at _ rfl _ _ 31 rfl w.heap.size 5 i5 (.int .u8 0) 1 1 Try.underlying31 hi5 hz50 hz51 hz52 rfl (by decide) _ (jn ((K.drop s).take j)).length (u8s (jn ((K.drop s).take j))) rfl HO1.out ⟨g, o, none⟩ m c1' (u8s (K.getD (s + j) [])) rfl (by rw [HM.out]; simp [u8s]) HC1.out (u8_one _) (by unfold maxLen; omega) (by omega) HB1.out ?_)
      intro v1 w1 hown hgrow hnil hat
      have HS1 := hide (show Ow w1 w.heap.size v1 (jn ((K.drop s).take j) ++ K.getD (s + j) []) ∧ Oi w1 w.heap.size _ (lens ((K.drop s).take j)) ∧ Below w.heap.size w w1 from ⟨by
        rw [HM.out] at hown
        exact ow_app hown rfl, World.ownsRow.kept HR.out.2.1 hgrow (ne_types2 HR.out.1 HR.out.2.1 (by decide)), below_own HR.out.2.2 HR.out.1 hgrow⟩)
      clear hown hgrow hnil hat HO1 HC1 HB1
      have HBA := hide (show Below w1.heap.size w1 (w1.alloc (.cells #[.int .u8 32] 5)) from (Below.refl _ _).alloc (Nat.le_refl _) _)
      have HO2 := hide (show (w1.alloc (.cells #[.int .u8 32] 5)).ownsRow w.heap.size 5 1 v1 (jn ((K.drop s).take j) ++ K.getD (s + j) [] : List Int).length (u8s (jn ((K.drop s).take j) ++ K.getD (s + j) [])) from HS1.out.1.below HBA.out)
      have HB2 := hide (show w.heap.size ≤ (w1.alloc (.cells #[.int .u8 32] 5)).heap.size from Nat.le_trans HS1.out.2.2.size HBA.out.size)
      have hle : (jn ((K.drop s).take j) ++ K.getD (s + j) [] : List Int).length = (jn ((K.drop s).take j)).length + m := by rw [List.length_append, HM.out]
      have hbd2 : (jn ((K.drop s).take j) ++ K.getD (s + j) [] : List Int).length + 1 ≤ 500000 := by omega
      clear hle
      go_wp2_with (at_builtin; refine wpList_append_own_at _ rfl _ _ 31 rfl w.heap.size 5 i5 (.int .u8 0) 1 1 Try.underlying31 hi5 hz50 hz51 hz52 rfl (by decide) _ _ _ rfl HO2.out ⟨w1.heap.size, 0, none⟩ 1 1 [.int .u8 32] rfl rfl (cell_one_new _ _ _) (by simp [Value.oneCell']) (by unfold maxLen; omega) (by omega) HB2.out ?_)
      intro v2 w2 hown hgrow hnil hat
      have HS2 := hide (show Ow w2 w.heap.size v2 (jn ((K.drop s).take (j + 1))) ∧ Oi w2 w.heap.size _ (lens ((K.drop s).take j)) ∧ Below w.heap.size w w2 from ⟨by
        rw [jn_take_succ _ _ (by rw [HD.out]; exact hlt), getD_drop']
        exact ow1 hown (by simp [List.getD_eq_getElem?_getD]), World.ownsRow.kept (HS1.out.2.1.below HBA.out) hgrow (ne_types2 HO2.out (HS1.out.2.1.below HBA.out) (by decide)), below_own (below_trans HS1.out.2.2 HBA.out) HO2.out hgrow⟩)
      clear hown hgrow hnil hat HO2 HB2 HBA
      have c2' := (HS2.out.2.2.cell (p := ⟨b, off + (s + j), none⟩) hbl).trans HCV.out
      have HBB := hide (show Below w2.heap.size w2 (w2.alloc (.cells #[.int .i64 m] 3)) from (Below.refl _ _).alloc (Nat.le_refl _) _)
      have HO3 := hide (show (w2.alloc (.cells #[.int .i64 m] 3)).ownsRow w.heap.size 3 1 _ (lens ((K.drop s).take j)).length (i64s (lens ((K.drop s).take j))) from HS2.out.2.1.below HBB.out)
      have HB3 := hide (show w.heap.size ≤ (w2.alloc (.cells #[.int .i64 m] 3)).heap.size from Nat.le_trans HS2.out.2.2.size HBB.out.size)
      go_wp2_with (at_builtin; refine wpList_append_own_at _ rfl _ _ 22 rfl w.heap.size 3 i3 (.int .i64 0) 1 8 Try.underlying22 hi3 hz30 hz31 hz32 rfl (by decide) _ _ _ rfl HO3.out ⟨w2.heap.size, 0, none⟩ 1 1 [.int .i64 m] rfl rfl (cell_one_new _ _ _) (by simp [Value.oneCell']) (by unfold maxLen; omega) (by omega) HB3.out ?_)
      intro v3 w3 hown hgrow hnil hat
      have HS3 := hide (show Ow w3 w.heap.size v2 (jn ((K.drop s).take (j + 1))) ∧ Oi w3 w.heap.size v3 (lens ((K.drop s).take (j + 1))) ∧ Below w.heap.size w w3 from ⟨World.ownsRow.kept (HS2.out.1.below HBB.out) hgrow (ne_types2 HO3.out (HS2.out.1.below HBB.out) (by decide)), by
        rw [lens_take_succ _ _ (by rw [HD.out]; exact hlt), getD_drop', ← HM.out]
        exact oi1 hown rfl, below_own (below_trans HS2.out.2.2 HBB.out) HO3.out hgrow⟩)
      clear hown hgrow hnil hat HO3 HB3 HBB
      go_wp2_with fail
      go_roundw
      case rel => exact ⟨j + 1, by omega, by simp; omega, HS3.out⟩
      case measure => simp [natOf]; omega
    · have hq : j = z := by omega
      have hi : (n : Int) ≤ (s : Int) + (j : Int) := by omega
      have hcast : ((s + j : Nat) : Int) = (s : Int) + (j : Int) := by omega
      have HE := hide (show (K.drop s).take j = K.drop s from by rw [hq, ← HD.out, List.take_length])
      have hr := HR.out
      rw [HE.out] at hr
      obtain ⟨a3, c3, rfl, hc3, _, _, hb3⟩ := hr.1.bs
      obtain ⟨a4, c4, rfl, hi4⟩ := hr.2.1.is
      have HB3 := hide hb3
      have HI4 := hide hi4
      have HB := hide hr.2.2
      clear hr hb3 hi4 HR
      go_wp2_with fail
      rw [HM1.out.1]
      refine (same21 a1 a3 (jn (K.drop s)) c1 c3 wr (HP.out.1.below HB.out) HB3.out (by have := HJD.out; omega)).mono ?_
      rintro e w5 ⟨rfl, hb5⟩
      have HB5 := hide hb5
      clear hb5
      rw [← HM1.out.1]
      go_wp2_with fail
      rw [HM1.out.2]
      refine (same29 a2 a4 (lens (K.drop s)) c2 c4 w5 (HP.out.2.below (below_trans HB.out HB5.out)) (HI4.out.below HB5.out) (by rw [lens_len, HD.out]; omega)).mono ?_
      rintro e w6 ⟨rfl, hb6⟩
      have HB6 := hide hb6
      clear hb6
      rw [← HM1.out.2]
      go_wp2_with fail
      go_ret
      exact ⟨rfl, below_trans (below_trans HB.out HB5.out) HB6.out⟩

set_option maxHeartbeats 1600000 in
set_option maxRecDepth 100000 in
theorem holds22_all (a a1 a2 : Option Addr) (K : List (List Int)) (sz : Int) (c c1 c2 s z : Nat) (w : World) (h : Ws w a K) (hne : ∀ i, i < K.length → 0 < (K.getD i []).length) (hK : K.length = s + z) (hb : (jn K).length ≤ 500000) (hn : K.length ≤ 100000) (hs1 : sz ≠ 1) (hsz : (K.length : Int) ≤ sz) (hs0 : s = 0)
    (h1 : Bs w a1 (jn (K.drop s))) (h2 : Is w a2 (lens (K.drop s))) :
    Calls Try.prog 22 #[.slice a K.length c, .int .i64 sz, .slice a1 (jn (K.drop s)).length c1, .slice a2 (lens (K.drop s)).length c2] w fun e w' => e = .returned (.bool true) ∧ Below w.heap.size w w' := by
  obtain ⟨i5, hi5, hz50, hz51, hz52⟩ := info_parts info5
  obtain ⟨i3, hi3, hz30, hz31, hz32⟩ := info_parts info3
  obtain ⟨n, hl⟩ : ∃ n, n = K.length := ⟨_, rfl⟩
  obtain ⟨m1, hm1⟩ : ∃ m1, m1 = (jn (K.drop s)).length := ⟨_, rfl⟩
  obtain ⟨m2, hm2⟩ : ∃ m2, m2 = (lens (K.drop s)).length := ⟨_, rfl⟩
  rw [← hl] at hn hK ⊢
  rw [← hm1, ← hm2]
  rw [← hl] at hsz
  have hz1 : z ≤ n := by omega
  have hz2 : n ≤ z := by omega
  have HS0 := hide hs0
  have hs2 : s ≤ 0 := by omega
  clear hs0
  have H := hide h
  have HL := hide hl
  have HN := hide hne
  have HJ := hide hb
  have HP := hide (And.intro h1 h2)
  have HM1 := hide (And.intro hm1 hm2)
  clear h hl hne hb h1 h2 hm1 hm2
  have hw : IntKind.i64.wrap ((n : Int) - z) = s := by rw [IntKind.wrap_i64]; omega
  have hK1 : n ≤ s + z := by omega
  have hK2 : s + z ≤ n := by omega
  have hq1 : (sz == 1) = false := by simpa using hs1
  clear hK hs1
  have HD := hide (show (K.drop s).length = z from by rw [List.length_drop, ← HL.out]; omega)
  have HJD := hide (show (jn (K.drop s)).length ≤ 500000 from Nat.le_trans (jn_drop_le K s) HJ.out)
  go_enter Try.func22, Try.ntmps22
  go_wp2_with fail
  go_loopw [10, 11, 12] (fun sv lv iv wr => ∃ (j : Nat), j ≤ z ∧ iv = .int .i64 (s + j : Nat) ∧ Hid (Ow wr w.heap.size sv (jn ((K.drop s).take j)) ∧ Oi wr w.heap.size lv (lens ((K.drop s).take j)) ∧ Below w.heap.size w wr)) (fun _ _ iv _ => n - natOf iv)
  case atStart => exact ⟨0, Nat.zero_le _, by rw [HS0.out]; rfl, World.ownsRow_nil w _ _ _, World.ownsRow_nil w _ _ _, Below.refl _ _⟩
  case round =>
    obtain ⟨j, hj, rfl, HR⟩ := hrel
    by_cases hlt : j < z
    · obtain hx | ⟨b, off, rfl, hbl, hc⟩ := H.out
      · have := HL.out; rw [hx] at this; simp at this; omega
      obtain ⟨v, hcv, hcl⟩ := hc (s + j) (by rw [← HL.out]; omega)
      have c0 := (HR.out.2.2.cell (p := ⟨b, off + (s + j), none⟩) hbl).trans hcv
      obtain ⟨g, o, c1', hv, hc1, hbs⟩ := (hcl.below HR.out.2.2).some' (HN.out _ (by rw [← HL.out]; omega))
      obtain ⟨m, hm⟩ : ∃ m, m = (K.getD (s + j) []).length := ⟨_, rfl⟩
      rw [← hm] at hv hc1
      subst hv
      have HM := hide hm
      have HBS := hide hbs
      have hword := jn_word (K.drop s) j (by rw [HD.out]; exact hlt)
      rw [getD_drop', ← hm] at hword
      have hbd : (jn ((K.drop s).take j)).length + m + 1 ≤ 500000 := by have := HJD.out; omega
      have hbl2 : (lens ((K.drop s).take j)).length ≤ 100000 := by have := lens_take_len (K.drop s) j; omega
      have HCV := hide hcv
      clear hc hcl hcv hm hbs hword
      have hi : ((s : Int) + (j : Int)) < n := by omega
      have hi0 : (0 : Int) ≤ (s : Int) + (j : Int) := by omega
      have hcast : ((s + j : Nat) : Int) = (s : Int) + (j : Int) := by omega
      have HO1 := hide (show wr.ownsRow w.heap.size 5 1 _ (jn ((K.drop s).take j)).length (u8s (jn ((K.drop s).take j))) from HR.out.1)
      have HC1 := hide (HBS.out.cells)
      have HB1 := hide (show w.heap.size ≤ wr.heap.size from HR.out.2.2.size)
      go_wp2_with (at_builtin; refine wpList_append_own_at _ rfl _ _ 31 rfl w.heap.size 5 i5 (.int .u8 0) 1 1 Try.underlying31 hi5 hz50 hz51 hz52 rfl (by decide) _ (jn ((K.drop s).take j)).length (u8s (jn ((K.drop s).take j))) rfl HO1.out ⟨g, o, none⟩ m c1' (u8s (K.getD (s + j) [])) rfl (by rw [HM.out]; simp [u8s]) HC1.out (u8_one _) (by unfold maxLen; omega) (by omega) HB1.out ?_)
      intro v1 w1 hown hgrow hnil hat
      have HS1 := hide (show Ow w1 w.heap.size v1 (jn ((K.drop s).take j) ++ K.getD (s + j) []) ∧ Oi w1 w.heap.size _ (lens ((K.drop s).take j)) ∧ Below w.heap.size w w1 from ⟨by
        rw [HM.out] at hown
        exact ow_app hown rfl, World.ownsRow.kept HR.out.2.1 hgrow (ne_types2 HR.out.1 HR.out.2.1 (by decide)), below_own HR.out.2.2 HR.out.1 hgrow⟩)
      clear hown hgrow hnil hat HO1 HC1 HB1
      have HBA := hide (show Below w1.heap.size w1 (w1.alloc (.cells #[.int .u8 32] 5)) from (Below.refl _ _).alloc (Nat.le_refl _) _)
      have HO2 := hide (show (w1.alloc (.cells #[.int .u8 32] 5)).ownsRow w.heap.size 5 1 v1 (jn ((K.drop s).take j) ++ K.getD (s + j) [] : List Int).length (u8s (jn ((K.drop s).take j) ++ K.getD (s + j) [])) from HS1.out.1.below HBA.out)
      have HB2 := hide (show w.heap.size ≤ (w1.alloc (.cells #[.int .u8 32] 5)).heap.size from Nat.le_trans HS1.out.2.2.size HBA.out.size)
      have hle : (jn ((K.drop s).take j) ++ K.getD (s + j) [] : List Int).length = (jn ((K.drop s).take j)).length + m := by rw [List.length_append, HM.out]
      have hbd2 : (jn ((K.drop s).take j) ++ K.getD (s + j) [] : List Int).length + 1 ≤ 500000 := by omega
      clear hle
      go_wp2_with (at_builtin; refine wpList_append_own_at _ rfl _ _ 31 rfl w.heap.size 5 i5 (.int .u8 0) 1 1 Try.underlying31 hi5 hz50 hz51 hz52 rfl (by decide) _ _ _ rfl HO2.out ⟨w1.heap.size, 0, none⟩ 1 1 [.int .u8 32] rfl rfl (cell_one_new _ _ _) (by simp [Value.oneCell']) (by unfold maxLen; omega) (by omega) HB2.out ?_)
      intro v2 w2 hown hgrow hnil hat
      have HS2 := hide (show Ow w2 w.heap.size v2 (jn ((K.drop s).take (j + 1))) ∧ Oi w2 w.heap.size _ (lens ((K.drop s).take j)) ∧ Below w.heap.size w w2 from ⟨by
        rw [jn_take_succ _ _ (by rw [HD.out]; exact hlt), getD_drop']
        exact ow1 hown (by simp [List.getD_eq_getElem?_getD]), World.ownsRow.kept (HS1.out.2.1.below HBA.out) hgrow (ne_types2 HO2.out (HS1.out.2.1.below HBA.out) (by decide)), below_own (below_trans HS1.out.2.2 HBA.out) HO2.out hgrow⟩)
      clear hown hgrow hnil hat HO2 HB2 HBA
      have c2' := (HS2.out.2.2.cell (p := ⟨b, off + (s + j), none⟩) hbl).trans HCV.out
      have HBB := hide (show Below w2.heap.size w2 (w2.alloc (.cells #[.int .i64 m] 3)) from (Below.refl _ _).alloc (Nat.le_refl _) _)
      have HO3 := hide (show (w2.alloc (.cells #[.int .i64 m] 3)).ownsRow w.heap.size 3 1 _ (lens ((K.drop s).take j)).length (i64s (lens ((K.drop s).take j))) from HS2.out.2.1.below HBB.out)
      have HB3 := hide (show w.heap.size ≤ (w2.alloc (.cells #[.int .i64 m] 3)).heap.size from Nat.le_trans HS2.out.2.2.size HBB.out.size)
      go_wp2_with (at_builtin; refine wpList_append_own_at _ rfl _ _ 22 rfl w.heap.size 3 i3 (.int .i64 0) 1 8 Try.underlying22 hi3 hz30 hz31 hz32 rfl (by decide) _ _ _ rfl HO3.out ⟨w2.heap.size, 0, none⟩ 1 1 [.int .i64 m] rfl rfl (cell_one_new _ _ _) (by simp [Value.oneCell']) (by unfold maxLen; omega) (by omega) HB3.out ?_)
      intro v3 w3 hown hgrow hnil hat
      have HS3 := hide (show Ow w3 w.heap.size v2 (jn ((K.drop s).take (j + 1))) ∧ Oi w3 w.heap.size v3 (lens ((K.drop s).take (j + 1))) ∧ Below w.heap.size w w3 from ⟨World.ownsRow.kept (HS2.out.1.below HBB.out) hgrow (ne_types2 HO3.out (HS2.out.1.below HBB.out) (by decide)), by
        rw [lens_take_succ _ _ (by rw [HD.out]; exact hlt), getD_drop', ← HM.out]
        exact oi1 hown rfl, below_own (below_trans HS2.out.2.2 HBB.out) HO3.out hgrow⟩)
      clear hown hgrow hnil hat HO3 HB3 HBB
      go_wp2_with fail
      go_roundw
      case rel => exact ⟨j + 1, by omega, by simp; omega, HS3.out⟩
      case measure => simp [natOf]; omega
    · have hq : j = z := by omega
      have hi : (n : Int) ≤ (s : Int) + (j : Int) := by omega
      have hcast : ((s + j : Nat) : Int) = (s : Int) + (j : Int) := by omega
      have HE := hide (show (K.drop s).take j = K.drop s from by rw [hq, ← HD.out, List.take_length])
      have hr := HR.out
      rw [HE.out] at hr
      obtain ⟨a3, c3, rfl, hc3, _, _, hb3⟩ := hr.1.bs
      obtain ⟨a4, c4, rfl, hi4⟩ := hr.2.1.is
      have HB3 := hide hb3
      have HI4 := hide hi4
      have HB := hide hr.2.2
      clear hr hb3 hi4 HR
      go_wp2_with fail
      rw [HM1.out.1]
      refine (same21 a1 a3 (jn (K.drop s)) c1 c3 wr (HP.out.1.below HB.out) HB3.out (by have := HJD.out; omega)).mono ?_
      rintro e w5 ⟨rfl, hb5⟩
      have HB5 := hide hb5
      clear hb5
      rw [← HM1.out.1]
      go_wp2_with fail
      rw [HM1.out.2]
      refine (same29 a2 a4 (lens (K.drop s)) c2 c4 w5 (HP.out.2.below (below_trans HB.out HB5.out)) (HI4.out.below HB5.out) (by rw [lens_len, HD.out]; omega)).mono ?_
      rintro e w6 ⟨rfl, hb6⟩
      have HB6 := hide hb6
      clear hb6
      rw [← HM1.out.2]
      go_wp2_with fail
      go_ret
      exact ⟨rfl, below_trans (below_trans HB.out HB5.out) HB6.out⟩

end Go.Proofs.Qxb6612898a.EW
