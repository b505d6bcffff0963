/-
  WALKS (EndWord): addWord, where the shingle is full.
-/
import Derived.Test.Qxb6612898aEwWordP
namespace Go.Proofs.Qxb6612898a.EW
open Go.RowKit

set_option maxHeartbeats 4000000 in
set_option maxRecDepth 100000 in
theorem word31c (B T : Nat) (M : Option Nat) (V : Nat → Nat) (L : Nat → Int) (sz : Int) (rn : Value) (sp : Int) (sh ln : Value) (gw cw : Nat) (wl x : List Int) (r : List (List Int)) (w0 w : World)
    (hal : Al w0 w B T M V L sz (.slice (some ⟨gw, 0, none⟩) wl.length cw) rn sp sh ln (.slice (some ⟨gw, 0, none⟩) wl.length cw) sh ln wl (jn (x :: r)) (lens (x :: r)))
    (hsz : sz = (x :: r).length) (hr : 0 < r.length) (hwl : 0 < wl.length) (hb : (jn (x :: r)).length + wl.length ≤ 500000) (hJ : r.length ≤ 100000) :
    Calls Try.prog 31 #[.pointer (some ⟨T, 0, none⟩), .slice (some ⟨gw, 0, none⟩) wl.length cw] w fun e w' => e = .returned (.tuple #[]) ∧ ∃ V' L' sh' ln', Al w0 w' B T M V' L' sz (.slice (some ⟨gw, 0, none⟩) wl.length cw) rn sp sh' ln' (.slice (some ⟨gw, 0, none⟩) wl.length cw) sh' ln' wl (jn (r ++ [wl])) (lens (r ++ [wl])) ∧ Feat M (xx (jn r ++ wl)) V L V' L' := by
  obtain ⟨i5, hi5, hz50, hz51, hz52⟩ := info_parts info5
  obtain ⟨i3, hi3, hz30, hz31, hz32⟩ := info_parts info3
  have HS := hide hal
  obtain ⟨g5, c5, rfl, hl5, hg5, hm5⟩ := hal.os.addr (by simp [jn]; omega)
  obtain ⟨g3, c3, rfl, hl3, hg3, hm3⟩ := hal.ol.addr (by simp [lens])
  obtain ⟨n5, hn5⟩ : ∃ n5, n5 = (jn (x :: r)).length := ⟨_, rfl⟩
  obtain ⟨k, hk⟩ : ∃ k, k = x.length := ⟨_, rfl⟩
  obtain ⟨n3, hn3⟩ : ∃ n3, n3 = r.length := ⟨_, rfl⟩
  have hkn : k + 1 + n3 ≤ n5 := by
    rw [hn5, jn_len, hk, hn3]; have := jn_ge r; omega
  rw [← hn5] at hl5 HS hb
  have e3 : (lens (x :: r)).length = n3 + 1 := by simp [lens, hn3]
  rw [e3] at hl3 HS
  rw [List.length_cons, ← hn3] at hsz
  rw [← hn3] at hr hJ
  have X5 := hide hn5
  have X3 := hide hn3
  have XK := hide hk
  clear hn5 hn3 hk e3 hal
  subst hsz
  have q65 := c65 HS.out.st
  have q70 := c70 HS.out.st
  have hne : (((n3 + 1 : Nat) : Int) == 1) = false := by simp; omega
  have q30 : w.cell? ⟨g3, 0, none⟩ = some (.int .i64 k) := by
    rw [HS.out.ol.cell (i := 0) (by simp [lens])]
    simp [lens, XK.out]
  have hcI : (0 : Int) < c3 := by omega
  have q69 := c69 HS.out.st
  have f69 := HS.out.frz 69
  have NE := hide (show T ≠ g5 from fun e => ne_types HS.out.st.row HS.out.os (by decide) (by rw [e]; rfl))
  obtain ⟨m5, hm5'⟩ : ∃ m5, m5 = n5 - (k + 1) := ⟨_, rfl⟩
  have hmI : (m5 : Int) ≤ c5 := by omega
  have HM := hide hm5'
  clear hm5'
  have hk1 : (k : Int) + 1 ≤ n5 := by omega
  have hk0 : (0 : Int) ≤ (k : Int) + 1 := by omega
  have hk2 : (k : Int) + 1 ≤ c5 := by omega
  have hk3 : (n5 : Int) ≤ c5 := by omega
  have fk : (c5 = k + 1) = False := by simp; omega
  have fc0 : (c5 = 0) = False := by simp; omega
  have hwk : IntKind.i64.wrap ((k : Int) + 1) = (k : Int) + 1 := by rw [IntKind.wrap_i64]; omega
  have hO := hide (show w.drew.drew.ownsRow B 5 1 (.slice (some ⟨g5, 0, none⟩) n5 c5) n5 (u8s (jn (x :: r))) from by
    have := HS.out.os
    unfold Ow at this
    rw [← X5.out] at this
    exact this)
  go_enter Try.func31, Try.ntmps31
  go_upto_region 2 with fail
  go_region
  go_upto_region 4 with fail
  go_cut [30] (fun _ wx => Hid (Al w0 wx B T M V L ((n3 + 1 : Nat) : Int) (.slice (some ⟨gw, 0, none⟩) wl.length cw) rn sp (.slice (some ⟨g5, 0, none⟩) m5 c5) (.slice (some ⟨g3, 0, none⟩) (n3 + 1) c3) (.slice (some ⟨gw, 0, none⟩) wl.length cw) (.slice (some ⟨g5, 0, none⟩) m5 c5) (.slice (some ⟨g3, 0, none⟩) (n3 + 1) c3) wl (jn r) (lens (x :: r))))
  case first =>
    go_region_law (refine step_copy_drop rfl (.tmp 38) (.tmp 44) 31 rfl 5 Try.underlying31 size5 B g5 n5 c5 (k + 1) m5 (c5 - (k + 1)) (u8s (jn (x :: r))) hO.out (by omega) HM.out (by simp [Act.eval, Act.put]) (by simp [Act.eval, Act.put]; exact HM.out.symm) (u8_one _) T _ 69 q69 f69 NE.out ?_; intro w2 HO2 HG2 q69' f69')
    all_goals
      go_wp2_with fail
      go_meet
      exact (((HS.out.below (by repeat (first | exact Below.refl _ _ | apply Below.drew))).app HG2.out (ow_cut HO2.out HM.out X5.out XK.out) (.inl rfl))).set69
  have HS2 := hcut
  clear hcut
  clear q65 q70 q30 q69 f69 NE hO hk0 hk1 hk2 hk3 fk fc0 hwk
  have q70 := c70 HS2.out.st
  have f70 := HS2.out.frz 70
  have NE := hide (show T ≠ g3 from fun e => ne_types HS2.out.st.row HS2.out.ol (by decide) (by rw [e]; rfl))
  have hk2 : (1 : Int) ≤ c3 := by omega
  have hk3 : (n3 : Int) + 1 ≤ c3 := by omega
  have hk4 : (1 : Int) ≤ (n3 : Int) + 1 := by omega
  have hk5 : (n3 : Int) ≤ c3 := by omega
  have fk : (c3 = 1) = False := by simp; omega
  have fc0 : (c3 = 0) = False := by simp; omega
  go_upto_region 5 with fail
  generalize wc = W at HS2 q70 f70 ⊢
  have hO := hide (show W.drew.ownsRow B 3 1 (.slice (some ⟨g3, 0, none⟩) (n3 + 1) c3) (n3 + 1) (i64s (lens (x :: r))) from by
    have := HS2.out.ol
    unfold Oi at this
    rw [lens_len, List.length_cons, ← X3.out] at this
    exact this)
  go_cut [49] (fun _ wx => Hid (Al w0 wx B T M V L ((n3 + 1 : Nat) : Int) (.slice (some ⟨gw, 0, none⟩) wl.length cw) rn sp (.slice (some ⟨g5, 0, none⟩) m5 c5) (.slice (some ⟨g3, 0, none⟩) n3 c3) (.slice (some ⟨gw, 0, none⟩) wl.length cw) (.slice (some ⟨g5, 0, none⟩) m5 c5) (.slice (some ⟨g3, 0, none⟩) n3 c3) wl (jn r) (lens r)))
  case first =>
    go_region_law (refine step_copy_drop rfl (.tmp 57) (.tmp 62) 22 rfl 3 Try.underlying22 size3 B g3 (n3 + 1) c3 1 n3 (c3 - 1) (i64s (lens (x :: r))) hO.out (by omega) (by omega) (by simp [Act.eval, Act.put]) (by simp [Act.eval, Act.put]) (i64_one _) T _ 70 q70 f70 NE.out ?_; intro w2 HO2 HG2 q70' f70')
    all_goals
      go_wp2_with fail
      go_meet
      exact (((HS2.out.below (by repeat (first | exact Below.refl _ _ | apply Below.drew))).appl HG2.out (oi_cut HO2.out X3.out))).set70
  have HS3 := hcut
  clear hcut HS HS2 q70 f70 NE hO hk2 hk3 hk4 hk5 fk fc0 hmI hne hcI
  have HML := hide (show m5 = (jn r).length from by rw [HM.out, X5.out, jn_len, XK.out]; omega)
  have q69 := c69 HS3.out.st
  have HO3 := hide (show wc.ownsRow B 5 1 (.slice (some ⟨g5, 0, none⟩) m5 c5) m5 (u8s (jn r)) from by
    have := HS3.out.os
    unfold Ow at this
    rw [← HML.out] at this
    exact this)
  have HC3 := hide (show ∀ j u, (u8s wl)[j]? = some u → wc.cell? ((⟨gw, 0, none⟩ : Addr).add j) = some u from World.ownsRow.cells HS3.out.ow rfl)
  have HB3 := hide HS3.out.hB
  have hm5b : m5 + wl.length ≤ 500000 := by have := HM.out; omega
  go_wp2_with (at_builtin; refine wpList_append_own_at _ rfl _ _ 31 rfl B 5 i5 (.int .u8 0) 1 1 Try.underlying31 hi5 hz50 hz51 hz52 rfl (by decide) _ m5 (u8s (jn r)) rfl HO3.out ⟨gw, 0, none⟩ wl.length cw (u8s wl) rfl (by simp [u8s]) HC3.out (u8_one _) (by unfold maxLen; omega) (by omega) HB3.out ?_)
  intro v1 w1 hown hgrow hnil hat
  have HS4 := hide (HS3.out.app hgrow (ow_app hown HML.out) hat)
  obtain ⟨g6, c6, n6, rfl, hn6, hc6⟩ := HS4.out.os.adr (by simp; omega)
  have X6 := hide (show n6 = (jn r).length + wl.length from by rw [hn6]; simp)
  clear hown hgrow hnil hat hn6 HS3 HO3 HC3 HB3 q69
  have HS5 := hide (HS4.out.below (w1 := w1.alloc (.cells #[.int .u8 32] 5)) ((Below.refl _ _).alloc (Nat.le_refl _) _))
  have HO5 := hide (show (w1.alloc (.cells #[.int .u8 32] 5)).ownsRow B 5 1 (.slice (some ⟨g6, 0, none⟩) n6 c6) n6 (u8s (jn r ++ wl)) from by
    have := HS5.out.os
    unfold Ow at this
    rw [List.length_append, ← X6.out] at this
    exact this)
  have HB5 := hide HS5.out.hB
  have hn6 : n6 ≤ 600000 := by have := X6.out; have := HML.out; omega
  go_wp2_with (at_builtin; refine wpList_append_own_at _ rfl _ _ 31 rfl B 5 i5 (.int .u8 0) 1 1 Try.underlying31 hi5 hz50 hz51 hz52 rfl (by decide) _ n6 (u8s (jn r ++ wl)) rfl HO5.out ⟨w1.heap.size, 0, none⟩ 1 1 [.int .u8 32] rfl rfl (cell_one_new _ _ _) (by simp [Value.oneCell']) (by unfold maxLen; omega) (by omega) HB5.out ?_)
  intro v2 w2 hown hgrow hnil hat
  have HS6 := hide (HS5.out.app (sl' := jn r ++ wl ++ [32]) hgrow (ow_app1 hown X6.out) (by simpa using hat))
  obtain ⟨g7, c7, n7, rfl, hn7, hc7⟩ := HS6.out.os.adr (by simp; omega)
  have X7 := hide hn7
  clear hown hgrow hnil hat hn7 HS4 HS5 HO5 HB5
  have q69 := c69 HS6.out.st
  have f69 := HS6.out.frz 69
  have HS7 := hide HS6.out.set69
  have q70 := c70 HS7.out.st
  have HS8 := hide (HS7.out.below (w1 := (w2.setCell ⟨T, 69, none⟩ (.slice (some ⟨g7, 0, none⟩) n7 c7)).alloc (.cells #[.int .i64 wl.length] 3)) ((Below.refl _ _).alloc (Nat.le_refl _) _))
  have HO8 := hide (show ((w2.setCell ⟨T, 69, none⟩ (.slice (some ⟨g7, 0, none⟩) n7 c7)).alloc (.cells #[.int .i64 wl.length] 3)).ownsRow B 3 1 (.slice (some ⟨g3, 0, none⟩) n3 c3) n3 (i64s (lens r)) from by
    have := HS8.out.ol
    unfold Oi at this
    rw [lens_len, ← X3.out] at this
    exact this)
  have HB8 := hide HS8.out.hB
  have HC8 := hide (show ∀ j u, [Value.int .i64 wl.length][j]? = some u → ((w2.setCell ⟨T, 69, none⟩ (.slice (some ⟨g7, 0, none⟩) n7 c7)).alloc (.cells #[.int .i64 wl.length] 3)).cell? ((⟨w2.heap.size, 0, none⟩ : Addr).add j) = some u from by
    have h := cell_one_new (w2.setCell ⟨T, 69, none⟩ (.slice (some ⟨g7, 0, none⟩) n7 c7)) (.int .i64 wl.length) 3
    rw [show (w2.setCell ⟨T, 69, none⟩ (.slice (some ⟨g7, 0, none⟩) n7 c7)).heap.size = w2.heap.size by simp [World.setCell]] at h
    exact h)
  go_wp2_with (at_builtin; refine wpList_append_own_at _ rfl _ _ 22 rfl B 3 i3 (.int .i64 0) 1 8 Try.underlying22 hi3 hz30 hz31 hz32 rfl (by decide) _ n3 (i64s (lens r)) rfl HO8.out ⟨w2.heap.size, 0, none⟩ 1 1 [.int .i64 wl.length] rfl rfl HC8.out (by simp [Value.oneCell']) (by unfold maxLen; omega) (by omega) HB8.out ?_)
  intro v3 w3 hown hgrow hnil hat
  have HS9 := hide (HS8.out.appl (ll' := lens r ++ [(wl.length : Int)]) hgrow (oi_app1 hown X3.out))
  obtain ⟨g9, c9, n9, rfl, hn9, hc9⟩ := HS9.out.ol.adr (by simp)
  obtain rfl : n9 = n3 + 1 := by rw [hn9, List.length_append, lens_len, ← X3.out]; rfl
  clear hown hgrow hnil hat hn9 HS6 HS7 HS8 HO8 HB8 HC8 q69 f69 q70
  have q70 := c70 HS9.out.st
  have f70 := HS9.out.frz 70
  have HSA := hide HS9.out.set70
  have q70' := c70 HSA.out.st
  have q65' := c65 HSA.out.st
  go_upto_region 8 with fail
  go_region
  go_wp2_with fail
  have HSB := hide (HSA.out.below (w1 := World.drew _) (by exact Below.drew (Below.refl _ _)))
  refine (shingle39 B T M V L _ _ rn sp _ _ (jn r ++ wl) _ HSB.out.st HSB.out.os (by rw [List.length_append]; have := HML.out; omega)).mono ?_
  rintro e w4 ⟨rfl, V', L', hs, hf, hfr⟩
  have HSC := hide (HSB.out.feat hs hfr)
  have HF := hide hf
  clear hs hf hfr HSB HSA HS9 q70 f70 q70' q65'
  go_wp2_with fail
  go_end0
  rw [jn_append, lens_append]
  exact ⟨rfl, V', L', _, _, HSC.out, HF.out⟩

end Go.Proofs.Qxb6612898a.EW
