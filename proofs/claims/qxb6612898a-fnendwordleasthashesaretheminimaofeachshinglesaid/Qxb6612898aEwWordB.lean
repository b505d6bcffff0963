/-
  WALKS (EndWord): addWord, where it is not.
-/
import Derived.Test.Qxb6612898aEwWordP
namespace Go.Proofs.Qxb6612898a.EW
open Go.RowKit

set_option maxHeartbeats 4000000 in
set_option maxRecDepth 100000 in
theorem word31a (B T : Nat) (M : Option Nat) (V : Nat → Nat) (L : Nat → Int) (rn : Value) (sp : Int) (sh ln : Value) (gw cw : Nat) (wl sl ll : List Int) (w0 w : World)
    (hal : Al w0 w B T M V L 1 (.slice (some ⟨gw, 0, none⟩) wl.length cw) rn sp sh ln (.slice (some ⟨gw, 0, none⟩) wl.length cw) sh ln wl sl ll)
    (hb : wl.length ≤ 500000) (hc : wl.length ≤ cw) :
    Calls Try.prog 31 #[.pointer (some ⟨T, 0, none⟩), .slice (some ⟨gw, 0, none⟩) wl.length cw] w fun e w' => e = .returned (.tuple #[]) ∧ ∃ V' L', Al w0 w' B T M V' L' 1 (.slice (some ⟨gw, 0, none⟩) wl.length cw) rn sp sh ln (.slice (some ⟨gw, 0, none⟩) wl.length cw) sh ln wl sl ll ∧ Feat M (xx wl) V L V' L' := by
  have HS := hide hal
  have q65 := c65 hal.st
  clear hal
  have HB := hide (show Bs w (some ⟨gw, 0, none⟩) wl from by
    obtain ⟨a, c, hv, _, _, _, hbs⟩ := HS.out.ow.bs
    simp only [Value.slice.injEq] at hv
    rw [hv.1]; exact hbs)
  go_enter Try.func31, Try.ntmps31
  go_wp2_with fail
  refine (feat38 B T M V L _ _ rn sp _ _ (some ⟨gw, 0, none⟩) wl wl.length cw w HS.out.st rfl HB.out (by omega) hc).mono ?_
  rintro e w1 ⟨rfl, V', L', hs, hf, hfr⟩
  have HSC := hide (HS.out.feat hs hfr)
  have HF := hide hf
  clear hs hf hfr
  go_wp2_with fail
  refine bodyPost_ret (results_none rfl _ _ _) rfl ?_
  exact ⟨rfl, V', L', HSC.out, HF.out⟩

set_option maxHeartbeats 4000000 in
set_option maxRecDepth 100000 in
theorem word31b (B T : Nat) (M : Option Nat) (V : Nat → Nat) (L : Nat → Int) (sz : Int) (rn : Value) (sp : Int) (sh ln : Value) (gw cw : Nat) (wl : List Int) (r : List (List Int)) (w0 w : World)
    (hal : Al w0 w B T M V L sz (.slice (some ⟨gw, 0, none⟩) wl.length cw) rn sp sh ln (.slice (some ⟨gw, 0, none⟩) wl.length cw) sh ln wl (jn r) (lens r))
    (hsz : sz = r.length + 1) (hs2 : sz ≠ 1) (hwl : 0 < wl.length) (hb : (jn r).length + wl.length ≤ 500000) (hJ : r.length ≤ 100000) :
    Calls Try.prog 31 #[.pointer (some ⟨T, 0, none⟩), .slice (some ⟨gw, 0, none⟩) wl.length cw] w fun e w' => e = .returned (.tuple #[]) ∧ ∃ V' L' sh' ln', Al w0 w' B T M V' L' sz (.slice (some ⟨gw, 0, none⟩) wl.length cw) rn sp sh' ln' (.slice (some ⟨gw, 0, none⟩) wl.length cw) sh' ln' wl (jn (r ++ [wl])) (lens (r ++ [wl])) ∧ Feat M (xx (jn r ++ wl)) V L V' L' := by
  obtain ⟨i5, hi5, hz50, hz51, hz52⟩ := info_parts info5
  obtain ⟨i3, hi3, hz30, hz31, hz32⟩ := info_parts info3
  have HS3 := hide hal
  obtain ⟨a5, c5, rfl⟩ := hal.os.shp
  obtain ⟨a3, c3, rfl⟩ := hal.ol.shp
  obtain ⟨m5, hm5⟩ : ∃ m5, m5 = (jn r).length := ⟨_, rfl⟩
  obtain ⟨n3, hn3⟩ : ∃ n3, n3 = r.length := ⟨_, rfl⟩
  rw [lens_len, ← hn3, ← hm5] at HS3
  rw [← hm5] at hb
  rw [← hn3] at hsz
  have hne : (sz == 1) = false := by simpa using hs2
  have hne2 : ((n3 : Int) == sz) = false := by simp; omega
  have hne3 : (((n3 : Int) + 1) == sz) = true := by simp; omega
  clear hsz hs2
  rw [← hn3] at hJ
  have HML := hide hm5
  have X3 := hide hn3
  clear hm5 hn3 hal
  have q65 := c65 HS3.out.st
  have q70 := c70 HS3.out.st
  go_enter Try.func31, Try.ntmps31
  go_upto_region 2 with fail
  go_region
  replace HS3 := hide (HS3.out.below (w1 := World.drew w) (by exact Below.drew (Below.refl _ _)))
  clear q65 q70
  obtain ⟨wc, hwc⟩ : ∃ wc, wc = w.drew := ⟨_, rfl⟩
  rw [← hwc] at HS3 ⊢
  clear hwc
  have q69 := c69 HS3.out.st
  have HO3 := hide (show wc.ownsRow B 5 1 (.slice a5 m5 c5) m5 (u8s (jn r)) from by
    have := HS3.out.os
    unfold Ow at this
    rw [← HML.out] at this
    exact this)
  have HC3 := hide (show ∀ j u, (u8s wl)[j]? = some u → wc.cell? ((⟨gw, 0, none⟩ : Addr).add j) = some u from World.ownsRow.cells HS3.out.ow rfl)
  have HB3 := hide HS3.out.hB
  have hm5b : m5 + wl.length ≤ 500000 := hb
  go_wp2_with (at_builtin; refine wpList_append_own_at _ rfl _ _ 31 rfl B 5 i5 (.int .u8 0) 1 1 Try.underlying31 hi5 hz50 hz51 hz52 rfl (by decide) _ m5 (u8s (jn r)) rfl HO3.out ⟨gw, 0, none⟩ wl.length cw (u8s wl) rfl (by simp [u8s]) HC3.out (u8_one _) (by unfold maxLen; omega) (by omega) HB3.out ?_)
  intro v1 w1 hown hgrow hnil hat
  have HS4 := hide (HS3.out.app hgrow (ow_app hown HML.out) hat)
  obtain ⟨g6, c6, n6, rfl, hn6, hc6⟩ := HS4.out.os.adr (by simp; omega)
  have X6 := hide (show n6 = (jn r).length + wl.length from by rw [hn6]; simp)
  clear hown hgrow hnil hat hn6 HS3 HO3 HC3 HB3 q69
  have HS5 := hide (HS4.out.below (w1 := w1.alloc (.cells #[.int .u8 32] 5)) ((Below.refl _ _).alloc (Nat.le_refl _) _))
  have HO5 := hide (show (w1.alloc (.cells #[.int .u8 32] 5)).ownsRow B 5 1 (.slice (some ⟨g6, 0, none⟩) n6 c6) n6 (u8s (jn r ++ wl)) from by
    have := HS5.out.os
    unfold Ow at this
    rw [List.length_append, ← X6.out] at this
    exact this)
  have HB5 := hide HS5.out.hB
  have hn6 : n6 ≤ 600000 := by have := X6.out; have := HML.out; omega
  go_wp2_with (at_builtin; refine wpList_append_own_at _ rfl _ _ 31 rfl B 5 i5 (.int .u8 0) 1 1 Try.underlying31 hi5 hz50 hz51 hz52 rfl (by decide) _ n6 (u8s (jn r ++ wl)) rfl HO5.out ⟨w1.heap.size, 0, none⟩ 1 1 [.int .u8 32] rfl rfl (cell_one_new _ _ _) (by simp [Value.oneCell']) (by unfold maxLen; omega) (by omega) HB5.out ?_)
  intro v2 w2 hown hgrow hnil hat
  have HS6 := hide (HS5.out.app (sl' := jn r ++ wl ++ [32]) hgrow (ow_app1 hown X6.out) (by simpa using hat))
  obtain ⟨g7, c7, n7, rfl, hn7, hc7⟩ := HS6.out.os.adr (by simp; omega)
  have X7 := hide hn7
  clear hown hgrow hnil hat hn7 HS4 HS5 HO5 HB5
  have q69 := c69 HS6.out.st
  have f69 := HS6.out.frz 69
  have HS7 := hide HS6.out.set69
  have q70 := c70 HS7.out.st
  have HS8 := hide (HS7.out.below (w1 := (w2.setCell ⟨T, 69, none⟩ (.slice (some ⟨g7, 0, none⟩) n7 c7)).alloc (.cells #[.int .i64 wl.length] 3)) ((Below.refl _ _).alloc (Nat.le_refl _) _))
  have HO8 := hide (show ((w2.setCell ⟨T, 69, none⟩ (.slice (some ⟨g7, 0, none⟩) n7 c7)).alloc (.cells #[.int .i64 wl.length] 3)).ownsRow B 3 1 (.slice a3 n3 c3) n3 (i64s (lens r)) from by
    have := HS8.out.ol
    unfold Oi at this
    rw [lens_len, ← X3.out] at this
    exact this)
  have HB8 := hide HS8.out.hB
  have HC8 := hide (show ∀ j u, [Value.int .i64 wl.length][j]? = some u → ((w2.setCell ⟨T, 69, none⟩ (.slice (some ⟨g7, 0, none⟩) n7 c7)).alloc (.cells #[.int .i64 wl.length] 3)).cell? ((⟨w2.heap.size, 0, none⟩ : Addr).add j) = some u from by
    have h := cell_one_new (w2.setCell ⟨T, 69, none⟩ (.slice (some ⟨g7, 0, none⟩) n7 c7)) (.int .i64 wl.length) 3
    rw [show (w2.setCell ⟨T, 69, none⟩ (.slice (some ⟨g7, 0, none⟩) n7 c7)).heap.size = w2.heap.size by simp [World.setCell]] at h
    exact h)
  go_wp2_with (at_builtin; refine wpList_append_own_at _ rfl _ _ 22 rfl B 3 i3 (.int .i64 0) 1 8 Try.underlying22 hi3 hz30 hz31 hz32 rfl (by decide) _ n3 (i64s (lens r)) rfl HO8.out ⟨w2.heap.size, 0, none⟩ 1 1 [.int .i64 wl.length] rfl rfl HC8.out (by simp [Value.oneCell']) (by unfold maxLen; omega) (by omega) HB8.out ?_)
  intro v3 w3 hown hgrow hnil hat
  have HS9 := hide (HS8.out.appl (ll' := lens r ++ [(wl.length : Int)]) hgrow (oi_app1 hown X3.out))
  obtain ⟨g9, c9, n9, rfl, hn9, hc9⟩ := HS9.out.ol.adr (by simp)
  obtain rfl : n9 = n3 + 1 := by rw [hn9, List.length_append, lens_len, ← X3.out]; rfl
  clear hown hgrow hnil hat hn9 HS6 HS7 HS8 HO8 HB8 HC8 q69 f69 q70
  have q70 := c70 HS9.out.st
  have f70 := HS9.out.frz 70
  have HSA := hide HS9.out.set70
  have q70' := c70 HSA.out.st
  have q65' := c65 HSA.out.st
  go_upto_region 8 with fail
  go_region
  go_wp2_with fail
  have HSB := hide (HSA.out.below (w1 := World.drew _) (by exact Below.drew (Below.refl _ _)))
  refine (shingle39 B T M V L _ _ rn sp _ _ (jn r ++ wl) _ HSB.out.st HSB.out.os (by rw [List.length_append]; have := HML.out; omega)).mono ?_
  rintro e w4 ⟨rfl, V', L', hs, hf, hfr⟩
  have HSC := hide (HSB.out.feat hs hfr)
  have HF := hide hf
  clear hs hf hfr HSB HSA HS9 q70 f70 q70' q65'
  go_wp2_with fail
  go_end0
  rw [jn_append, lens_append]
  exact ⟨rfl, V', L', _, _, HSC.out, HF.out⟩

set_option maxHeartbeats 4000000 in
set_option maxRecDepth 100000 in
theorem word31d (B T : Nat) (M : Option Nat) (V : Nat → Nat) (L : Nat → Int) (sz : Int) (rn : Value) (sp : Int) (sh ln : Value) (gw cw : Nat) (wl : List Int) (r : List (List Int)) (w0 w : World)
    (hal : Al w0 w B T M V L sz (.slice (some ⟨gw, 0, none⟩) wl.length cw) rn sp sh ln (.slice (some ⟨gw, 0, none⟩) wl.length cw) sh ln wl (jn r) (lens r))
    (hsz : sz ≠ r.length + 1) (hs2 : sz ≠ 1) (hs3 : sz ≠ r.length) (hwl : 0 < wl.length) (hb : (jn r).length + wl.length ≤ 500000) (hJ : r.length ≤ 100000) :
    Calls Try.prog 31 #[.pointer (some ⟨T, 0, none⟩), .slice (some ⟨gw, 0, none⟩) wl.length cw] w fun e w' => e = .returned (.tuple #[]) ∧ ∃ V' L' sh' ln', Al w0 w' B T M V' L' sz (.slice (some ⟨gw, 0, none⟩) wl.length cw) rn sp sh' ln' (.slice (some ⟨gw, 0, none⟩) wl.length cw) sh' ln' wl (jn (r ++ [wl])) (lens (r ++ [wl])) ∧ V' = V ∧ L' = L := by
  obtain ⟨i5, hi5, hz50, hz51, hz52⟩ := info_parts info5
  obtain ⟨i3, hi3, hz30, hz31, hz32⟩ := info_parts info3
  have HS3 := hide hal
  obtain ⟨a5, c5, rfl⟩ := hal.os.shp
  obtain ⟨a3, c3, rfl⟩ := hal.ol.shp
  obtain ⟨m5, hm5⟩ : ∃ m5, m5 = (jn r).length := ⟨_, rfl⟩
  obtain ⟨n3, hn3⟩ : ∃ n3, n3 = r.length := ⟨_, rfl⟩
  rw [lens_len, ← hn3, ← hm5] at HS3
  rw [← hm5] at hb
  rw [← hn3] at hsz hs3
  have hne : (sz == 1) = false := by simpa using hs2
  have hne2 : ((n3 : Int) == sz) = false := by simp; omega
  have hne3 : (((n3 : Int) + 1) == sz) = false := by simp; omega
  clear hsz hs2 hs3
  rw [← hn3] at hJ
  have HML := hide hm5
  have X3 := hide hn3
  clear hm5 hn3 hal
  have q65 := c65 HS3.out.st
  have q70 := c70 HS3.out.st
  go_enter Try.func31, Try.ntmps31
  go_upto_region 2 with fail
  go_region
  replace HS3 := hide (HS3.out.below (w1 := World.drew w) (by exact Below.drew (Below.refl _ _)))
  clear q65 q70
  obtain ⟨wc, hwc⟩ : ∃ wc, wc = w.drew := ⟨_, rfl⟩
  rw [← hwc] at HS3 ⊢
  clear hwc
  have q69 := c69 HS3.out.st
  have HO3 := hide (show wc.ownsRow B 5 1 (.slice a5 m5 c5) m5 (u8s (jn r)) from by
    have := HS3.out.os
    unfold Ow at this
    rw [← HML.out] at this
    exact this)
  have HC3 := hide (show ∀ j u, (u8s wl)[j]? = some u → wc.cell? ((⟨gw, 0, none⟩ : Addr).add j) = some u from World.ownsRow.cells HS3.out.ow rfl)
  have HB3 := hide HS3.out.hB
  have hm5b : m5 + wl.length ≤ 500000 := hb
  go_wp2_with (at_builtin; refine wpList_append_own_at _ rfl _ _ 31 rfl B 5 i5 (.int .u8 0) 1 1 Try.underlying31 hi5 hz50 hz51 hz52 rfl (by decide) _ m5 (u8s (jn r)) rfl HO3.out ⟨gw, 0, none⟩ wl.length cw (u8s wl) rfl (by simp [u8s]) HC3.out (u8_one _) (by unfold maxLen; omega) (by omega) HB3.out ?_)
  intro v1 w1 hown hgrow hnil hat
  have HS4 := hide (HS3.out.app hgrow (ow_app hown HML.out) hat)
  obtain ⟨g6, c6, n6, rfl, hn6, hc6⟩ := HS4.out.os.adr (by simp; omega)
  have X6 := hide (show n6 = (jn r).length + wl.length from by rw [hn6]; simp)
  clear hown hgrow hnil hat hn6 HS3 HO3 HC3 HB3 q69
  have HS5 := hide (HS4.out.below (w1 := w1.alloc (.cells #[.int .u8 32] 5)) ((Below.refl _ _).alloc (Nat.le_refl _) _))
  have HO5 := hide (show (w1.alloc (.cells #[.int .u8 32] 5)).ownsRow B 5 1 (.slice (some ⟨g6, 0, none⟩) n6 c6) n6 (u8s (jn r ++ wl)) from by
    have := HS5.out.os
    unfold Ow at this
    rw [List.length_append, ← X6.out] at this
    exact this)
  have HB5 := hide HS5.out.hB
  have hn6 : n6 ≤ 600000 := by have := X6.out; have := HML.out; omega
  go_wp2_with (at_builtin; refine wpList_append_own_at _ rfl _ _ 31 rfl B 5 i5 (.int .u8 0) 1 1 Try.underlying31 hi5 hz50 hz51 hz52 rfl (by decide) _ n6 (u8s (jn r ++ wl)) rfl HO5.out ⟨w1.heap.size, 0, none⟩ 1 1 [.int .u8 32] rfl rfl (cell_one_new _ _ _) (by simp [Value.oneCell']) (by unfold maxLen; omega) (by omega) HB5.out ?_)
  intro v2 w2 hown hgrow hnil hat
  have HS6 := hide (HS5.out.app (sl' := jn r ++ wl ++ [32]) hgrow (ow_app1 hown X6.out) (by simpa using hat))
  obtain ⟨g7, c7, n7, rfl, hn7, hc7⟩ := HS6.out.os.adr (by simp; omega)
  have X7 := hide hn7
  clear hown hgrow hnil hat hn7 HS4 HS5 HO5 HB5
  have q69 := c69 HS6.out.st
  have f69 := HS6.out.frz 69
  have HS7 := hide HS6.out.set69
  have q70 := c70 HS7.out.st
  have HS8 := hide (HS7.out.below (w1 := (w2.setCell ⟨T, 69, none⟩ (.slice (some ⟨g7, 0, none⟩) n7 c7)).alloc (.cells #[.int .i64 wl.length] 3)) ((Below.refl _ _).alloc (Nat.le_refl _) _))
  have HO8 := hide (show ((w2.setCell ⟨T, 69, none⟩ (.slice (some ⟨g7, 0, none⟩) n7 c7)).alloc (.cells #[.int .i64 wl.length] 3)).ownsRow B 3 1 (.slice a3 n3 c3) n3 (i64s (lens r)) from by
    have := HS8.out.ol
    unfold Oi at this
    rw [lens_len, ← X3.out] at this
    exact this)
  have HB8 := hide HS8.out.hB
  have HC8 := hide (show ∀ j u, [Value.int .i64 wl.length][j]? = some u → ((w2.setCell ⟨T, 69, none⟩ (.slice (some ⟨g7, 0, none⟩) n7 c7)).alloc (.cells #[.int .i64 wl.length] 3)).cell? ((⟨w2.heap.size, 0, none⟩ : Addr).add j) = some u from by
    have h := cell_one_new (w2.setCell ⟨T, 69, none⟩ (.slice (some ⟨g7, 0, none⟩) n7 c7)) (.int .i64 wl.length) 3
    rw [show (w2.setCell ⟨T, 69, none⟩ (.slice (some ⟨g7, 0, none⟩) n7 c7)).heap.size = w2.heap.size by simp [World.setCell]] at h
    exact h)
  go_wp2_with (at_builtin; refine wpList_append_own_at _ rfl _ _ 22 rfl B 3 i3 (.int .i64 0) 1 8 Try.underlying22 hi3 hz30 hz31 hz32 rfl (by decide) _ n3 (i64s (lens r)) rfl HO8.out ⟨w2.heap.size, 0, none⟩ 1 1 [.int .i64 wl.length] rfl rfl HC8.out (by simp [Value.oneCell']) (by unfold maxLen; omega) (by omega) HB8.out ?_)
  intro v3 w3 hown hgrow hnil hat
  have HS9 := hide (HS8.out.appl (ll' := lens r ++ [(wl.length : Int)]) hgrow (oi_app1 hown X3.out))
  obtain ⟨g9, c9, n9, rfl, hn9, hc9⟩ := HS9.out.ol.adr (by simp)
  obtain rfl : n9 = n3 + 1 := by rw [hn9, List.length_append, lens_len, ← X3.out]; rfl
  clear hown hgrow hnil hat hn9 HS6 HS7 HS8 HO8 HB8 HC8 q69 f69 q70
  have q70 := c70 HS9.out.st
  have f70 := HS9.out.frz 70
  have HSA := hide HS9.out.set70
  have q70' := c70 HSA.out.st
  have q65' := c65 HSA.out.st
  go_upto_region 8 with fail
  go_region
  go_wp2_with fail
  go_end0
  rw [jn_append, lens_append]
  exact ⟨rfl, V, L, _, _, HSA.out.below (w1 := World.drew _) (by exact Below.drew (Below.refl _ _)), rfl, rfl⟩

end Go.Proofs.Qxb6612898a.EW
