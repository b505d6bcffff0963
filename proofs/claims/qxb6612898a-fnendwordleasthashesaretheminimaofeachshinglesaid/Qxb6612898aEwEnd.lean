import Derived.Test.Qxb6612898aEwWordB
import Derived.Test.Qxb6612898aEwWordC
namespace Go.Proofs.Qxb6612898a.EW
open Go.RowKit
/-- The window of words that x closes. -/
def win (sz : Int) (J : List (List Int)) (x : List Int) : List (List Int) := (if (J.length : Int) = sz then J.drop 1 else J) ++ [x]
/-- The words that stay in the shingle. -/
def stay (sz : Int) (W : List (List Int)) : List (List Int) := if sz = 1 then [] else W
/-- The feature that the window gives. -/
def Fe (M : Option Nat) (sz : Int) (W : List (List Int)) (V : Nat → Nat) (L : Nat → Int) (V' : Nat → Nat) (L' : Nat → Int) : Prop :=
  if (W.length : Int) = sz then Feat M (xx (jn W).dropLast) V L V' L' else V' = V ∧ L' = L

theorem jn_last (J : List (List Int)) (x : List Int) : (jn (J ++ [x])).dropLast = jn J ++ x := by
  rw [jn_append, List.dropLast_concat]

theorem word31 (B T : Nat) (M : Option Nat) (V : Nat → Nat) (L : Nat → Int) (sz : Int) (rn : Value) (sp : Int) (sh ln : Value) (gw cw : Nat) (wl : List Int) (J : List (List Int)) (w0 w : World)
    (hal : Al w0 w B T M V L sz (.slice (some ⟨gw, 0, none⟩) wl.length cw) rn sp sh ln (.slice (some ⟨gw, 0, none⟩) wl.length cw) sh ln wl (jn J) (lens J))
    (h1 : 1 ≤ sz) (hJ1 : sz = 1 → J = []) (hwl : 0 < wl.length) (hb : (jn J).length + wl.length ≤ 500000) (hJ : J.length ≤ 100000) :
    Calls Try.prog 31 #[.pointer (some ⟨T, 0, none⟩), .slice (some ⟨gw, 0, none⟩) wl.length cw] w fun e w' => e = .returned (.tuple #[]) ∧ ∃ V' L' sh' ln', Al w0 w' B T M V' L' sz (.slice (some ⟨gw, 0, none⟩) wl.length cw) rn sp sh' ln' (.slice (some ⟨gw, 0, none⟩) wl.length cw) sh' ln' wl (jn (stay sz (win sz J wl))) (lens (stay sz (win sz J wl))) ∧ Fe M sz (win sz J wl) V L V' L' := by
  by_cases e1 : sz = 1
  · obtain rfl := hJ1 e1
    subst e1
    have hc : wl.length ≤ cw := by
      obtain ⟨a, c, hv, hc, _⟩ := hal.ow.bs
      simp only [Value.slice.injEq] at hv
      rw [hv.2.2]; exact hc
    refine (word31a B T M V L rn sp sh ln gw cw wl _ _ w0 w hal (by omega) hc).mono ?_
    rintro e w1 ⟨rfl, V', L', h, hf⟩
    refine ⟨rfl, V', L', sh, ln, by simpa [stay] using h, ?_⟩
    simpa [Fe, win, jn] using hf
  · have hst : ∀ W, stay sz W = W := fun W => if_neg e1
    by_cases e2 : (J.length : Int) = sz
    · cases J with
      | nil => simp at e2; omega
      | cons x r =>
        have hr : 0 < r.length := by simp at e2; omega
        have hwin : win sz (x :: r) wl = r ++ [wl] := by unfold win; rw [if_pos e2]; rfl
        have hlen : ((r ++ [wl]).length : Int) = sz := by simp at e2 ⊢; omega
        refine (word31c B T M V L sz rn sp sh ln gw cw wl x r w0 w hal e2.symm hr hwl hb (by simp at hJ; omega)).mono ?_
        rintro e w1 ⟨rfl, V', L', sh', ln', h, hf⟩
        rw [hwin, hst]
        refine ⟨rfl, V', L', sh', ln', h, ?_⟩
        unfold Fe
        rw [if_pos hlen, jn_last]
        exact hf
    · have hwin : win sz J wl = J ++ [wl] := by unfold win; rw [if_neg e2]
      by_cases e3 : sz = J.length + 1
      · refine (word31b B T M V L sz rn sp sh ln gw cw wl J w0 w hal e3 e1 hwl hb hJ).mono ?_
        rintro e w1 ⟨rfl, V', L', sh', ln', h, hf⟩
        rw [hwin, hst]
        refine ⟨rfl, V', L', sh', ln', h, ?_⟩
        unfold Fe
        rw [if_pos (by simp; omega), jn_last]
        exact hf
      · refine (word31d B T M V L sz rn sp sh ln gw cw wl J w0 w hal e3 e1 (fun e => e2 e.symm) hwl hb hJ).mono ?_
        rintro e w1 ⟨rfl, V', L', sh', ln', h, hf⟩
        rw [hwin, hst]
        refine ⟨rfl, V', L', sh', ln', h, ?_⟩
        unfold Fe
        rw [if_neg (by simp; omega)]
        exact hf

set_option maxHeartbeats 1600000 in
set_option maxRecDepth 100000 in
/-- endWord with no word under way. -/
theorem end26_none (B T : Nat) (M : Option Nat) (V : Nat → Nat) (L : Nat → Int) (sz : Int) (rn : Value) (sp : Int) (sh ln wd : Value) (sl ll : List Int) (w0 w : World)
    (hal : Al w0 w B T M V L sz wd rn sp sh ln wd sh ln [] sl ll) :
    Calls Try.prog 26 #[.pointer (some ⟨T, 0, none⟩)] w fun e w' => e = .returned (.tuple #[]) ∧ w = w' := by
  obtain ⟨a, c, rfl⟩ := hal.ow.shp
  have q := c66 hal.st
  have HS := hide hal
  clear hal
  simp only [List.length_nil] at q HS ⊢
  go_enter Try.func26, Try.ntmps26
  go_wp2_with fail
  first | go_end0 | refine bodyPost_ret (results_none rfl _ _ _) rfl ?_
  exact ⟨rfl, rfl⟩

theorem ow_empty {w : World} {B g c : Nat} {wl : List Int} (h : Ow w B (.slice (some ⟨g, 0, none⟩) wl.length c) wl) : Ow w B (.slice (some ⟨g, 0, none⟩) 0 c) [] := by
  rcases h.2 with ⟨hv, _⟩ | ⟨g', cap, cur, hv, hb, hg, hn, hm, hs, _⟩
  · simp at hv
  · simp only [Value.slice.injEq, Option.some.injEq, Addr.mk.injEq, and_true, true_and] at hv
    obtain ⟨rfl, rfl⟩ := hv
    exact ⟨by simp [u8s], .inr ⟨g, c, cur, rfl, hb, hg, Nat.zero_le _, hm, hs, by simp [u8s]⟩⟩

set_option maxHeartbeats 1600000 in
set_option maxRecDepth 100000 in
/-- endWord with a word. -/
theorem end26 (B T : Nat) (M : Option Nat) (V : Nat → Nat) (L : Nat → Int) (sz : Int) (rn : Value) (sp : Int) (sh ln wd : Value) (wl : List Int) (J : List (List Int)) (w0 w : World)
    (hal : Al w0 w B T M V L sz wd rn sp sh ln wd sh ln wl (jn J) (lens J))
    (h1 : 1 ≤ sz) (hJ1 : sz = 1 → J = []) (hwl : 0 < wl.length) (hb : (jn J).length + wl.length ≤ 500000) (hJ : J.length ≤ 100000) :
    Calls Try.prog 26 #[.pointer (some ⟨T, 0, none⟩)] w fun e w' => e = .returned (.tuple #[]) ∧ ∃ V' L' wd' sh' ln', Al w0 w' B T M V' L' sz wd' rn sp sh' ln' wd' sh' ln' [] (jn (stay sz (win sz J wl))) (lens (stay sz (win sz J wl))) ∧ Fe M sz (win sz J wl) V L V' L' := by
  obtain ⟨gw, cw, rfl, hc, _⟩ := hal.ow.addr hwl
  obtain ⟨n, hn⟩ : ∃ n, n = wl.length := ⟨_, rfl⟩
  have q := c66 hal.st
  have HS := hide hal
  have HH := hide (And.intro hJ1 (And.intro hb hJ))
  have HN := hide hn
  clear hal hJ1 hb hJ
  rw [← hn] at q hc hwl
  clear hn
  have hne : ((n : Int) == 0) = false := by simp; omega
  have f0 : (cw = 0) = False := by simp; omega
  have h0 : (0 : Int) ≤ cw := by omega
  go_enter Try.func26, Try.ntmps26
  go_wp2_with fail
  rw [show Value.slice (some ⟨gw, 0, none⟩) n cw = Value.slice (some ⟨gw, 0, none⟩) wl.length cw by rw [HN.out]]
  refine (word31 B T M V L sz rn sp sh ln gw cw wl J w0 w HS.out h1 HH.out.1 (by rw [← HN.out]; exact hwl) HH.out.2.1 HH.out.2.2).mono ?_
  rintro e w1 ⟨rfl, V', L', sh', ln', h, hf⟩
  have HA := hide h
  have HF := hide hf
  clear h hf q
  have q := c66 HA.out.st
  rw [← HN.out] at q
  have f66 := HA.out.frz 66
  rw [← HN.out]
  go_wp2_with fail
  go_end0
  refine ⟨rfl, V', L', .slice (some ⟨gw, 0, none⟩) 0 cw, sh', ln', ?_, HF.out⟩
  have h6 := HA.out.set66 (.slice (some ⟨gw, 0, none⟩) 0 cw)
  exact ⟨h6.st, ow_empty h6.ow, h6.os, h6.ol, h6.ap, h6.fr⟩
end Go.Proofs.Qxb6612898a.EW
