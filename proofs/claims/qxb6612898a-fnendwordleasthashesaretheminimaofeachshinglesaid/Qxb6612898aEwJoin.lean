import Derived.Test.Qxb6612898aEwClone
namespace Go.Proofs.Qxb6612898a.EW
open Go.RowKit
theorem jn_app (A B : List (List Int)) : jn (A ++ B) = jn A ++ jn B := by
  induction A with
  | nil => simp [jn]
  | cons x r ih => simp [jn, ih]
theorem jn_drop_le (K : List (List Int)) (s : Nat) : (jn (K.drop s)).length ≤ (jn K).length := by
  have := congrArg List.length (jn_app (K.take s) (K.drop s))
  rw [List.take_append_drop, List.length_append] at this
  omega
theorem jn_take_le (K : List (List Int)) (s : Nat) : (jn (K.take s)).length ≤ (jn K).length := by
  have := congrArg List.length (jn_app (K.take s) (K.drop s))
  rw [List.take_append_drop, List.length_append] at this
  omega
theorem take_succ' (D : List (List Int)) (j : Nat) (hj : j < D.length) : D.take (j + 1) = D.take j ++ [D.getD j []] := by
  rw [List.take_succ_eq_append_getElem hj]
  simp [List.getD_eq_getElem?_getD, List.getElem?_eq_getElem hj]
theorem getD_drop' (K : List (List Int)) (s j : Nat) : (K.drop s).getD j [] = K.getD (s + j) [] := by
  simp [List.getD_eq_getElem?_getD, List.getElem?_drop]
/-- The first j words joined. -/
def jp (D : List (List Int)) (j : Nat) : List Int := (jn (D.take j)).dropLast
theorem jp_zero (D : List (List Int)) : jp D 0 = [] := by simp [jp, jn]
theorem jp_one (D : List (List Int)) (h : 0 < D.length) : jp D 1 = D.getD 0 [] := by
  unfold jp; rw [take_succ' D 0 h, jn_last]; simp [jn]
theorem jn_pop (J : List (List Int)) (h : 0 < J.length) : jn J = (jn J).dropLast ++ [32] := by
  rcases List.eq_nil_or_concat J with rfl | ⟨r, x, rfl⟩
  · simp at h
  · rw [List.concat_eq_append, jn_last, jn_append]
theorem jp_succ (D : List (List Int)) (j : Nat) (h0 : 0 < j) (h : j < D.length) : jp D (j + 1) = jp D j ++ [32] ++ D.getD j [] := by
  unfold jp
  rw [take_succ' D j h, jn_last, ← jn_pop]
  rw [List.length_take]; omega
theorem jp_len (D : List (List Int)) (j : Nat) : (jp D j).length ≤ (jn D).length := by
  unfold jp
  rw [List.length_dropLast]
  have := jn_take_le D j
  omega
theorem jn_word (D : List (List Int)) (j : Nat) (h : j < D.length) : (jn (D.take j)).length + (D.getD j []).length + 1 ≤ (jn D).length := by
  have := jn_take_le D (j + 1)
  rw [take_succ' D j h, jn_append] at this
  simp at this ⊢
  omega
theorem Cl.some' {w : World} {v : Value} {l : List Int} (h : Cl w v l) (hl : 0 < l.length) : ∃ g off c, v = .slice (some ⟨g, off, none⟩) l.length c ∧ l.length ≤ c ∧ Bs w (some ⟨g, off, none⟩) l := by
  rcases h with ⟨_, rfl⟩ | ⟨x, c, hv, hc, hb⟩
  · simp at hl
  · rcases hb with rfl | ⟨b, off, e, hlt, hcs⟩
    · simp at hl
    · obtain rfl := Option.some.inj e
      exact ⟨b, off, c, hv, hc, .inr ⟨b, off, rfl, hlt, hcs⟩⟩
theorem own_base {w wr : World} (h : Below w.heap.size w wr) : w.heap.size ≤ wr.heap.size := h.size
theorem below_own {w wr w1 : World} {v : Value} {e n : Nat} {xs : List Value} (h : Below w.heap.size w wr) (ho : wr.ownsRow w.heap.size e 1 v n xs) (hg : wr.grownBy w1 v.ownBlock) : Below w.heap.size w w1 :=
  h.grown hg h.size (fun j hj => (ho.lt j hj).1)
theorem ow1 {w : World} {B n : Nat} {v : Value} {a : List Int} {z : Int} (h : w.ownsRow B 5 1 v (n + 1) (u8s a ++ [.int .u8 z])) (hn : n = a.length) : Ow w B v (a ++ [z]) := by
  subst hn
  unfold Ow
  rw [List.length_append]
  simpa [u8s] using h
theorem oi1 {w : World} {B n : Nat} {v : Value} {a : List Int} {z : Int} (h : w.ownsRow B 3 1 v (n + 1) (i64s a ++ [.int .i64 z])) (hn : n = a.length) : Oi w B v (a ++ [z]) := by
  subst hn
  unfold Oi
  rw [List.length_append]
  simpa [i64s] using h

set_option maxHeartbeats 1600000 in
set_option maxRecDepth 100000 in
theorem join18 (a : Option Addr) (K : List (List Int)) (c s z : Nat) (w : World) (h : Ws w a K) (hne : ∀ i, i < K.length → 0 < (K.getD i []).length) (hK : K.length = s + z) (hz : 1 ≤ z) (hb : (jn K).length ≤ 500000) (hn : K.length ≤ 100000) :
    Calls Try.prog 18 #[.slice a K.length c, .int .i64 z] w fun e w' => (∃ a' c', e = .returned (.slice a' (jn (K.drop s)).dropLast.length c') ∧ (jn (K.drop s)).dropLast.length ≤ c' ∧ Bs w' a' (jn (K.drop s)).dropLast) ∧ Below w.heap.size w w' := by
  obtain ⟨i5, hi5, hz50, hz51, hz52⟩ := info_parts info5
  obtain ⟨n, hl⟩ : ∃ n, n = K.length := ⟨_, rfl⟩
  rw [← hl] at hn hK ⊢
  have H := hide h
  have HL := hide hl
  have HN := hide hne
  have HJ := hide hb
  clear h hl hne hb
  have hw : IntKind.i64.wrap ((n : Int) - z) = s := by rw [IntKind.wrap_i64]; omega
  have hK1 : n ≤ s + z := by omega
  have hK2 : s + z ≤ n := by omega
  clear hK
  have HD := hide (show (K.drop s).length = z from by rw [List.length_drop, ← HL.out]; omega)
  have HJD := hide (show (jn (K.drop s)).length ≤ 500000 from Nat.le_trans (jn_drop_le K s) HJ.out)
  go_enter Try.func18, Try.ntmps18
  go_wp2_with fail
  go_loopw [5, 6] (fun fv iv wr => ∃ (j : Nat), j ≤ z ∧ iv = .int .i64 (s + j : Nat) ∧ Hid (Ow wr w.heap.size fv (jp (K.drop s) j) ∧ Below w.heap.size w wr)) (fun _ iv _ => n - natOf iv)
  case atStart => exact ⟨0, Nat.zero_le _, by simp, by rw [jp_zero]; exact World.ownsRow_nil w _ _ _, Below.refl _ _⟩
  case round =>
    obtain ⟨j, hj, rfl, HR⟩ := hrel
    by_cases hlt : j < z
    · obtain hx | ⟨b, off, rfl, hbl, hc⟩ := H.out
      · have := HL.out; rw [hx] at this; simp at this; omega
      obtain ⟨v, hcv, hcl⟩ := hc (s + j) (by rw [← HL.out]; omega)
      have c0 := (HR.out.2.cell (p := ⟨b, off + (s + j), none⟩) hbl).trans hcv
      obtain ⟨g, o, c1, hv, hc1, hbs⟩ := (hcl.below HR.out.2).some' (HN.out _ (by rw [← HL.out]; omega))
      obtain ⟨m, hm⟩ : ∃ m, m = (K.getD (s + j) []).length := ⟨_, rfl⟩
      rw [← hm] at hv hc1
      subst hv
      have HM := hide hm
      have HBS := hide hbs
      have hword := jn_word (K.drop s) j (by rw [HD.out]; exact hlt)
      rw [getD_drop', ← hm] at hword
      have hlen := jp_len (K.drop s) j
      have hlen2 : (jp (K.drop s) j).length ≤ (jn ((K.drop s).take j)).length := by unfold jp; rw [List.length_dropLast]; omega
      have hbd : (jp (K.drop s) j).length + m + 1 ≤ 500000 := by have := HJD.out; omega
      have HCV := hide hcv
      clear hc hcl hcv hm hbs hword hlen hlen2
      have hi : ((s : Int) + (j : Int)) < n := by omega
      have hi0 : (0 : Int) ≤ (s : Int) + (j : Int) := by omega
      have hcast : ((s + j : Nat) : Int) = (s : Int) + (j : Int) := by omega
      by_cases hj0 : j = 0
      · subst hj0
        have c0' : wr.cell? ⟨b, off + s, none⟩ = _ := c0
        have HO1 := hide (show wr.ownsRow w.heap.size 5 1 _ (jp (K.drop s) 0).length (u8s (jp (K.drop s) 0)) from HR.out.1)
        have HC1 := hide (HBS.out.cells)
        have HB1 := hide (show w.heap.size ≤ wr.heap.size from HR.out.2.size)
        go_wp2_with (at_builtin; refine wpList_append_own_at _ rfl _ _ 31 rfl w.heap.size 5 i5 (.int .u8 0) 1 1 Try.underlying31 hi5 hz50 hz51 hz52 rfl (by decide) _ (jp (K.drop s) 0).length (u8s (jp (K.drop s) 0)) rfl HO1.out ⟨g, o, none⟩ m c1 (u8s (K.getD (s + 0) [])) rfl (by rw [HM.out]; simp [u8s]) HC1.out (u8_one _) (by unfold maxLen; omega) (by omega) HB1.out ?_)
        intro v1 w1 hown hgrow hnil hat
        have HS := hide (show Ow w1 w.heap.size v1 (jp (K.drop s) (0 + 1)) ∧ Below w.heap.size w w1 from ⟨by
          have e : jp (K.drop s) (0 + 1) = jp (K.drop s) 0 ++ K.getD (s + 0) [] := by rw [jp_zero, Nat.zero_add, jp_one _ (by rw [HD.out]; omega), getD_drop']; rfl
          rw [e]
          rw [HM.out] at hown
          exact ow_app hown rfl, below_own HR.out.2 HR.out.1 hgrow⟩)
        clear hown hgrow hnil hat
        go_wp2_with fail
        go_roundw
        case rel => exact ⟨0 + 1, by omega, by simp, HS.out⟩
        case measure => simp [natOf]; omega
      · have hgt : (s : Int) + (j : Int) > s := by omega
        have HBA := hide (show Below wr.heap.size wr (wr.alloc (.cells #[.int .u8 32] 5)) from (Below.refl _ _).alloc (Nat.le_refl _) _)
        have HO0 := hide (show (wr.alloc (.cells #[.int .u8 32] 5)).ownsRow w.heap.size 5 1 _ (jp (K.drop s) j).length (u8s (jp (K.drop s) j)) from HR.out.1.below HBA.out)
        have HB0 := hide (show w.heap.size ≤ (wr.alloc (.cells #[.int .u8 32] 5)).heap.size from Nat.le_trans HR.out.2.size HBA.out.size)
        go_wp2_with (at_builtin; refine wpList_append_own_at _ rfl _ _ 31 rfl w.heap.size 5 i5 (.int .u8 0) 1 1 Try.underlying31 hi5 hz50 hz51 hz52 rfl (by decide) _ (jp (K.drop s) j).length (u8s (jp (K.drop s) j)) rfl HO0.out ⟨wr.heap.size, 0, none⟩ 1 1 [.int .u8 32] rfl rfl (cell_one_new _ _ _) (by simp [Value.oneCell']) (by unfold maxLen; omega) (by omega) HB0.out ?_)
        intro v1 w1 hown hgrow hnil hat
        have HS1 := hide (show Ow w1 w.heap.size v1 (jp (K.drop s) j ++ [32]) ∧ Below w.heap.size w w1 from ⟨ow1 hown rfl, below_own (below_trans HR.out.2 HBA.out) HO0.out hgrow⟩)
        have HBS1 := hide (show Bs w1 (some ⟨g, o, none⟩) (K.getD (s + j) []) from by
          obtain ⟨v', h1, h2⟩ := (show ∃ v', w.cell? ⟨b, off + (s + j), none⟩ = some v' ∧ Cl w v' (K.getD (s + j) []) from by
            rcases H.out with hx | ⟨b', off', e, _, hc⟩
            · have := HL.out; rw [hx] at this; simp at this; omega
            · simp at e
              obtain ⟨rfl, rfl⟩ := e
              exact hc (s + j) (by rw [← HL.out]; omega))
          have h3 := (HR.out.2.cell (p := ⟨b, off + (s + j), none⟩) hbl).trans h1
          rw [c0] at h3
          obtain rfl := Option.some.inj h3
          obtain ⟨a2, c2, e2, _, h4⟩ := (h2.below HS1.out.2).shp
          simp only [Value.slice.injEq] at e2
          rw [e2.1]; exact h4)
        clear hown hgrow hnil hat HO0 HB0 HBA
        have c1' := (HS1.out.2.cell (p := ⟨b, off + (s + j), none⟩) hbl).trans HCV.out
        have HO2 := hide (show w1.ownsRow w.heap.size 5 1 v1 (jp (K.drop s) j ++ [32] : List Int).length (u8s (jp (K.drop s) j ++ [32] : List Int)) from HS1.out.1)
        have HC2 := hide (HBS1.out.cells)
        have HB2 := hide (show w.heap.size ≤ w1.heap.size from HS1.out.2.size)
        go_wp2_with (at_builtin; refine wpList_append_own_at _ rfl _ _ 31 rfl w.heap.size 5 i5 (.int .u8 0) 1 1 Try.underlying31 hi5 hz50 hz51 hz52 rfl (by decide) _ (jp (K.drop s) j ++ [32] : List Int).length (u8s (jp (K.drop s) j ++ [32] : List Int)) rfl HO2.out ⟨g, o, none⟩ m c1 (u8s (K.getD (s + j) [])) rfl (by rw [HM.out]; simp [u8s]) HC2.out (u8_one _) (by rw [List.length_append]; unfold maxLen; simp; omega) (by rw [List.length_append]; simp; omega) HB2.out ?_)
        intro v2 w2 hown hgrow hnil hat
        have HS := hide (show Ow w2 w.heap.size v2 (jp (K.drop s) (j + 1)) ∧ Below w.heap.size w w2 from ⟨by
          rw [jp_succ _ _ (by omega) (by rw [HD.out]; exact hlt), getD_drop']
          rw [HM.out] at hown
          exact ow_app hown (by simp), below_own HS1.out.2 HS1.out.1 hgrow⟩)
        clear hown hgrow hnil hat
        go_wp2_with fail
        go_roundw
        case rel => exact ⟨j + 1, by omega, by simp; omega, HS.out⟩
        case measure => simp [natOf]; omega
    · have hq : j = z := by omega
      have hi : (n : Int) ≤ (s : Int) + (j : Int) := by omega
      have hcast : ((s + j : Nat) : Int) = (s : Int) + (j : Int) := by omega
      have HE := hide (show jp (K.drop s) j = (jn (K.drop s)).dropLast from by unfold jp; rw [hq, ← HD.out, List.take_length])
      go_wp2_with fail
      go_ret
      have hr := HR.out
      rw [HE.out] at hr
      obtain ⟨a', c', rfl, hc', _, _, hbs⟩ := hr.1.bs
      exact ⟨⟨a', c', rfl, hc', hbs⟩, hr.2⟩
end Go.Proofs.Qxb6612898a.EW
