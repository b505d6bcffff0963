import Derived.Test.Qxb6612898aEwEnd
import Derived.Laws.AppendOwnNone
namespace Go.Proofs.Qxb6612898a.EW
open Go.RowKit
/-- A slice of bytes, nil or with an address. -/
def Cl (w : World) (v : Value) (l : List Int) : Prop := (v = .slice none 0 0 ∧ l = []) ∨ ∃ x c, v = .slice (some x) l.length c ∧ l.length ≤ c ∧ Bs w (some x) l
theorem Cl.below {w w1 : World} {v : Value} {l : List Int} (h : Cl w v l) (hb : Below w.heap.size w w1) : Cl w1 v l := by
  rcases h with h | ⟨x, c, h, hc, hs⟩
  · exact .inl h
  · exact .inr ⟨x, c, h, hc, hs.below hb⟩
theorem Cl.shp {w : World} {v : Value} {l : List Int} (h : Cl w v l) : ∃ a c, v = .slice a l.length c ∧ l.length ≤ c ∧ Bs w a l := by
  rcases h with ⟨rfl, rfl⟩ | ⟨x, c, rfl, hc, hs⟩
  · exact ⟨none, 0, rfl, Nat.le_refl _, .inl rfl⟩
  · exact ⟨_, c, rfl, hc, hs⟩
theorem Bs.cells {w : World} {x : Addr} {l : List Int} (h : Bs w (some x) l) : ∀ j u, (u8s l)[j]? = some u → w.cell? (x.add j) = some u := by
  intro j u hu
  have hj : j < l.length := by simpa [u8s] using (List.getElem?_eq_some_iff.1 hu).1
  rcases h with h | ⟨b, o, h, _, hc⟩
  · subst h; simp at hj
  · obtain rfl := Option.some.inj h
    rw [Addr.add_lit, hc j hj, ← hu]
    simp [u8s, List.getElem?_eq_getElem hj, List.getD_eq_getElem?_getD]

set_option maxHeartbeats 1600000 in
set_option maxRecDepth 100000 in
theorem app13 (B T : Nat) (M : Option Nat) (V : Nat → Nat) (L : Nat → Int) (sz : Int) (rn : Value) (sp : Int) (sh ln wd v : Value) (l sl ll : List Int) (w0 w : World)
    (hal : Al w0 w B T M V L sz wd rn sp sh ln wd sh ln [] sl ll) (hv : Cl w v l) (hb : l.length ≤ 500000) :
    Calls Try.prog 13 #[.pointer (some ⟨T, 0, none⟩), v] w fun e w' => e = .returned (.tuple #[]) ∧ ∃ wd', Al w0 w' B T M V L sz wd' rn sp sh ln wd' sh ln l sl ll := by
  obtain ⟨i5, hi5, hz50, hz51, hz52⟩ := info_parts info5
  have HS := hide hal
  have q66 := c66 hal.st
  have f66 := hal.frz 66
  have HO := hide (show w.ownsRow B 5 1 wd 0 [] from hal.ow)
  have HB := hide hal.hB
  obtain ⟨a0, c0, rfl⟩ := hal.ow.shp
  clear hal
  rcases hv with ⟨rfl, rfl⟩ | ⟨x, c, rfl, hc, hs⟩
  · go_enter Try.func13, Try.ntmps13
    have hrun := run_append_owned_none (P := Try.prog) w B 31 31 5 i5 1 Try.underlying31 hi5 _ _ _ HO.out
    go_wp2_with (at_builtin; refine wpList_append_own_none rfl _ _ 31 rfl B 5 i5 1 Try.underlying31 hi5 _ 0 [] rfl HO.out rfl ?_)
    go_end0
    refine ⟨rfl, _, HS.out.set66 _⟩
  · have HC := hide hs.cells
    clear hs
    go_enter Try.func13, Try.ntmps13
    go_wp2_with (at_builtin; refine wpList_append_own_at _ rfl _ _ 31 rfl B 5 i5 (.int .u8 0) 1 1 Try.underlying31 hi5 hz50 hz51 hz52 rfl (by decide) _ 0 [] rfl HO.out x l.length c (u8s l) rfl (by simp [u8s]) HC.out (u8_one _) (by unfold maxLen; omega) (by omega) HB.out ?_)
    intro v1 w1 hown hgrow hnil hat
    have HS4 := hide (HS.out.appw (wl' := l) hgrow (by simpa [Ow] using hown) hat)
    clear hown hgrow hnil hat
    obtain ⟨a1, c1, rfl⟩ := HS4.out.ow.shp
    have q66' := c66 HS4.out.st
    have f66' := HS4.out.frz 66
    go_wp2_with fail
    go_end0
    exact ⟨rfl, _, HS4.out.set66 _⟩

set_option maxHeartbeats 400000 in
theorem end14_none (B T : Nat) (M : Option Nat) (V : Nat → Nat) (L : Nat → Int) (sz : Int) (rn : Value) (sp : Int) (sh ln wd : Value) (sl ll : List Int) (w0 w : World)
    (hal : Al w0 w B T M V L sz wd rn sp sh ln wd sh ln [] sl ll) :
    Calls Try.prog 14 #[.pointer (some ⟨T, 0, none⟩)] w fun e w' => e = .returned (.tuple #[]) ∧ w = w' := by
  have HS := hide hal
  clear hal
  go_enter Try.func14, Try.ntmps14
  go_wp2_with fail
  refine (end26_none B T M V L sz rn sp sh ln wd sl ll w0 w HS.out).mono ?_
  rintro e w1 ⟨rfl, rfl⟩
  go_wp2_with fail
  go_end0
  exact ⟨rfl, rfl⟩

set_option maxHeartbeats 400000 in
theorem end14 (B T : Nat) (M : Option Nat) (V : Nat → Nat) (L : Nat → Int) (sz : Int) (rn : Value) (sp : Int) (sh ln wd : Value) (wl : List Int) (J : List (List Int)) (w0 w : World)
    (hal : Al w0 w B T M V L sz wd rn sp sh ln wd sh ln wl (jn J) (lens J))
    (h1 : 1 ≤ sz) (hJ1 : sz = 1 → J = []) (hwl : 0 < wl.length) (hb : (jn J).length + wl.length ≤ 500000) (hJ : J.length ≤ 100000) :
    Calls Try.prog 14 #[.pointer (some ⟨T, 0, none⟩)] w fun e w' => e = .returned (.tuple #[]) ∧ ∃ V' L' wd' sh' ln', Al w0 w' B T M V' L' sz wd' rn sp sh' ln' wd' sh' ln' [] (jn (stay sz (win sz J wl))) (lens (stay sz (win sz J wl))) ∧ Fe M sz (win sz J wl) V L V' L' := by
  have HS := hide hal
  have HH := hide (And.intro hJ1 (And.intro hwl (And.intro hb hJ)))
  clear hal hJ1 hwl hb hJ
  go_enter Try.func14, Try.ntmps14
  go_wp2_with fail
  refine (end26 B T M V L sz rn sp sh ln wd wl J w0 w HS.out h1 HH.out.1 HH.out.2.1 HH.out.2.2.1 HH.out.2.2.2).mono ?_
  rintro e w1 ⟨rfl, h⟩
  have H := hide h
  clear h
  go_wp2_with fail
  go_end0
  exact ⟨rfl, H.out⟩

set_option maxHeartbeats 400000 in
theorem word15 (B T : Nat) (M : Option Nat) (V : Nat → Nat) (L : Nat → Int) (sz : Int) (rn : Value) (sp : Int) (sh ln wd : Value) (wl sl ll : List Int) (w0 w : World)
    (hal : Al w0 w B T M V L sz wd rn sp sh ln wd sh ln wl sl ll) :
    Calls Try.prog 15 #[.pointer (some ⟨T, 0, none⟩)] w fun e w' => e = .returned wd ∧ w = w' := by
  have q := c66 hal.st
  obtain ⟨a, c, rfl⟩ := hal.ow.shp
  clear hal
  go_enter Try.func15, Try.ntmps15
  go_wp2_with fail
  go_ret
  exact ⟨rfl, rfl⟩

set_option maxHeartbeats 400000 in
theorem xx17 (a : Option Addr) (l : List Int) (c : Nat) (w : World) (h : Bs w a l) (hn : l.length ≤ 1000000) (hc : l.length ≤ c) :
    Calls Try.prog 17 #[.slice a l.length c] w fun e w' => e = .returned (.int .u64 (xx l)) ∧ Below w.heap.size w w' := by
  have H := hide h
  clear h
  go_enter Try.func17, Try.ntmps17
  go_wp2_with fail
  refine (xxh28 a l l.length c w rfl H.out hn hc).mono ?_
  rintro e w1 ⟨rfl, hb⟩
  have HB := hide hb
  clear hb
  go_wp2_with fail
  go_ret
  exact ⟨rfl, HB.out⟩

set_option maxHeartbeats 400000 in
theorem av24 (x : Int) (w : World) :
    Calls Try.prog 24 #[.int .u64 x] w fun e w' => e = .returned (.int .u64 (av x)) ∧ w = w' := by
  go_enter Try.func24, Try.ntmps24
  go_wp2_with fail
  refine (av30 _ _).mono ?_
  rintro e w1 ⟨rfl, rfl⟩
  go_wp2_with fail
  go_ret
  exact ⟨rfl, rfl⟩
end Go.Proofs.Qxb6612898a.EW
