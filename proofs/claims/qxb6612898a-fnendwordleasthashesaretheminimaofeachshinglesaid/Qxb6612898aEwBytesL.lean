/-
  WALKS (EndWord): zzBytes_FnEndWordLeastHashesAreTheMinimaOfEachShingle.
-/
import Derived.Test.Qxb6612898aEwNew
namespace Go.Proofs.Qxb6612898a.EW
open Go.RowKit

set_option maxHeartbeats 1600000 in
set_option maxRecDepth 100000 in
theorem bytes23 (V : Nat → Nat) (L : Nat → Int) (sz sp : Int) (a1 a : Option Addr) (n1 c1 c : Nat) (K : List (List Int)) (w : World) (h : Ws w a K) (hn1 : n1 ≤ maxLen) (hn : K.length ≤ maxLen) (hw : ∀ i, (K.getD i []).length ≤ maxLen) :
    Calls Try.prog 23 #[.agg (lcs L).toArray, .agg (fcs V).toArray, .int .i64 sz, .slice a1 n1 c1, .int .i64 sp, .slice a K.length c] w fun e w' => (∃ r : Bool, e = .returned (.bool r) ∧ (r = true → ∀ i, i < K.length → (K.getD i []).length ≤ 1048576)) ∧ Below w.heap.size w w' := by
  obtain ⟨n, hl⟩ : ∃ n, n = K.length := ⟨_, rfl⟩
  rw [← hl] at hn ⊢
  have H := hide h
  have HL := hide hl
  have HW := hide hw
  clear h hl hw
  unfold maxLen at hn1 hn
  by_cases q1 : 1048576 < n1
  · go_enter Try.func23, Try.ntmps23
    go_wp2_with fail
    go_ret
    exact ⟨⟨false, rfl, fun h => by cases h⟩, (by repeat (first | exact Below.refl _ _ | refine Below.alloc ?_ (by simp) _))⟩
  by_cases q2 : 1048576 < n
  · go_enter Try.func23, Try.ntmps23
    go_wp2_with fail
    go_ret
    exact ⟨⟨false, rfl, fun h => by cases h⟩, (by repeat (first | exact Below.refl _ _ | refine Below.alloc ?_ (by simp) _))⟩
  by_cases q3 : 1048576 < n1 + n
  · have q3' : (1048576 : Int) < (n1 : Int) + n := by omega
    go_enter Try.func23, Try.ntmps23
    go_wp2_with fail
    go_ret
    exact ⟨⟨false, rfl, fun h => by cases h⟩, (by repeat (first | exact Below.refl _ _ | refine Below.alloc ?_ (by simp) _))⟩
  have q3' : (n1 : Int) + n ≤ 1048576 := by omega
  go_enter Try.func23, Try.ntmps23
  go_wp2_with fail
  go_loopw [13, 14] (fun sv iv wr => ∃ (k : Nat) (s : Int), k ≤ n ∧ iv = .int .i64 k ∧ sv = .int .i64 s ∧ 0 ≤ s ∧ s ≤ 1048576 ∧ Hid (Below w.heap.size w wr ∧ ∀ i, i < k → (K.getD i []).length ≤ 1048576)) (fun _ iv _ => n - natOf iv)
  case atStart => exact ⟨0, (n1 : Int) + n, Nat.zero_le _, rfl, rfl, by omega, by omega, (by repeat (first | exact Below.refl _ _ | refine Below.alloc ?_ (by simp) _)), fun i hi => absurd hi (Nat.not_lt_zero _)⟩
  case round =>
    obtain ⟨k, s, hk, rfl, rfl, hs0, hs1, HB⟩ := hrel
    by_cases hlt : k < n
    · obtain hx | ⟨b, off, rfl, hbl, hc⟩ := H.out
      · have := HL.out; rw [hx] at this; simp at this; omega
      obtain ⟨v, hcv, hcl⟩ := hc k (by rw [← HL.out]; exact hlt)
      have c0 := (HB.out.1.cell (p := ⟨b, off + k, none⟩) hbl).trans hcv
      obtain ⟨a2, c2, hv, _⟩ := hcl.shp
      have hm := HW.out k
      obtain ⟨m, hme⟩ : ∃ m, m = (K.getD k []).length := ⟨_, rfl⟩
      rw [← hme] at hv hm
      subst hv
      unfold maxLen at hm
      have HME := hide hme
      clear hc hcl hcv hme
      have hi : (k : Int) < n := by omega
      have hi0 : (0 : Int) ≤ k := by omega
      by_cases q4 : 1048576 < m
      · go_wp2_with fail
        go_ret
        exact ⟨⟨false, rfl, fun h => by cases h⟩, HB.out.1⟩
      by_cases q5 : 1048576 < s + m
      · go_wp2_with fail
        go_ret
        exact ⟨⟨false, rfl, fun h => by cases h⟩, HB.out.1⟩
      go_wp2_with fail
      go_roundw
      case rel => exact ⟨k + 1, s + m, by omega, by simp, rfl, by omega, by omega, HB.out.1, fun i hi => by
        by_cases e : i = k
        · rw [e, ← HME.out]; omega
        · exact HB.out.2 i (by omega)⟩
      case measure => simp [natOf]; omega
    · have hi : (n : Int) ≤ k := by omega
      go_wp2_with fail
      go_ret
      exact ⟨⟨true, rfl, fun _ i hi => HB.out.2 i (by omega)⟩, HB.out.1⟩

end Go.Proofs.Qxb6612898a.EW
