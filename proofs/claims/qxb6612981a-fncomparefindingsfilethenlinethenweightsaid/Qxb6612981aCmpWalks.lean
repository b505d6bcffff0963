/-
  WALKS FOR THE TWO LAWS ON compareFindings: the callees, each by a contract.
-/
import Derived.Test.Qxb6612981aProg
import Derived.Test.Qxb6612981aCmpPlain
import Derived.WalkKit
import Derived.BigRegion
import Derived.BigQuiet
import Derived.Deep.QuietTactic
import Derived.Deep.RegionWith
import Derived.Deep.RegionHeld3
import Derived.Deep.DrawnRows
import Derived.WalkLawsBesides
namespace Go.Proofs.Qxb6612981a
open Go.RowKit

set_option maxHeartbeats 400000 in
set_option maxRecDepth 100000 in
theorem cmp22 (a b : ByteArray) (w : World) :
    Calls Try.prog 22 #[.string a, .string b] w fun e w' => e = .returned (.int .i64 (cB a.data.toList b.data.toList)) ∧ w = w' := by
  go_enter Try.func22, Try.ntmps22
  go_wp2
  rw [run_callFunc_extern Try.func26 (by kernel_rfl) (by kernel_rfl) (by kernel_rfl) (e := Extern.BytealgCompare.compare) (by kernel_rfl), Lib.run_compareString]
  simp only [Result.andThen]
  rw [Oper.upon_value]
  go_wp2
  go_ret
  exact ⟨rfl, rfl⟩

set_option maxHeartbeats 400000 in
theorem cmp18 (a b : ByteArray) (w : World) :
    Calls Try.prog 18 #[.string a, .string b] w fun e w' => e = .returned (.int .i64 (cB a.data.toList b.data.toList)) ∧ w = w' := by
  go_enter Try.func18, Try.ntmps18
  go_wp2_with fail
  refine (cmp22 a b _).mono ?_
  rintro e w' ⟨rfl, rfl⟩
  go_wp2_with fail
  go_ret
  exact ⟨rfl, rfl⟩

set_option maxHeartbeats 400000 in
theorem cmp19 (x y : Int) (w : World) :
    Calls Try.prog 19 #[.int .i64 x, .int .i64 y] w fun e w' => e = .returned (.int .i64 (cI x y)) ∧ w = w' := by
  unfold cI
  by_cases h : x < y
  · rw [if_pos h]
    go_enter Try.func19, Try.ntmps19
    go_wp2
    go_ret
    exact ⟨rfl, rfl⟩
  · rw [if_neg h]
    by_cases h2 : y < x
    · rw [if_pos h2]
      go_enter Try.func19, Try.ntmps19
      go_wp2
      go_ret
      exact ⟨rfl, rfl⟩
    · rw [if_neg h2]
      go_enter Try.func19, Try.ntmps19
      go_wp2
      go_ret
      exact ⟨rfl, rfl⟩

set_option maxHeartbeats 400000 in
theorem cmp20 (x y : Int) (w : World) :
    Calls Try.prog 20 #[.int .i64 x, .int .i64 y] w fun e w' => e = .returned (.int .i64 (cI x y)) ∧ w = w' := by
  unfold cI
  by_cases h : x < y
  · rw [if_pos h]
    go_enter Try.func20, Try.ntmps20
    go_wp2
    go_ret
    exact ⟨rfl, rfl⟩
  · rw [if_neg h]
    by_cases h2 : y < x
    · rw [if_pos h2]
      go_enter Try.func20, Try.ntmps20
      go_wp2
      go_ret
      exact ⟨rfl, rfl⟩
    · rw [if_neg h2]
      go_enter Try.func20, Try.ntmps20
      go_wp2
      go_ret
      exact ⟨rfl, rfl⟩

set_option maxHeartbeats 400000 in
theorem or17 (g : Nat) (x y z : Int) (w : World) (h0 : w.cell? ⟨g, 0, none⟩ = some (.int .i64 x)) (h1 : w.cell? ⟨g, 1, none⟩ = some (.int .i64 y)) (h2 : w.cell? ⟨g, 2, none⟩ = some (.int .i64 z)) :
    Calls Try.prog 17 #[.slice (some ⟨g, 0, none⟩) 3 3] w fun e w' => e = .returned (.int .i64 (or3 x y z)) ∧ w = w' := by
  unfold or3
  by_cases ex : x = 0
  · subst ex
    by_cases ey : y = 0
    · subst ey
      by_cases ez : z = 0
      · subst ez
        simp only [if_true]
        go_enter Try.func17, Try.ntmps17
        go_wp2
        refine wp_loop_rounds 4 ?_
        rw [rounds_succ]
        go_wp2
        rw [rounds_succ]
        go_wp2
        rw [rounds_succ]
        go_wp2
        rw [rounds_succ]
        go_wp2
        go_ret
        exact ⟨rfl, rfl⟩
      · have hz : (z != 0) = true := by simp [ez]
        simp only [if_true]
        clear ez
        go_enter Try.func17, Try.ntmps17
        go_wp2
        refine wp_loop_rounds 4 ?_
        rw [rounds_succ]
        go_wp2
        rw [rounds_succ]
        go_wp2
        rw [rounds_succ]
        go_wp2
        go_ret
        exact ⟨rfl, rfl⟩
    · have hy : (y != 0) = true := by simp [ey]
      simp only [if_true, if_neg ey]
      clear ey
      go_enter Try.func17, Try.ntmps17
      go_wp2
      refine wp_loop_rounds 4 ?_
      rw [rounds_succ]
      go_wp2
      rw [rounds_succ]
      go_wp2
      go_ret
      exact ⟨rfl, rfl⟩
  · have hx : (x != 0) = true := by simp [ex]
    simp only [if_neg ex]
    clear ex
    go_enter Try.func17, Try.ntmps17
    go_wp2
    refine wp_loop_rounds 4 ?_
    rw [rounds_succ]
    go_wp2
    go_ret
    exact ⟨rfl, rfl⟩

set_option maxHeartbeats 400000 in
theorem mk8 (f m : ByteArray) (l v : Int) (w : World) :
    Calls Try.prog 8 #[.string f, .int .i64 l, .int .i64 v, .string m] w fun e w' => e = .returned (.agg #[.string f, .int .i64 l, .int .i64 v, .string m, .pointer none]) ∧ Below w.heap.size w w' := by
  go_enter Try.func8, Try.ntmps8
  go_wp2

  exact bodyPost_ret (v := .agg #[.string f, .int .i64 l, .int .i64 v, .string m, .pointer none]) (by simp [results, Try.results8, go_sem]) rfl ⟨rfl, (Below.refl _ _).alloc (Nat.le_refl _) _⟩

attribute [local go_sem ↓] Go.wp_at_zero Go.wp_at_succ
set_option maxHeartbeats 1000000 in
theorem cmp15 (f1 m1 f2 m2 : ByteArray) (l1 v1 l2 v2 : Int) (w : World) :
    Calls Try.prog 15 #[.agg #[.string f1, .int .i64 l1, .int .i64 v1, .string m1, .pointer none], .agg #[.string f2, .int .i64 l2, .int .i64 v2, .string m2, .pointer none]] w fun e w' => e = .returned (.int .i64 (cF f1.data.toList l1 v1 f2.data.toList l2 v2)) ∧ Below w.heap.size w w' := by
  go_enter Try.func15, Try.ntmps15
  go_wp2
  go_region_held3 (fun w' => w'.cell? ⟨w.heap.size, 0, none⟩ = some (.string f1) ∧ w'.cell? ⟨w.heap.size, 1, none⟩ = some (.int .i64 l1) ∧ w'.cell? ⟨w.heap.size, 2, none⟩ = some (.int .i64 v1) ∧
      w'.cell? ⟨w.heap.size + 1, 0, none⟩ = some (.string f2) ∧ w'.cell? ⟨w.heap.size + 1, 1, none⟩ = some (.int .i64 l2) ∧ w'.cell? ⟨w.heap.size + 1, 2, none⟩ = some (.int .i64 v2)) (go_keep) (first
    | (go_at_call 18; refine (cmp18 f1 f2 _).mono ?_; rintro e w' ⟨rfl, rfl⟩)
    | (go_at_call 19; refine (cmp19 l1 l2 _).mono ?_; rintro e w' ⟨rfl, rfl⟩)
    | (go_at_call 20; refine (cmp20 v2 v1 _).mono ?_; rintro e w' ⟨rfl, rfl⟩)
    | (go_at_call 17; refine (or17 (w.heap.size + 2) (cB f1.data.toList f2.data.toList) (cI l1 l2) (cI v2 v1) _ (by go_simp) (by go_simp) (by go_simp)).mono ?_; rintro e w' ⟨rfl, rfl⟩))
  go_wp2_with fail
  go_ret
  exact ⟨rfl, ((((Below.refl _ _).alloc (Nat.le_refl _) _).alloc (by simp) _).alloc (by simp; omega) _).drew⟩

/-- A finding as a value. -/
abbrev fnd (f : ByteArray) (l v : Int) (m : ByteArray) : Value := .agg #[.string f, .int .i64 l, .int .i64 v, .string m, .pointer none]

set_option maxHeartbeats 400000 in
theorem cmp9 (f1 m1 f2 m2 : ByteArray) (l1 v1 l2 v2 : Int) (w : World) :
    Calls Try.prog 9 #[.agg #[.string f1, .int .i64 l1, .int .i64 v1, .string m1, .pointer none], .agg #[.string f2, .int .i64 l2, .int .i64 v2, .string m2, .pointer none]] w fun e w' => e = .returned (.int .i64 (cF f1.data.toList l1 v1 f2.data.toList l2 v2)) ∧ Below w.heap.size w w' := by
  go_enter Try.func9, Try.ntmps9
  go_wp2_with fail
  refine (cmp15 f1 m1 f2 m2 l1 v1 l2 v2 _).mono ?_
  rintro e w1 ⟨rfl, hb⟩
  go_wp2_with fail
  go_ret
  exact ⟨rfl, ((Below.refl _ _).alloc (Nat.le_refl _) _ |>.alloc (by simp) _).trans (hb.mono (by simp; omega))⟩

set_option maxHeartbeats 400000 in
theorem bytes7 (f1 m1 f2 m2 : ByteArray) (l1 v1 l2 v2 : Int) (w : World) (h1 : f1.size ≤ maxLen) (h2 : m1.size ≤ maxLen) (h3 : f2.size ≤ maxLen) (h4 : m2.size ≤ maxLen) :
    Calls Try.prog 7 #[.string f1, .int .i64 l1, .int .i64 v1, .string m1, .string f2, .int .i64 l2, .int .i64 v2, .string m2] w fun e w' => (∃ r : Bool, e = .returned (.bool r)) ∧ w = w' := by
  unfold maxLen at h1 h2 h3 h4
  go_enter Try.func7, Try.ntmps7
  go_wp2
  all_goals
    go_ret
    exact ⟨⟨_, rfl⟩, rfl⟩

set_option maxHeartbeats 400000 in
theorem bytes10 (f1 f2 f3 : ByteArray) (l1 v1 l2 v2 l3 v3 : Int) (w : World) (h1 : f1.size ≤ maxLen) (h2 : f2.size ≤ maxLen) (h3 : f3.size ≤ maxLen) :
    Calls Try.prog 10 #[.string f1, .int .i64 l1, .int .i64 v1, .string f2, .int .i64 l2, .int .i64 v2, .string f3, .int .i64 l3, .int .i64 v3] w fun e w' => (∃ r : Bool, e = .returned (.bool r)) ∧ w = w' := by
  unfold maxLen at h1 h2 h3
  go_enter Try.func10, Try.ntmps10
  go_wp2
  all_goals
    go_ret
    exact ⟨⟨_, rfl⟩, rfl⟩

theorem bcell {W w1 : World} (hb : Below W.heap.size W w1) : (∀ b o, b < W.heap.size → w1.cell? ⟨b, o, none⟩ = W.cell? ⟨b, o, none⟩) ∧ (∀ b o, b < W.heap.size → w1.frozen? ⟨b, o, none⟩ = W.frozen? ⟨b, o, none⟩) :=
  ⟨fun b o h => hb.cell (p := ⟨b, o, none⟩) h, fun b o h => hb.frozen (p := ⟨b, o, none⟩) h⟩

theorem bytes_ext {a b : ByteArray} (h : a.data.toList = b.data.toList) : a = b := by
  obtain ⟨⟨la⟩⟩ := a
  obtain ⟨⟨lb⟩⟩ := b
  simp at h
  rw [h]
theorem below4 {w w1 w2 w3 w4 : World} {c d : Obj} (h1 : Below w.heap.size w w1) (h2 : Below (w1.alloc c).heap.size (w1.alloc c) w2) (h3 : Below (w2.alloc d).heap.size (w2.alloc d) w3) (h4 : Below w3.heap.size w3 w4) : Below w.heap.size w w4 := by
  have s1 := h1.size
  have s2 := h2.size
  have s3 := h3.size
  simp at s2 s3
  exact ((((h1.alloc (by omega) c).trans (h2.mono (by simp; omega))).alloc (by omega) d).trans (h3.mono (by simp; omega))).trans (h4.mono (by omega))

theorem hide {p : Prop} (h : p) : Hid p := h

/-- The struct that lies in a block of its own: five cells. -/
theorem cell_kept {w w' : World} {B : Nat} (hb : Below B w w') {a : Addr} (ha : a.block < B) : w'.cell? a = w.cell? a := hb.cell ha

end Go.Proofs.Qxb6612981a
