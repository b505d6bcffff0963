/-
  THE WALK OF FnCompareFindingsAntisymmetricZeroAtSamePlace (function 3).
-/
import Derived.Test.Qxb6612981aCmpWalks
namespace Go.Proofs.Qxb6612981a
open Go.RowKit

set_option maxHeartbeats 1000000 in
set_option maxRecDepth 100000 in
theorem walk3 (f1 m1 f2 m2 : ByteArray) (l1 v1 l2 v2 : Int) (w : World) (h1 : f1.size ≤ maxLen) (h2 : m1.size ≤ maxLen) (h3 : f2.size ≤ maxLen) (h4 : m2.size ≤ maxLen) :
    Calls Try.prog 3 #[.string f1, .int .i64 l1, .int .i64 v1, .string m1, .string f2, .int .i64 l2, .int .i64 v2, .string m2] w fun e w' => e = .returned (.bool true) ∧ Below w.heap.size w w' := by
  have H1 := hide h1
  have H2 := hide h2
  have H3 := hide h3
  have H4 := hide h4
  unfold maxLen at h1 h2 h3 h4
  go_enter Try.func3, Try.ntmps3
  go_wp2_with fail
  refine (bytes7 f1 m1 f2 m2 l1 v1 l2 v2 _ H1.out H2.out H3.out H4.out).mono ?_
  rintro e w' ⟨⟨r, rfl⟩, rfl⟩
  cases r
  · go_wp2_with fail
    go_ret
    exact ⟨rfl, Below.refl _ _⟩
  go_wp2_with fail
  iterate 5
    · go_ret
      exact ⟨rfl, Below.refl _ _⟩
  refine (mk8 f1 m1 l1 v1 _).mono ?_
  rintro e w1 ⟨rfl, hb1⟩
  have HB1 := hide hb1
  clear hb1
  go_wp2_with fail
  refine (mk8 f2 m2 l2 v2 _).mono ?_
  rintro e w2 ⟨rfl, hb2⟩
  obtain ⟨hc2, hf2⟩ := bcell hb2
  have hz2 : w1.heap.size < w2.heap.size := by have := hb2.size; simp at this; omega
  have HB2 := hide hb2
  clear hb2
  go_wp2_with fail
  refine (cmp9 f1 m1 f2 m2 l1 v1 l2 v2 _).mono ?_
  rintro e w3 ⟨rfl, hb3⟩
  obtain ⟨hc3, hf3⟩ := bcell hb3
  have hz3 : w2.heap.size < w3.heap.size := by have := hb3.size; simp at this; omega
  have HB3 := hide hb3
  clear hb3
  go_wp2_with fail
  refine (cmp9 f2 m2 f1 m1 l2 v2 l1 v1 _).mono ?_
  rintro e w4 ⟨rfl, hb4⟩
  have HB4 := hide hb4
  clear hb4 hc2 hf2 hc3 hf3 hz2 hz3
  have HE := hide (below4 HB1.out HB2.out HB3.out HB4.out)
  clear HB1 HB2 HB3 HB4
  have hr := cF_range f1.data.toList f2.data.toList l1 v1 l2 v2
  have ha := cF_anti f1.data.toList f2.data.toList l1 v1 l2 v2
  have hzr := hide (cF_zero f1.data.toList f2.data.toList l1 v1 l2 v2)
  generalize cF f1.data.toList l1 v1 f2.data.toList l2 v2 = x at hr ha hzr ⊢
  generalize cF f2.data.toList l2 v2 f1.data.toList l1 v1 = y at ha ⊢
  obtain ⟨r1, r2⟩ := hr
  have ha' : (x != -y) = false := by simp [ha]
  have ry1 : -1 ≤ y := by omega
  have ry2 : y ≤ 1 := by omega
  clear ha
  by_cases hx : x = 0
  · obtain ⟨e1, rfl, rfl⟩ := hzr.out.1 hx
    obtain rfl := bytes_ext e1
    subst hx
    clear e1 hzr
    go_wp2_with fail
    go_ret
    exact ⟨rfl, HE.out⟩
  · have hx' : (x == 0) = false := by simp [hx]
    by_cases e1 : f1 = f2
    · subst e1
      by_cases e2 : l1 = l2
      · subst e2
        have e3 : (v1 == v2) = false := by
          rw [beq_eq_false_iff_ne]
          intro e3
          exact hx (hzr.out.2 ⟨rfl, rfl, e3⟩)
        clear hx hzr
        go_wp2_with fail
        go_ret
        exact ⟨rfl, HE.out⟩
      · have e2' : (l1 == l2) = false := by simp [e2]
        clear hx hzr e2
        go_wp2_with fail
        go_ret
        exact ⟨rfl, HE.out⟩
    · have e1' : (f1.toList == f2.toList) = false := by simp [ByteArray.toList_eq]; exact fun h => e1 (bytes_ext (by rw [h]))
      clear hx hzr e1
      go_wp2_with fail
      go_ret
      exact ⟨rfl, HE.out⟩

end Go.Proofs.Qxb6612981a
