/-
  THE WALK OF FnNewSourcePlacementOneMoreAsked (function 6): the inputs that the law passes over.
-/
import Derived.Test.Qxb6612939aOneWalk
namespace Go.Proofs.Qxb6612939a
open Go.RowKit

set_option maxHeartbeats 2000000 in
set_option maxRecDepth 100000 in
theorem walk6_long (id : ByteArray) (asked : Int) (an af ar au av az : Option Addr) (ln lf lr lu lv lz : List ByteArray) (cn cf cr cu cv cz : Nat) (w : World) (hid : id.size ≤ maxLen) (hA : Args w an af ar au av az ln lf lr lu lv lz) (mn : ln.length ≤ maxLen) (mf : lf.length ≤ maxLen) (mr : lr.length ≤ maxLen) (mu : lu.length ≤ maxLen) (mv : lv.length ≤ maxLen) (mz : lz.length ≤ maxLen)
    (hx : 65536 < id.size ∨ 65536 < ln.length ∨ 65536 < lf.length ∨ 65536 < lr.length ∨ 65536 < lu.length ∨ 65536 < lv.length ∨ 65536 < lz.length) :
    Calls Try.prog 6 #[.string id, .slice an ln.length cn, .slice af lf.length cf, .slice ar lr.length cr, .slice au lu.length cu, .int .i64 asked, .slice av lv.length cv, .slice az lz.length cz] w fun e w' => e = .returned (.bool true) ∧ Below w.heap.size w w' := by
  have HA := hide hA
  have M := hide (And.intro hid (And.intro mn (And.intro mf (And.intro mr (And.intro mu (And.intro mv mz))))))
  clear hA hid mn mf mr mu mv mz
  by_cases b0 : (65536 : Int) < id.size
  · clear hx
    go_enter Try.func6, Try.ntmps6
    go_wp2_with fail
    refine (bytes21 id asked an ln cn af lf cf ar lr cr au lu cu av lv cv az lz cz _ M.out.1 HA.out.n HA.out.f HA.out.r HA.out.u HA.out.v HA.out.z M.out.2.1 M.out.2.2.1 M.out.2.2.2.1 M.out.2.2.2.2.1 M.out.2.2.2.2.2.1 M.out.2.2.2.2.2.2).mono ?_
    rintro e w' ⟨⟨r, rfl⟩, rfl⟩
    cases r
    all_goals
      go_wp2_with fail
      go_ret
      exact ⟨rfl, Below.refl _ _⟩
  by_cases b1 : (65536 : Int) < ln.length
  · clear hx
    go_enter Try.func6, Try.ntmps6
    go_wp2_with fail
    refine (bytes21 id asked an ln cn af lf cf ar lr cr au lu cu av lv cv az lz cz _ M.out.1 HA.out.n HA.out.f HA.out.r HA.out.u HA.out.v HA.out.z M.out.2.1 M.out.2.2.1 M.out.2.2.2.1 M.out.2.2.2.2.1 M.out.2.2.2.2.2.1 M.out.2.2.2.2.2.2).mono ?_
    rintro e w' ⟨⟨r, rfl⟩, rfl⟩
    cases r
    all_goals
      go_wp2_with fail
      go_ret
      exact ⟨rfl, Below.refl _ _⟩
  by_cases b2 : (65536 : Int) < lf.length
  · clear hx
    go_enter Try.func6, Try.ntmps6
    go_wp2_with fail
    refine (bytes21 id asked an ln cn af lf cf ar lr cr au lu cu av lv cv az lz cz _ M.out.1 HA.out.n HA.out.f HA.out.r HA.out.u HA.out.v HA.out.z M.out.2.1 M.out.2.2.1 M.out.2.2.2.1 M.out.2.2.2.2.1 M.out.2.2.2.2.2.1 M.out.2.2.2.2.2.2).mono ?_
    rintro e w' ⟨⟨r, rfl⟩, rfl⟩
    cases r
    all_goals
      go_wp2_with fail
      go_ret
      exact ⟨rfl, Below.refl _ _⟩
  by_cases b3 : (65536 : Int) < lr.length
  · clear hx
    go_enter Try.func6, Try.ntmps6
    go_wp2_with fail
    refine (bytes21 id asked an ln cn af lf cf ar lr cr au lu cu av lv cv az lz cz _ M.out.1 HA.out.n HA.out.f HA.out.r HA.out.u HA.out.v HA.out.z M.out.2.1 M.out.2.2.1 M.out.2.2.2.1 M.out.2.2.2.2.1 M.out.2.2.2.2.2.1 M.out.2.2.2.2.2.2).mono ?_
    rintro e w' ⟨⟨r, rfl⟩, rfl⟩
    cases r
    all_goals
      go_wp2_with fail
      go_ret
      exact ⟨rfl, Below.refl _ _⟩
  by_cases b4 : (65536 : Int) < lu.length
  · clear hx
    go_enter Try.func6, Try.ntmps6
    go_wp2_with fail
    refine (bytes21 id asked an ln cn af lf cf ar lr cr au lu cu av lv cv az lz cz _ M.out.1 HA.out.n HA.out.f HA.out.r HA.out.u HA.out.v HA.out.z M.out.2.1 M.out.2.2.1 M.out.2.2.2.1 M.out.2.2.2.2.1 M.out.2.2.2.2.2.1 M.out.2.2.2.2.2.2).mono ?_
    rintro e w' ⟨⟨r, rfl⟩, rfl⟩
    cases r
    all_goals
      go_wp2_with fail
      go_ret
      exact ⟨rfl, Below.refl _ _⟩
  by_cases b5 : (65536 : Int) < lv.length
  · clear hx
    go_enter Try.func6, Try.ntmps6
    go_wp2_with fail
    refine (bytes21 id asked an ln cn af lf cf ar lr cr au lu cu av lv cv az lz cz _ M.out.1 HA.out.n HA.out.f HA.out.r HA.out.u HA.out.v HA.out.z M.out.2.1 M.out.2.2.1 M.out.2.2.2.1 M.out.2.2.2.2.1 M.out.2.2.2.2.2.1 M.out.2.2.2.2.2.2).mono ?_
    rintro e w' ⟨⟨r, rfl⟩, rfl⟩
    cases r
    all_goals
      go_wp2_with fail
      go_ret
      exact ⟨rfl, Below.refl _ _⟩
  have b6 : (65536 : Int) < lz.length := by omega
  clear hx
  go_enter Try.func6, Try.ntmps6
  go_wp2_with fail
  refine (bytes21 id asked an ln cn af lf cf ar lr cr au lu cu av lv cv az lz cz _ M.out.1 HA.out.n HA.out.f HA.out.r HA.out.u HA.out.v HA.out.z M.out.2.1 M.out.2.2.1 M.out.2.2.2.1 M.out.2.2.2.2.1 M.out.2.2.2.2.2.1 M.out.2.2.2.2.2.2).mono ?_
  rintro e w' ⟨⟨r, rfl⟩, rfl⟩
  cases r
  all_goals
    go_wp2_with fail
    go_ret
    exact ⟨rfl, Below.refl _ _⟩

set_option maxHeartbeats 2000000 in
set_option maxRecDepth 100000 in
theorem walk6_F (id : ByteArray) (asked : Int) (an af ar au av az : Option Addr) (ln lf lr lu lv lz : List ByteArray) (cn cf cr cu cv cz : Nat) (w : World) (hid : id.size ≤ 65536) (hA : Args w an af ar au av az ln lf lr lu lv lz) (mn : ln.length ≤ 65536) (mf : lf.length ≤ 65536) (mr : lr.length ≤ 65536) (mu : lu.length ≤ 65536) (mv : lv.length ≤ 65536) (mz : lz.length ≤ 65536)
    (b1 : ((lf.length : Int) != (ln.length : Int)) = true) :
    Calls Try.prog 6 #[.string id, .slice an ln.length cn, .slice af lf.length cf, .slice ar lr.length cr, .slice au lu.length cu, .int .i64 asked, .slice av lv.length cv, .slice az lz.length cz] w fun e w' => e = .returned (.bool true) ∧ Below w.heap.size w w' := by
  have HA := hide hA
  have M := hide (And.intro mn (And.intro mf (And.intro mr (And.intro mu (And.intro mv mz)))))
  clear hA
  go_enter Try.func6, Try.ntmps6
  go_wp2_with fail
  refine (bytes21 id asked an ln cn af lf cf ar lr cr au lu cu av lv cv az lz cz _ (by unfold maxLen; omega) HA.out.n HA.out.f HA.out.r HA.out.u HA.out.v HA.out.z (by unfold maxLen; omega) (by unfold maxLen; omega) (by unfold maxLen; omega) (by unfold maxLen; omega) (by unfold maxLen; omega) (by unfold maxLen; omega)).mono ?_
  rintro e w' ⟨⟨r, rfl⟩, rfl⟩
  cases r
  · go_wp2_with fail
    go_ret
    exact ⟨rfl, Below.refl _ _⟩
  go_wp2_with fail
  refine (strs8 _ an ln cn _ HA.out.n M.out.1).mono ?_
  rintro e w' ⟨⟨z0, rfl⟩, rfl⟩
  by_cases q0 : 1048576 < z0
  · go_wp2_with fail
    go_ret
    exact ⟨rfl, Below.refl _ _⟩
  go_wp2_with fail
  refine (strs8 _ af lf cf _ HA.out.f M.out.2.1).mono ?_
  rintro e w' ⟨⟨z1, rfl⟩, rfl⟩
  by_cases q1 : 1048576 < z1
  · go_wp2_with fail
    go_ret
    exact ⟨rfl, Below.refl _ _⟩
  go_wp2_with fail
  refine (strs8 _ ar lr cr _ HA.out.r M.out.2.2.1).mono ?_
  rintro e w' ⟨⟨z2, rfl⟩, rfl⟩
  by_cases q2 : 1048576 < z2
  · go_wp2_with fail
    go_ret
    exact ⟨rfl, Below.refl _ _⟩
  go_wp2_with fail
  refine (strs8 _ au lu cu _ HA.out.u M.out.2.2.2.1).mono ?_
  rintro e w' ⟨⟨z3, rfl⟩, rfl⟩
  by_cases q3 : 1048576 < z3
  · go_wp2_with fail
    go_ret
    exact ⟨rfl, Below.refl _ _⟩
  go_wp2_with fail
  refine (strs8 _ av lv cv _ HA.out.v M.out.2.2.2.2.1).mono ?_
  rintro e w' ⟨⟨z4, rfl⟩, rfl⟩
  by_cases q4 : 1048576 < z4
  · go_wp2_with fail
    go_ret
    exact ⟨rfl, Below.refl _ _⟩
  go_wp2_with fail
  refine (strs8 _ az lz cz _ HA.out.z M.out.2.2.2.2.2).mono ?_
  rintro e w' ⟨⟨z5, rfl⟩, rfl⟩
  by_cases q5 : 1048576 < z5
  · go_wp2_with fail
    go_ret
    exact ⟨rfl, Below.refl _ _⟩
  go_wp2_with fail
  go_ret
  exact ⟨rfl, Below.refl _ _⟩

set_option maxHeartbeats 2000000 in
set_option maxRecDepth 100000 in
theorem walk6_R (id : ByteArray) (asked : Int) (an af ar au av az : Option Addr) (ln lf lr lu lv lz : List ByteArray) (cn cf cr cu cv cz : Nat) (w : World) (hid : id.size ≤ 65536) (hA : Args w an af ar au av az ln lf lr lu lv lz) (mn : ln.length ≤ 65536) (mf : lf.length ≤ 65536) (mr : lr.length ≤ 65536) (mu : lu.length ≤ 65536) (mv : lv.length ≤ 65536) (mz : lz.length ≤ 65536)
    (b1 : ((lf.length : Int) != (ln.length : Int)) = false) (b2 : ((lr.length : Int) != (ln.length : Int)) = true) :
    Calls Try.prog 6 #[.string id, .slice an ln.length cn, .slice af lf.length cf, .slice ar lr.length cr, .slice au lu.length cu, .int .i64 asked, .slice av lv.length cv, .slice az lz.length cz] w fun e w' => e = .returned (.bool true) ∧ Below w.heap.size w w' := by
  have HA := hide hA
  have M := hide (And.intro mn (And.intro mf (And.intro mr (And.intro mu (And.intro mv mz)))))
  clear hA
  go_enter Try.func6, Try.ntmps6
  go_wp2_with fail
  refine (bytes21 id asked an ln cn af lf cf ar lr cr au lu cu av lv cv az lz cz _ (by unfold maxLen; omega) HA.out.n HA.out.f HA.out.r HA.out.u HA.out.v HA.out.z (by unfold maxLen; omega) (by unfold maxLen; omega) (by unfold maxLen; omega) (by unfold maxLen; omega) (by unfold maxLen; omega) (by unfold maxLen; omega)).mono ?_
  rintro e w' ⟨⟨r, rfl⟩, rfl⟩
  cases r
  · go_wp2_with fail
    go_ret
    exact ⟨rfl, Below.refl _ _⟩
  go_wp2_with fail
  refine (strs8 _ an ln cn _ HA.out.n M.out.1).mono ?_
  rintro e w' ⟨⟨z0, rfl⟩, rfl⟩
  by_cases q0 : 1048576 < z0
  · go_wp2_with fail
    go_ret
    exact ⟨rfl, Below.refl _ _⟩
  go_wp2_with fail
  refine (strs8 _ af lf cf _ HA.out.f M.out.2.1).mono ?_
  rintro e w' ⟨⟨z1, rfl⟩, rfl⟩
  by_cases q1 : 1048576 < z1
  · go_wp2_with fail
    go_ret
    exact ⟨rfl, Below.refl _ _⟩
  go_wp2_with fail
  refine (strs8 _ ar lr cr _ HA.out.r M.out.2.2.1).mono ?_
  rintro e w' ⟨⟨z2, rfl⟩, rfl⟩
  by_cases q2 : 1048576 < z2
  · go_wp2_with fail
    go_ret
    exact ⟨rfl, Below.refl _ _⟩
  go_wp2_with fail
  refine (strs8 _ au lu cu _ HA.out.u M.out.2.2.2.1).mono ?_
  rintro e w' ⟨⟨z3, rfl⟩, rfl⟩
  by_cases q3 : 1048576 < z3
  · go_wp2_with fail
    go_ret
    exact ⟨rfl, Below.refl _ _⟩
  go_wp2_with fail
  refine (strs8 _ av lv cv _ HA.out.v M.out.2.2.2.2.1).mono ?_
  rintro e w' ⟨⟨z4, rfl⟩, rfl⟩
  by_cases q4 : 1048576 < z4
  · go_wp2_with fail
    go_ret
    exact ⟨rfl, Below.refl _ _⟩
  go_wp2_with fail
  refine (strs8 _ az lz cz _ HA.out.z M.out.2.2.2.2.2).mono ?_
  rintro e w' ⟨⟨z5, rfl⟩, rfl⟩
  by_cases q5 : 1048576 < z5
  · go_wp2_with fail
    go_ret
    exact ⟨rfl, Below.refl _ _⟩
  go_wp2_with fail
  go_ret
  exact ⟨rfl, Below.refl _ _⟩

set_option maxHeartbeats 2000000 in
set_option maxRecDepth 100000 in
theorem walk6_U (id : ByteArray) (asked : Int) (an af ar au av az : Option Addr) (ln lf lr lu lv lz : List ByteArray) (cn cf cr cu cv cz : Nat) (w : World) (hid : id.size ≤ 65536) (hA : Args w an af ar au av az ln lf lr lu lv lz) (mn : ln.length ≤ 65536) (mf : lf.length ≤ 65536) (mr : lr.length ≤ 65536) (mu : lu.length ≤ 65536) (mv : lv.length ≤ 65536) (mz : lz.length ≤ 65536)
    (b1 : ((lf.length : Int) != (ln.length : Int)) = false) (b2 : ((lr.length : Int) != (ln.length : Int)) = false) (b3 : ((lu.length : Int) != (ln.length : Int)) = true) :
    Calls Try.prog 6 #[.string id, .slice an ln.length cn, .slice af lf.length cf, .slice ar lr.length cr, .slice au lu.length cu, .int .i64 asked, .slice av lv.length cv, .slice az lz.length cz] w fun e w' => e = .returned (.bool true) ∧ Below w.heap.size w w' := by
  have HA := hide hA
  have M := hide (And.intro mn (And.intro mf (And.intro mr (And.intro mu (And.intro mv mz)))))
  clear hA
  go_enter Try.func6, Try.ntmps6
  go_wp2_with fail
  refine (bytes21 id asked an ln cn af lf cf ar lr cr au lu cu av lv cv az lz cz _ (by unfold maxLen; omega) HA.out.n HA.out.f HA.out.r HA.out.u HA.out.v HA.out.z (by unfold maxLen; omega) (by unfold maxLen; omega) (by unfold maxLen; omega) (by unfold maxLen; omega) (by unfold maxLen; omega) (by unfold maxLen; omega)).mono ?_
  rintro e w' ⟨⟨r, rfl⟩, rfl⟩
  cases r
  · go_wp2_with fail
    go_ret
    exact ⟨rfl, Below.refl _ _⟩
  go_wp2_with fail
  refine (strs8 _ an ln cn _ HA.out.n M.out.1).mono ?_
  rintro e w' ⟨⟨z0, rfl⟩, rfl⟩
  by_cases q0 : 1048576 < z0
  · go_wp2_with fail
    go_ret
    exact ⟨rfl, Below.refl _ _⟩
  go_wp2_with fail
  refine (strs8 _ af lf cf _ HA.out.f M.out.2.1).mono ?_
  rintro e w' ⟨⟨z1, rfl⟩, rfl⟩
  by_cases q1 : 1048576 < z1
  · go_wp2_with fail
    go_ret
    exact ⟨rfl, Below.refl _ _⟩
  go_wp2_with fail
  refine (strs8 _ ar lr cr _ HA.out.r M.out.2.2.1).mono ?_
  rintro e w' ⟨⟨z2, rfl⟩, rfl⟩
  by_cases q2 : 1048576 < z2
  · go_wp2_with fail
    go_ret
    exact ⟨rfl, Below.refl _ _⟩
  go_wp2_with fail
  refine (strs8 _ au lu cu _ HA.out.u M.out.2.2.2.1).mono ?_
  rintro e w' ⟨⟨z3, rfl⟩, rfl⟩
  by_cases q3 : 1048576 < z3
  · go_wp2_with fail
    go_ret
    exact ⟨rfl, Below.refl _ _⟩
  go_wp2_with fail
  refine (strs8 _ av lv cv _ HA.out.v M.out.2.2.2.2.1).mono ?_
  rintro e w' ⟨⟨z4, rfl⟩, rfl⟩
  by_cases q4 : 1048576 < z4
  · go_wp2_with fail
    go_ret
    exact ⟨rfl, Below.refl _ _⟩
  go_wp2_with fail
  refine (strs8 _ az lz cz _ HA.out.z M.out.2.2.2.2.2).mono ?_
  rintro e w' ⟨⟨z5, rfl⟩, rfl⟩
  by_cases q5 : 1048576 < z5
  · go_wp2_with fail
    go_ret
    exact ⟨rfl, Below.refl _ _⟩
  go_wp2_with fail
  go_ret
  exact ⟨rfl, Below.refl _ _⟩

set_option maxHeartbeats 2000000 in
set_option maxRecDepth 100000 in
theorem walk6_lo (id : ByteArray) (asked : Int) (an af ar au av az : Option Addr) (ln lf lr lu lv lz : List ByteArray) (cn cf cr cu cv cz : Nat) (w : World) (hid : id.size ≤ 65536) (hA : Args w an af ar au av az ln lf lr lu lv lz) (mn : ln.length ≤ 65536) (mf : lf.length ≤ 65536) (mr : lr.length ≤ 65536) (mu : lu.length ≤ 65536) (mv : lv.length ≤ 65536) (mz : lz.length ≤ 65536)
    (b1 : ((lf.length : Int) != (ln.length : Int)) = false) (b2 : ((lr.length : Int) != (ln.length : Int)) = false) (b3 : ((lu.length : Int) != (ln.length : Int)) = false) (b4 : asked < -1073741824) :
    Calls Try.prog 6 #[.string id, .slice an ln.length cn, .slice af lf.length cf, .slice ar lr.length cr, .slice au lu.length cu, .int .i64 asked, .slice av lv.length cv, .slice az lz.length cz] w fun e w' => e = .returned (.bool true) ∧ Below w.heap.size w w' := by
  have HA := hide hA
  have M := hide (And.intro mn (And.intro mf (And.intro mr (And.intro mu (And.intro mv mz)))))
  clear hA
  go_enter Try.func6, Try.ntmps6
  go_wp2_with fail
  refine (bytes21 id asked an ln cn af lf cf ar lr cr au lu cu av lv cv az lz cz _ (by unfold maxLen; omega) HA.out.n HA.out.f HA.out.r HA.out.u HA.out.v HA.out.z (by unfold maxLen; omega) (by unfold maxLen; omega) (by unfold maxLen; omega) (by unfold maxLen; omega) (by unfold maxLen; omega) (by unfold maxLen; omega)).mono ?_
  rintro e w' ⟨⟨r, rfl⟩, rfl⟩
  cases r
  · go_wp2_with fail
    go_ret
    exact ⟨rfl, Below.refl _ _⟩
  go_wp2_with fail
  refine (strs8 _ an ln cn _ HA.out.n M.out.1).mono ?_
  rintro e w' ⟨⟨z0, rfl⟩, rfl⟩
  by_cases q0 : 1048576 < z0
  · go_wp2_with fail
    go_ret
    exact ⟨rfl, Below.refl _ _⟩
  go_wp2_with fail
  refine (strs8 _ af lf cf _ HA.out.f M.out.2.1).mono ?_
  rintro e w' ⟨⟨z1, rfl⟩, rfl⟩
  by_cases q1 : 1048576 < z1
  · go_wp2_with fail
    go_ret
    exact ⟨rfl, Below.refl _ _⟩
  go_wp2_with fail
  refine (strs8 _ ar lr cr _ HA.out.r M.out.2.2.1).mono ?_
  rintro e w' ⟨⟨z2, rfl⟩, rfl⟩
  by_cases q2 : 1048576 < z2
  · go_wp2_with fail
    go_ret
    exact ⟨rfl, Below.refl _ _⟩
  go_wp2_with fail
  refine (strs8 _ au lu cu _ HA.out.u M.out.2.2.2.1).mono ?_
  rintro e w' ⟨⟨z3, rfl⟩, rfl⟩
  by_cases q3 : 1048576 < z3
  · go_wp2_with fail
    go_ret
    exact ⟨rfl, Below.refl _ _⟩
  go_wp2_with fail
  refine (strs8 _ av lv cv _ HA.out.v M.out.2.2.2.2.1).mono ?_
  rintro e w' ⟨⟨z4, rfl⟩, rfl⟩
  by_cases q4 : 1048576 < z4
  · go_wp2_with fail
    go_ret
    exact ⟨rfl, Below.refl _ _⟩
  go_wp2_with fail
  refine (strs8 _ az lz cz _ HA.out.z M.out.2.2.2.2.2).mono ?_
  rintro e w' ⟨⟨z5, rfl⟩, rfl⟩
  by_cases q5 : 1048576 < z5
  · go_wp2_with fail
    go_ret
    exact ⟨rfl, Below.refl _ _⟩
  go_wp2_with fail
  go_ret
  exact ⟨rfl, Below.refl _ _⟩

set_option maxHeartbeats 2000000 in
set_option maxRecDepth 100000 in
theorem walk6_hi (id : ByteArray) (asked : Int) (an af ar au av az : Option Addr) (ln lf lr lu lv lz : List ByteArray) (cn cf cr cu cv cz : Nat) (w : World) (hid : id.size ≤ 65536) (hA : Args w an af ar au av az ln lf lr lu lv lz) (mn : ln.length ≤ 65536) (mf : lf.length ≤ 65536) (mr : lr.length ≤ 65536) (mu : lu.length ≤ 65536) (mv : lv.length ≤ 65536) (mz : lz.length ≤ 65536)
    (b1 : ((lf.length : Int) != (ln.length : Int)) = false) (b2 : ((lr.length : Int) != (ln.length : Int)) = false) (b3 : ((lu.length : Int) != (ln.length : Int)) = false) (b4 : 1073741824 < asked) :
    Calls Try.prog 6 #[.string id, .slice an ln.length cn, .slice af lf.length cf, .slice ar lr.length cr, .slice au lu.length cu, .int .i64 asked, .slice av lv.length cv, .slice az lz.length cz] w fun e w' => e = .returned (.bool true) ∧ Below w.heap.size w w' := by
  have HA := hide hA
  have M := hide (And.intro mn (And.intro mf (And.intro mr (And.intro mu (And.intro mv mz)))))
  clear hA
  go_enter Try.func6, Try.ntmps6
  go_wp2_with fail
  refine (bytes21 id asked an ln cn af lf cf ar lr cr au lu cu av lv cv az lz cz _ (by unfold maxLen; omega) HA.out.n HA.out.f HA.out.r HA.out.u HA.out.v HA.out.z (by unfold maxLen; omega) (by unfold maxLen; omega) (by unfold maxLen; omega) (by unfold maxLen; omega) (by unfold maxLen; omega) (by unfold maxLen; omega)).mono ?_
  rintro e w' ⟨⟨r, rfl⟩, rfl⟩
  cases r
  · go_wp2_with fail
    go_ret
    exact ⟨rfl, Below.refl _ _⟩
  go_wp2_with fail
  refine (strs8 _ an ln cn _ HA.out.n M.out.1).mono ?_
  rintro e w' ⟨⟨z0, rfl⟩, rfl⟩
  by_cases q0 : 1048576 < z0
  · go_wp2_with fail
    go_ret
    exact ⟨rfl, Below.refl _ _⟩
  go_wp2_with fail
  refine (strs8 _ af lf cf _ HA.out.f M.out.2.1).mono ?_
  rintro e w' ⟨⟨z1, rfl⟩, rfl⟩
  by_cases q1 : 1048576 < z1
  · go_wp2_with fail
    go_ret
    exact ⟨rfl, Below.refl _ _⟩
  go_wp2_with fail
  refine (strs8 _ ar lr cr _ HA.out.r M.out.2.2.1).mono ?_
  rintro e w' ⟨⟨z2, rfl⟩, rfl⟩
  by_cases q2 : 1048576 < z2
  · go_wp2_with fail
    go_ret
    exact ⟨rfl, Below.refl _ _⟩
  go_wp2_with fail
  refine (strs8 _ au lu cu _ HA.out.u M.out.2.2.2.1).mono ?_
  rintro e w' ⟨⟨z3, rfl⟩, rfl⟩
  by_cases q3 : 1048576 < z3
  · go_wp2_with fail
    go_ret
    exact ⟨rfl, Below.refl _ _⟩
  go_wp2_with fail
  refine (strs8 _ av lv cv _ HA.out.v M.out.2.2.2.2.1).mono ?_
  rintro e w' ⟨⟨z4, rfl⟩, rfl⟩
  by_cases q4 : 1048576 < z4
  · go_wp2_with fail
    go_ret
    exact ⟨rfl, Below.refl _ _⟩
  go_wp2_with fail
  refine (strs8 _ az lz cz _ HA.out.z M.out.2.2.2.2.2).mono ?_
  rintro e w' ⟨⟨z5, rfl⟩, rfl⟩
  by_cases q5 : 1048576 < z5
  · go_wp2_with fail
    go_ret
    exact ⟨rfl, Below.refl _ _⟩
  go_wp2_with fail
  go_ret
  exact ⟨rfl, Below.refl _ _⟩

theorem walk6_all (id : ByteArray) (asked : Int) (an af ar au av az : Option Addr) (ln lf lr lu lv lz : List ByteArray) (cn cf cr cu cv cz : Nat) (w : World) (hid : id.size ≤ maxLen) (hA : Args w an af ar au av az ln lf lr lu lv lz) (mn : ln.length ≤ maxLen) (mf : lf.length ≤ maxLen) (mr : lr.length ≤ maxLen) (mu : lu.length ≤ maxLen) (mv : lv.length ≤ maxLen) (mz : lz.length ≤ maxLen) :
    Calls Try.prog 6 #[.string id, .slice an ln.length cn, .slice af lf.length cf, .slice ar lr.length cr, .slice au lu.length cu, .int .i64 asked, .slice av lv.length cv, .slice az lz.length cz] w fun e w' => e = .returned (.bool true) ∧ Below w.heap.size w w' := by
  by_cases hl : id.size ≤ 65536 ∧ ln.length ≤ 65536 ∧ lf.length ≤ 65536 ∧ lr.length ≤ 65536 ∧ lu.length ≤ 65536 ∧ lv.length ≤ 65536 ∧ lz.length ≤ 65536
  · obtain ⟨g0, g1, g2, g3, g4, g5, g6⟩ := hl
    by_cases b1 : lf.length = ln.length
    · have b1' : ((lf.length : Int) != (ln.length : Int)) = false := by simp [b1]
      by_cases b2 : lr.length = ln.length
      · have b2' : ((lr.length : Int) != (ln.length : Int)) = false := by simp [b2]
        by_cases b3 : lu.length = ln.length
        · have b3' : ((lu.length : Int) != (ln.length : Int)) = false := by simp [b3]
          by_cases b4 : asked < -1073741824
          · exact walk6_lo id asked an af ar au av az ln lf lr lu lv lz cn cf cr cu cv cz w g0 hA g1 g2 g3 g4 g5 g6 b1' b2' b3' b4
          · by_cases b5 : 1073741824 < asked
            · exact walk6_hi id asked an af ar au av az ln lf lr lu lv lz cn cf cr cu cv cz w g0 hA g1 g2 g3 g4 g5 g6 b1' b2' b3' b5
            · exact walk6 id asked an af ar au av az ln lf lr lu lv lz cn cf cr cu cv cz w g0 hA g1 g2 g3 g4 g5 g6 b1 b2 b3 (by omega) (by omega)
        · exact walk6_U id asked an af ar au av az ln lf lr lu lv lz cn cf cr cu cv cz w g0 hA g1 g2 g3 g4 g5 g6 b1' b2' (by rw [bne_iff_ne]; omega)
      · exact walk6_R id asked an af ar au av az ln lf lr lu lv lz cn cf cr cu cv cz w g0 hA g1 g2 g3 g4 g5 g6 b1' (by rw [bne_iff_ne]; omega)
    · exact walk6_F id asked an af ar au av az ln lf lr lu lv lz cn cf cr cu cv cz w g0 hA g1 g2 g3 g4 g5 g6 (by rw [bne_iff_ne]; omega)
  · exact walk6_long id asked an af ar au av az ln lf lr lu lv lz cn cf cr cu cv cz w hid hA mn mf mr mu mv mz (by omega)

end Go.Proofs.Qxb6612939a
