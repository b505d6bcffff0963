/-
  THE WALK OF FnNewSourcePlacementCut (function 5): the inputs that are too long; all inputs.
-/
import Derived.Test.Qxb6612939aCutWalk
namespace Go.Proofs.Qxb6612939a
open Go.RowKit

set_option maxHeartbeats 2000000 in
set_option maxRecDepth 100000 in
theorem walk5_long (id : ByteArray) (asked k0 : Int) (an af ar au av az : Option Addr) (ln lf lr lu lv lz : List ByteArray) (cn cf cr cu cv cz : Nat) (w : World) (hid : id.size ≤ maxLen) (hA : Args w an af ar au av az ln lf lr lu lv lz) (mn : ln.length ≤ maxLen) (mf : lf.length ≤ maxLen) (mr : lr.length ≤ maxLen) (mu : lu.length ≤ maxLen) (mv : lv.length ≤ maxLen) (mz : lz.length ≤ maxLen)
    (hx : 65536 < id.size ∨ 65536 < ln.length ∨ 65536 < lf.length ∨ 65536 < lr.length ∨ 65536 < lu.length ∨ 65536 < lv.length ∨ 65536 < lz.length) :
    Calls Try.prog 5 #[.string id, .slice an ln.length cn, .slice af lf.length cf, .slice ar lr.length cr, .slice au lu.length cu, .int .i64 asked, .slice av lv.length cv, .slice az lz.length cz, .int .i64 k0] w fun e w' => e = .returned (.bool true) ∧ Below w.heap.size w w' := by
  have HA := hide hA
  have M := hide (And.intro hid (And.intro mn (And.intro mf (And.intro mr (And.intro mu (And.intro mv mz))))))
  clear hA hid mn mf mr mu mv mz
  by_cases b0 : (65536 : Int) < id.size
  · clear hx
    go_enter Try.func5, Try.ntmps5
    go_wp2_with fail
    refine (bytes17 id asked k0 an ln cn af lf cf ar lr cr au lu cu av lv cv az lz cz _ M.out.1 HA.out.n HA.out.f HA.out.r HA.out.u HA.out.v HA.out.z M.out.2.1 M.out.2.2.1 M.out.2.2.2.1 M.out.2.2.2.2.1 M.out.2.2.2.2.2.1 M.out.2.2.2.2.2.2).mono ?_
    rintro e w' ⟨⟨r, rfl⟩, rfl⟩
    cases r
    all_goals
      go_wp2_with fail
      go_ret
      exact ⟨rfl, Below.refl _ _⟩
  by_cases b1 : (65536 : Int) < ln.length
  · clear hx
    go_enter Try.func5, Try.ntmps5
    go_wp2_with fail
    refine (bytes17 id asked k0 an ln cn af lf cf ar lr cr au lu cu av lv cv az lz cz _ M.out.1 HA.out.n HA.out.f HA.out.r HA.out.u HA.out.v HA.out.z M.out.2.1 M.out.2.2.1 M.out.2.2.2.1 M.out.2.2.2.2.1 M.out.2.2.2.2.2.1 M.out.2.2.2.2.2.2).mono ?_
    rintro e w' ⟨⟨r, rfl⟩, rfl⟩
    cases r
    all_goals
      go_wp2_with fail
      go_ret
      exact ⟨rfl, Below.refl _ _⟩
  by_cases b2 : (65536 : Int) < lf.length
  · clear hx
    go_enter Try.func5, Try.ntmps5
    go_wp2_with fail
    refine (bytes17 id asked k0 an ln cn af lf cf ar lr cr au lu cu av lv cv az lz cz _ M.out.1 HA.out.n HA.out.f HA.out.r HA.out.u HA.out.v HA.out.z M.out.2.1 M.out.2.2.1 M.out.2.2.2.1 M.out.2.2.2.2.1 M.out.2.2.2.2.2.1 M.out.2.2.2.2.2.2).mono ?_
    rintro e w' ⟨⟨r, rfl⟩, rfl⟩
    cases r
    all_goals
      go_wp2_with fail
      go_ret
      exact ⟨rfl, Below.refl _ _⟩
  by_cases b3 : (65536 : Int) < lr.length
  · clear hx
    go_enter Try.func5, Try.ntmps5
    go_wp2_with fail
    refine (bytes17 id asked k0 an ln cn af lf cf ar lr cr au lu cu av lv cv az lz cz _ M.out.1 HA.out.n HA.out.f HA.out.r HA.out.u HA.out.v HA.out.z M.out.2.1 M.out.2.2.1 M.out.2.2.2.1 M.out.2.2.2.2.1 M.out.2.2.2.2.2.1 M.out.2.2.2.2.2.2).mono ?_
    rintro e w' ⟨⟨r, rfl⟩, rfl⟩
    cases r
    all_goals
      go_wp2_with fail
      go_ret
      exact ⟨rfl, Below.refl _ _⟩
  by_cases b4 : (65536 : Int) < lu.length
  · clear hx
    go_enter Try.func5, Try.ntmps5
    go_wp2_with fail
    refine (bytes17 id asked k0 an ln cn af lf cf ar lr cr au lu cu av lv cv az lz cz _ M.out.1 HA.out.n HA.out.f HA.out.r HA.out.u HA.out.v HA.out.z M.out.2.1 M.out.2.2.1 M.out.2.2.2.1 M.out.2.2.2.2.1 M.out.2.2.2.2.2.1 M.out.2.2.2.2.2.2).mono ?_
    rintro e w' ⟨⟨r, rfl⟩, rfl⟩
    cases r
    all_goals
      go_wp2_with fail
      go_ret
      exact ⟨rfl, Below.refl _ _⟩
  by_cases b5 : (65536 : Int) < lv.length
  · clear hx
    go_enter Try.func5, Try.ntmps5
    go_wp2_with fail
    refine (bytes17 id asked k0 an ln cn af lf cf ar lr cr au lu cu av lv cv az lz cz _ M.out.1 HA.out.n HA.out.f HA.out.r HA.out.u HA.out.v HA.out.z M.out.2.1 M.out.2.2.1 M.out.2.2.2.1 M.out.2.2.2.2.1 M.out.2.2.2.2.2.1 M.out.2.2.2.2.2.2).mono ?_
    rintro e w' ⟨⟨r, rfl⟩, rfl⟩
    cases r
    all_goals
      go_wp2_with fail
      go_ret
      exact ⟨rfl, Below.refl _ _⟩
  have b6 : (65536 : Int) < lz.length := by omega
  clear hx
  go_enter Try.func5, Try.ntmps5
  go_wp2_with fail
  refine (bytes17 id asked k0 an ln cn af lf cf ar lr cr au lu cu av lv cv az lz cz _ M.out.1 HA.out.n HA.out.f HA.out.r HA.out.u HA.out.v HA.out.z M.out.2.1 M.out.2.2.1 M.out.2.2.2.1 M.out.2.2.2.2.1 M.out.2.2.2.2.2.1 M.out.2.2.2.2.2.2).mono ?_
  rintro e w' ⟨⟨r, rfl⟩, rfl⟩
  cases r
  all_goals
    go_wp2_with fail
    go_ret
    exact ⟨rfl, Below.refl _ _⟩

theorem walk5_all (id : ByteArray) (asked k0 : Int) (an af ar au av az : Option Addr) (ln lf lr lu lv lz : List ByteArray) (cn cf cr cu cv cz : Nat) (w : World) (hid : id.size ≤ maxLen) (hA : Args w an af ar au av az ln lf lr lu lv lz) (mn : ln.length ≤ maxLen) (mf : lf.length ≤ maxLen) (mr : lr.length ≤ maxLen) (mu : lu.length ≤ maxLen) (mv : lv.length ≤ maxLen) (mz : lz.length ≤ maxLen) (hk2 : asked ≤ 9223372036854775807) :
    Calls Try.prog 5 #[.string id, .slice an ln.length cn, .slice af lf.length cf, .slice ar lr.length cr, .slice au lu.length cu, .int .i64 asked, .slice av lv.length cv, .slice az lz.length cz, .int .i64 k0] w fun e w' => e = .returned (.bool true) ∧ Below w.heap.size w w' := by
  by_cases hl : id.size ≤ 65536 ∧ ln.length ≤ 65536 ∧ lf.length ≤ 65536 ∧ lr.length ≤ 65536 ∧ lu.length ≤ 65536 ∧ lv.length ≤ 65536 ∧ lz.length ≤ 65536
  · obtain ⟨g0, g1, g2, g3, g4, g5, g6⟩ := hl
    exact walk5 id asked k0 an af ar au av az ln lf lr lu lv lz cn cf cr cu cv cz w g0 hA g1 g2 g3 g4 g5 g6 hk2
  · exact walk5_long id asked k0 an af ar au av az ln lf lr lu lv lz cn cf cr cu cv cz w hid hA mn mf mr mu mv mz (by omega)

end Go.Proofs.Qxb6612939a
