import Derived.Test.Qxb6612898aEwVote
namespace Go.Proofs.Qxb6612898a.EW
open Go.RowKit
/-- The j-th of the 128 numbers. -/
def hj (x : Int) : Nat → Int
  | 0 => x
  | j + 1 => IntKind.u64.wrap (hj x j + 11400714785074694791)
/-- The lesser. -/
def lmin (x : Int) (L : Nat → Int) (j : Nat) : Int := if av (hj x j) < L j then av (hj x j) else L j
def lf (L : Nat → Int) (j : Nat) : Value := .int .u64 (L j)

theorem least_step {w wr : World} {T t n k : Nat} {L : Nat → Int} {x : Int} (H : wr.rowIs T t n (lf fun i => if i < k then lmin x L i else L i) ∧ w.grownBy wr (some T)) (h : av (hj x k) < L k) :
    (wr.setCell ⟨T, k, none⟩ (.int .u64 (av (hj x k)))).rowIs T t n (lf fun i => if i < k + 1 then lmin x L i else L i) ∧ w.grownBy (wr.setCell ⟨T, k, none⟩ (.int .u64 (av (hj x k)))) (some T) := by
  refine ⟨World.rowIs.congr (World.rowIs.set H.1 k _) fun i _ => ?_, grown_set H.2 _ _⟩
  unfold lf
  by_cases e : i = k
  · subst e; simp [lmin, h]
  · by_cases h1 : i < k
    · simp [e, h1, show i < k + 1 by omega]
    · simp [e, h1, show ¬ i < k + 1 by omega]
theorem least_keep {w wr : World} {T t n k : Nat} {L : Nat → Int} {x : Int} (H : wr.rowIs T t n (lf fun i => if i < k then lmin x L i else L i) ∧ w.grownBy wr (some T)) (h : ¬ av (hj x k) < L k) :
    wr.rowIs T t n (lf fun i => if i < k + 1 then lmin x L i else L i) ∧ w.grownBy wr (some T) := by
  refine ⟨World.rowIs.congr H.1 fun i _ => ?_, H.2⟩
  unfold lf
  by_cases e : i = k
  · subst e; simp [lmin, h]
  · by_cases h1 : i < k
    · simp [h1, show i < k + 1 by omega]
    · simp [h1, show ¬ i < k + 1 by omega]

set_option maxHeartbeats 1600000 in
set_option maxRecDepth 100000 in
theorem least40 (T t : Nat) (L : Nat → Int) (x : Int) (w : World) (hr : w.rowIs T t 128 (lf L)) :
    Calls Try.prog 40 #[.pointer (some ⟨T, 0, none⟩), .int .u64 x] w fun e w' => e = .returned (.tuple #[]) ∧ w'.rowIs T t 128 (lf (lmin x L)) ∧ w.grownBy w' (some T) := by
  have HR := hide hr
  clear hr
  go_enter Try.func40, Try.ntmps40
  go_wp2_with fail
  go_loopw [1, 6] (fun xv iv wr => ∃ (k : Nat), k ≤ 128 ∧ iv = .int .i64 k ∧ xv = .int .u64 (hj x k) ∧ Hid (wr.rowIs T t 128 (lf fun i => if i < k then lmin x L i else L i) ∧ w.grownBy wr (some T))) (fun _ iv _ => 128 - natOf iv)
  case atStart => exact ⟨0, by omega, rfl, rfl, by simpa using HR.out, World.grownBy.refl _ _⟩
  case round =>
    obtain ⟨k, hk, rfl, rfl, H⟩ := hrel
    by_cases hlt : k < 128
    · have hi : (k : Int) < 128 := by omega
      have c0 : wr.cell? ⟨T, k, none⟩ = some (.int .u64 (L k)) := by
        rw [World.rowIs.cell H.out.1 (by omega)]; simp [lf]
      have f0 : wr.frozen? ⟨T, k, none⟩ = false := World.rowIs.frozen H.out.1 k
      by_cases hc : av (hj x k) < L k
      · have HS := hide (least_step H.out hc)
        go_wp2_with fail
        refine (av30 _ _).mono ?_
        rintro e w1 ⟨rfl, rfl⟩
        go_wp2_with fail
        go_roundw
        case rel => exact ⟨k + 1, by omega, by simp, rfl, HS.out⟩
        case measure => simp [natOf]; omega
      · have HS := hide (least_keep H.out hc)
        have hc' : L k ≤ av (hj x k) := by omega
        go_wp2_with fail
        refine (av30 _ _).mono ?_
        rintro e w1 ⟨rfl, rfl⟩
        go_wp2_with fail
        go_roundw
        case rel => exact ⟨k + 1, by omega, by simp, rfl, HS.out⟩
        case measure => simp [natOf]; omega
    · have hi : (128 : Int) ≤ k := by omega
      have hq : k = 128 := by omega
      subst hq
      go_wp2_with fail
      go_end0
      refine ⟨rfl, World.rowIs.congr H.out.1 fun i h => ?_, H.out.2⟩
      simp [lf, h]
end Go.Proofs.Qxb6612898a.EW
