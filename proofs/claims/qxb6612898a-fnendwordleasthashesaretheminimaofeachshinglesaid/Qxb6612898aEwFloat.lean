/-
  FLOATS (EndWord): the same or both not a number; sums.
-/
import Derived.Test.Qxb6612898aEwXx
import Derived.Laws.FloatArith
import Derived.Deep.DrawnRows
namespace Go.Proofs.Qxb6612898a.EW
open Go.RowKit

abbrev fo (x y : Nat) : Option Ordering := FloatKind.f64.format.order x y
/-- Not a number. -/
def Nan (x : Nat) : Prop := ¬ fo x x = some Ordering.eq
/-- The same, or both not a number. -/
def Sim (x y : Nat) : Prop := x = y ∨ (Nan x ∧ Nan y)
/-- zzSameFloat. -/
def smf (x y : Nat) : Bool := fo x y == some Ordering.eq || fo x x != some Ordering.eq && fo y y != some Ordering.eq
theorem smf_of_sim {x y : Nat} (h : Sim x y) : smf x y = true := by
  unfold smf
  rcases h with rfl | ⟨h1, h2⟩
  · by_cases e : fo x x = some Ordering.eq
    · simp [e]
    · simp [e]
  · unfold Nan at h1 h2
    simp [h1, h2]

theorem datum_order_self (d : Ieee.Datum) (h : ¬ d.order d = some Ordering.eq) : ∃ s t, d = .nan s t := by
  cases d with
  | number s m i => simp [Ieee.Datum.order] at h
  | infinity s => simp [Ieee.Datum.order] at h
  | nan s t => exact ⟨s, t, rfl⟩
theorem nan_add {x : Nat} (h : Nan x) (c : Nat) : floatBits .add .f64 x c = none := by
  obtain ⟨s, t, hd⟩ := datum_order_self _ h
  show Ieee.Format.add _ x c = none
  unfold Ieee.Format.add
  rw [hd]
  cases FloatKind.f64.format.read c <;> rfl
theorem nan_drawn (x c t : Nat) : Nan ((Question.nanBits .f64 x c).cut t) := by
  have e : (Question.nanBits .f64 x c).cut t = (t % 2) * 2 ^ 63 + 0x7ff0000000000000 + 1 + (t / 2) % (2 ^ 52 - 1) := rfl
  rw [e]
  generalize hr : (t % 2) * 2 ^ 63 + 0x7ff0000000000000 + 1 + (t / 2) % (2 ^ 52 - 1) = r
  have h1 : r % 2 ^ 63 = 0x7ff0000000000000 + 1 + (t / 2) % (2 ^ 52 - 1) := by omega
  have hd : ∃ s f, FloatKind.f64.format.read r = .nan s f := by
    unfold Ieee.Format.read
    have e1 : FloatKind.f64.format.signWeight = 2 ^ 63 := by decide
    have e2 : FloatKind.f64.format.binade = 2 ^ 52 := by decide
    have e3 : FloatKind.f64.format.infRung = 0x7ff0000000000000 := by decide
    simp only [e1, e2, e3]
    rw [h1, if_neg (by omega), if_neg (by omega), if_neg (by omega)]
    exact ⟨_, _, rfl⟩
  obtain ⟨s, f, hd⟩ := hd
  unfold Nan fo Ieee.Format.order
  rw [hd]
  simp [Ieee.Datum.order]

/-- What a sum may be. -/
def Sum (x c r : Nat) : Prop := floatBits .add .f64 x c = some r ∨ (floatBits .add .f64 x c = none ∧ Nan r)
theorem sim_sum {x y c r s : Nat} (h : Sim x y) (h1 : Sum x c r) (h2 : Sum y c s) : Sim r s := by
  rcases h with rfl | ⟨n1, n2⟩
  · rcases h1 with h1 | ⟨h1, m1⟩
    · rcases h2 with h2 | ⟨h2, m2⟩
      · rw [h1] at h2; left; simpa using h2
      · rw [h1] at h2; cases h2
    · rcases h2 with h2 | ⟨h2, m2⟩
      · rw [h1] at h2; cases h2
      · exact .inr ⟨m1, m2⟩
  · rcases h1 with h1 | ⟨h1, m1⟩
    · rw [nan_add n1] at h1; cases h1
    · rcases h2 with h2 | ⟨h2, m2⟩
      · rw [nan_add n2] at h2; cases h2
      · exact .inr ⟨m1, m2⟩

set_option maxHeartbeats 400000 in
theorem same20 (x y : Nat) (w : World) :
    Calls Try.prog 20 #[.float .f64 x, .float .f64 y] w fun e w' => e = .returned (.bool (smf x y)) ∧ w = w' := by
  unfold smf
  by_cases h1 : fo x y = some Ordering.eq
  · have h1' : FloatKind.f64.format.order x y = some Ordering.eq := h1
    simp only [h1]
    go_enter Try.func20, Try.ntmps20
    go_wp2_with fail
    go_ret
    exact ⟨rfl, rfl⟩
  · by_cases h2 : fo x x = some Ordering.eq
    · have h1' : ¬ FloatKind.f64.format.order x y = some Ordering.eq := h1
      have h2' : FloatKind.f64.format.order x x = some Ordering.eq := h2
      have e : (fo x y == some Ordering.eq || fo x x != some Ordering.eq && fo y y != some Ordering.eq) = false := by simp [h1, h2]
      rw [e]
      go_enter Try.func20, Try.ntmps20
      go_wp2_with fail
      go_ret
      exact ⟨by simp [h1'], rfl⟩
    · have h1' : ¬ FloatKind.f64.format.order x y = some Ordering.eq := h1
      have h2' : ¬ FloatKind.f64.format.order x x = some Ordering.eq := h2
      go_enter Try.func20, Try.ntmps20
      go_wp2_with fail
      go_ret
      exact ⟨rfl, rfl⟩
end Go.Proofs.Qxb6612898a.EW
