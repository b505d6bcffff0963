/-
  THE PLAIN ORDER ON FINDINGS: no Go in sight.
-/
import Derived.Lib.Bytealg
namespace Go.Proofs.Qxb6612981a
open Go.Lib

/-- cmp.Compare on ints. -/
def cI (x y : Int) : Int := if x < y then -1 else if y < x then 1 else 0
/-- strings.Compare. -/
def cB (a b : List UInt8) : Int := compareBytes a b
/-- cmp.Or of three. -/
def or3 (x y z : Int) : Int := if x = 0 then (if y = 0 then z else y) else x
/-- compareFindings: file, line, level. -/
def cF (f1 : List UInt8) (l1 v1 : Int) (f2 : List UInt8) (l2 v2 : Int) : Int := or3 (cB f1 f2) (cI l1 l2) (cI v2 v1)

theorem cI_range (x y : Int) : cI x y = -1 ∧ x < y ∨ cI x y = 0 ∧ x = y ∨ cI x y = 1 ∧ y < x := by
  unfold cI
  by_cases h : x < y
  · simp [h]
  · by_cases h2 : y < x
    · simp [h, h2]
    · simp [h, h2]; omega

theorem cB_range : ∀ (a b : List UInt8), cB a b = -1 ∨ cB a b = 0 ∨ cB a b = 1 := by
  intro a
  induction a with
  | nil => intro b; cases b <;> simp [cB, compareBytes]
  | cons x a ih =>
    intro b
    cases b with
    | nil => simp [cB, compareBytes]
    | cons y b =>
      unfold cB compareBytes
      by_cases h : x < y
      · simp [h]
      · by_cases h2 : y < x
        · simp [h, h2]
        · simp only [h, h2, if_false]; exact ih b

theorem u8_lt (x y : UInt8) : x < y ↔ x.toNat < y.toNat := UInt8.lt_iff_toNat_lt

theorem cB_anti : ∀ (a b : List UInt8), cB a b = - cB b a := by
  intro a
  induction a with
  | nil => intro b; cases b <;> simp [cB, compareBytes]
  | cons x a ih =>
    intro b
    cases b with
    | nil => simp [cB, compareBytes]
    | cons y b =>
      unfold cB compareBytes
      by_cases h : x < y
      · have h2 : ¬ y < x := by rw [u8_lt] at *; omega
        simp [h, h2]
      · by_cases h2 : y < x
        · simp [h, h2]
        · simp only [h, h2, if_false]; exact ih b

theorem cB_refl : ∀ (a : List UInt8), cB a a = 0 := by
  intro a
  have := cB_anti a a
  omega

theorem cB_eq : ∀ (a b : List UInt8), cB a b = 0 → a = b := by
  intro a
  induction a with
  | nil => intro b; cases b <;> simp [cB, compareBytes]
  | cons x a ih =>
    intro b
    cases b with
    | nil => simp [cB, compareBytes]
    | cons y b =>
      unfold cB compareBytes
      by_cases h : x < y
      · simp [h]
      · by_cases h2 : y < x
        · simp [h, h2]
        · simp only [h, h2, if_false]
          intro e
          have e1 : x = y := by rw [← UInt8.toNat_inj]; rw [u8_lt] at h h2; omega
          rw [e1, ih b e]

/-- Less than or the same, then less than or the same. -/
theorem cB_trans : ∀ (a b c : List UInt8), cB a b ≤ 0 → cB b c ≤ 0 → cB a c ≤ 0 ∧ (cB a b < 0 → cB a c < 0) ∧ (cB b c < 0 → cB a c < 0) := by
  intro a
  induction a with
  | nil =>
    intro b c h1 h2
    cases b with
    | nil => exact ⟨h2, fun h => absurd h (by simp [cB, compareBytes]), fun h => h⟩
    | cons y b =>
      cases c with
      | nil => simp [cB, compareBytes] at h2
      | cons z c => simp [cB, compareBytes]
  | cons x a ih =>
    intro b c h1 h2
    cases b with
    | nil => simp [cB, compareBytes] at h1
    | cons y b =>
      cases c with
      | nil => simp [cB, compareBytes] at h2
      | cons z c =>
        unfold cB compareBytes at h1 h2 ⊢
        by_cases p1 : x < y
        · by_cases q1 : y < z
          · have r : x < z := by rw [u8_lt] at *; omega
            simp [r]
          · by_cases q2 : z < y
            · simp [q1, q2] at h2
            · have r : x < z := by rw [u8_lt] at *; omega
              simp [r]
        · by_cases p2 : y < x
          · simp [p1, p2] at h1
          · have e : x = y := by rw [← UInt8.toNat_inj]; rw [u8_lt] at p1 p2; omega
            subst e
            by_cases q1 : x < z
            · simp [q1]
            · by_cases q2 : z < x
              · simp [q1, q2] at h2
              · simp only [p1, q1, q2, if_false] at h1 h2 ⊢
                exact ih b c h1 h2

/-! ### The first law -/
theorem cF_range (f1 f2 : List UInt8) (l1 v1 l2 v2 : Int) : -1 ≤ cF f1 l1 v1 f2 l2 v2 ∧ cF f1 l1 v1 f2 l2 v2 ≤ 1 := by
  unfold cF or3
  have h1 := cB_range f1 f2
  have h2 := cI_range l1 l2
  have h3 := cI_range v2 v1
  split
  · split <;> omega
  · omega

theorem cF_anti (f1 f2 : List UInt8) (l1 v1 l2 v2 : Int) : cF f1 l1 v1 f2 l2 v2 = - cF f2 l2 v2 f1 l1 v1 := by
  unfold cF or3
  have h1 := cB_anti f1 f2
  have h2 := cI_range l1 l2
  have h3 := cI_range v2 v1
  have h4 := cI_range l2 l1
  have h5 := cI_range v1 v2
  have r := cB_range f1 f2
  by_cases e1 : cB f1 f2 = 0
  · have e1' : cB f2 f1 = 0 := by omega
    rw [if_pos e1, if_pos e1']
    by_cases e2 : cI l1 l2 = 0
    · have e2' : cI l2 l1 = 0 := by omega
      rw [if_pos e2, if_pos e2']; omega
    · have e2' : ¬ cI l2 l1 = 0 := by omega
      rw [if_neg e2, if_neg e2']; omega
  · have e1' : ¬ cB f2 f1 = 0 := by omega
    rw [if_neg e1, if_neg e1']; omega

theorem cF_zero (f1 f2 : List UInt8) (l1 v1 l2 v2 : Int) : cF f1 l1 v1 f2 l2 v2 = 0 ↔ f1 = f2 ∧ l1 = l2 ∧ v1 = v2 := by
  unfold cF or3
  have h2 := cI_range l1 l2
  have h3 := cI_range v2 v1
  constructor
  · intro h
    by_cases e1 : cB f1 f2 = 0
    · rw [if_pos e1] at h
      refine ⟨cB_eq _ _ e1, ?_⟩
      by_cases e2 : cI l1 l2 = 0
      · rw [if_pos e2] at h; omega
      · rw [if_neg e2] at h; omega
    · rw [if_neg e1] at h; exact absurd h e1
  · rintro ⟨rfl, rfl, rfl⟩
    rw [cB_refl]; simp [cI]

/-! ### The second law -/
theorem cF_trans (f1 f2 f3 : List UInt8) (l1 v1 l2 v2 l3 v3 : Int) (h1 : cF f1 l1 v1 f2 l2 v2 ≤ 0) (h2 : cF f2 l2 v2 f3 l3 v3 ≤ 0) :
    cF f1 l1 v1 f3 l3 v3 ≤ 0 ∧ (cF f1 l1 v1 f2 l2 v2 < 0 → cF f1 l1 v1 f3 l3 v3 < 0) := by
  unfold cF or3 at *
  have a1 := cI_range l1 l2
  have a2 := cI_range l2 l3
  have a3 := cI_range l1 l3
  have b1 := cI_range v2 v1
  have b2 := cI_range v3 v2
  have b3 := cI_range v3 v1
  have r1 := cB_range f1 f2
  have r2 := cB_range f2 f3
  have r3 := cB_range f1 f3
  by_cases e1 : cB f1 f2 = 0
  · have := cB_eq _ _ e1
    subst this
    rw [if_pos e1] at h1 ⊢
    by_cases e2 : cB f1 f3 = 0
    · rw [if_pos e2] at h2 ⊢
      by_cases g1 : cI l1 l2 = 0
      · rw [if_pos g1] at h1 ⊢
        by_cases g2 : cI l2 l3 = 0
        · rw [if_pos g2] at h2
          rw [if_pos (by omega)]; omega
        · rw [if_neg g2] at h2
          rw [if_neg (by omega)]; omega
      · rw [if_neg g1] at h1 ⊢
        by_cases g2 : cI l2 l3 = 0
        · rw [if_pos g2] at h2
          rw [if_neg (by omega)]; omega
        · rw [if_neg g2] at h2
          rw [if_neg (by omega)]; omega
    · rw [if_neg e2] at h2 ⊢; omega
  · rw [if_neg e1] at h1 ⊢
    by_cases e2 : cB f2 f3 = 0
    · have := cB_eq _ _ e2
      subst this
      rw [if_neg e1]; omega
    · rw [if_neg e2] at h2
      have t := cB_trans f1 f2 f3 h1 h2
      have : cB f1 f3 < 0 := t.2.1 (by omega)
      rw [if_neg (by omega)]; omega

theorem cF_file (f1 f2 : List UInt8) (l1 v1 l2 v2 l3 v3 : Int) (h : f1 ≠ f2) : cF f1 l1 v1 f2 l2 v2 = cF f1 l3 v3 f2 l2 v2 := by
  unfold cF or3
  have e : ¬ cB f1 f2 = 0 := fun e => h (cB_eq _ _ e)
  rw [if_neg e, if_neg e]

theorem cF_line (f : List UInt8) (l1 v1 l2 v2 : Int) (h : l1 ≠ l2) : cF f l1 v1 f l2 v2 = if l1 < l2 then -1 else 1 := by
  unfold cF or3
  have a := cI_range l1 l2
  rw [cB_refl, if_pos rfl, if_neg (by omega)]
  split <;> omega

theorem cF_level (f : List UInt8) (l v1 v2 : Int) : cF f l v1 f l v2 = if v2 < v1 then -1 else if v1 < v2 then 1 else 0 := by
  unfold cF or3
  have a := cI_range l l
  rw [cB_refl, if_pos rfl, if_pos (by omega)]
  rfl

end Go.Proofs.Qxb6612981a
