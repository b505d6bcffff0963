/-
  PLAIN LAWS on the state of a source.
-/
import Derived.Test.Qxb6612939aWalkE
namespace Go.Proofs.Qxb6612939a
open Go.RowKit

/-- How many serve. -/
def srv (L : List ByteArray) (lv fz : ByteArray → Bool) : Nat := (L.filter fun s => lv s && !fz s).length

theorem filter_le {α : Type} (p q : α → Bool) (h : ∀ x, p x = true → q x = true) : ∀ l : List α, (l.filter p).length ≤ (l.filter q).length
  | [] => Nat.le_refl _
  | x :: l => by
    have ih := filter_le p q h l
    by_cases hp : p x
    · rw [List.filter_cons_of_pos hp, List.filter_cons_of_pos (h x hp)]
      simp; omega
    · rw [List.filter_cons_of_neg hp]
      by_cases hq : q x
      · rw [List.filter_cons_of_pos hq]; simp; omega
      · rw [List.filter_cons_of_neg hq]; exact ih

theorem map_filter_len (n : Nat) (nd : Nat → ByteArray) (p : ByteArray → Bool) : (((List.range n).map nd).filter p).length = ((List.range n).filter fun i => p (nd i)).length := by
  rw [List.filter_map, List.length_map]
  rfl

theorem srv_le_free (n : Nat) (nd : Nat → ByteArray) (lv fz : ByteArray → Bool) : (((List.range n).map nd).filter fun s => lv s && !fz s).length ≤ free fz nd n := by
  rw [map_filter_len]
  unfold free
  exact filter_le _ _ (fun i h => by simp at h; simp [h.2]) _

theorem srv_le_n (n : Nat) (nd : Nat → ByteArray) (lv fz : ByteArray → Bool) : (((List.range n).map nd).filter fun s => lv s && !fz s).length ≤ n :=
  Nat.le_trans (srv_le_free n nd lv fz) (free_le fz nd n)

/-- Online exactly where some serve and as many as asked. -/
theorem st_online (n : Nat) (nd fr : Nat → ByteArray) (lv fz : ByteArray → Bool) (asked : Int) :
    (stOf n nd fr lv fz asked == 1) = (decide (0 < (((List.range n).map nd).filter fun s => lv s && !fz s).length) && decide (asked ≤ (((List.range n).map nd).filter fun s => lv s && !fz s).length)) := by
  have h1 := srv_le_free n nd lv fz
  have h2 := srv_le_n n nd lv fz
  unfold stOf stt
  generalize (((List.range n).map nd).filter fun s => lv s && !fz s).length = sv at *
  generalize free fz nd n = m at *
  generalize (keptI (unt fz n nd fr) nd n).length = u
  by_cases hn : n = 0
  · rw [if_pos hn]
    have : ¬ 0 < sv := by omega
    simp [this]
  · rw [if_neg hn]
    by_cases ha : (m : Int) < asked ∧ 0 < u
    · rw [if_pos (by simpa using ha)]
      have : ¬ asked ≤ (sv : Int) := by omega
      simp [this]
    · rw [if_neg (by simpa using ha)]
      by_cases hs : 0 < sv
      · rw [if_pos (by simpa using hs)]
        by_cases hk : (sv : Int) < asked
        · rw [if_pos hk]
          have : ¬ asked ≤ (sv : Int) := by omega
          simp [this]
        · rw [if_neg hk]
          have : asked ≤ (sv : Int) := by omega
          simp [this, hs]
      · rw [if_neg (by simpa using hs)]
        simp [hs]

/-- One more asked never takes a source out of the handoff. -/
theorem st_pending (n : Nat) (nd fr : Nat → ByteArray) (lv fz : ByteArray → Bool) (asked : Int) :
    stOf n nd fr lv fz asked = 4 → stOf n nd fr lv fz (asked + 1) = 4 := by
  unfold stOf stt
  generalize (((List.range n).map nd).filter fun s => lv s && !fz s).length = sv
  generalize free fz nd n = m
  generalize (keptI (unt fz n nd fr) nd n).length = u
  intro h
  by_cases hn : n = 0
  · rw [if_pos hn] at h; simp at h
  · rw [if_neg hn] at h ⊢
    by_cases ha : (m : Int) < asked ∧ 0 < u
    · rw [if_pos (by simp; omega)]
    · rw [if_neg (by simpa using ha)] at h
      split at h
      · split at h <;> simp at h
      · simp at h

end Go.Proofs.Qxb6612939a
