/-
  WALKS FOR 'Rows.FnSwapScriptMovesEachMatchWhereItsTrackSaysSaid': the callees.
-/
import Derived.Test.Qxb6612898aProg
import Derived.Test.Qxb6612898aSwapParts
import Derived.BigRegion
import Derived.Outline
namespace Go.Proofs.Qxb6612898a
open Go.RowKit

theorem Try.info28 : (Try.prog.info? 28).map (fun i => (i.zero, i.size, i.bytes)) = some (some (.agg #[.int .i64 0, .int .i64 0]), 2, 16) := by kernel_rfl
theorem Try.info3 : (Try.prog.info? 3).map (fun i => (i.zero, i.size, i.bytes)) = some (some (.int .i64 0), 1, 8) := by kernel_rfl

set_option maxHeartbeats 400000 in
theorem swap25_ne (b n c i j : Nat) (P D : Nat → Int) (w : World) (hp : Pr w b n P D) (hi : i < n) (hj : j < n) (hne : i ≠ j) :
    Calls Try.prog 25 #[.slice (some ⟨b, 0, none⟩) n c, .int .i64 i, .int .i64 j] w fun e w' => e = .returned (.tuple #[]) ∧ Pr w' b n (swp i j P) (swp i j D) ∧ Only b w w' := by
  have e1 : i * 2 ≠ j * 2 := by omega
  have e2 : i * 2 ≠ j * 2 + 1 := by omega
  have e3 : i * 2 + 1 ≠ j * 2 := by omega
  have c0 := hp.c0 hi
  have c1 := hp.c1 hi
  have c2 := hp.c0 hj
  have c3 := hp.c1 hj
  have hf := hp.fz
  have H : Hid (Pr w b n P D) := hp
  clear hp
  go_enter Try.func25, Try.ntmps25
  go_wp2
  go_region
  go_end0
  refine ⟨rfl, ?_, ((((Only.refl b w).setCell _ _).setCell _ _).setCell _ _ |>.setCell _ _).drew⟩
  have h := (H.out.set2 i (P j) (D j)).set2 j (P i) (D i)
  rw [upd_swp, upd_swp] at h
  exact h

set_option maxHeartbeats 400000 in
theorem swap25_eq (b n c i : Nat) (P D : Nat → Int) (w : World) (hp : Pr w b n P D) (hi : i < n) :
    Calls Try.prog 25 #[.slice (some ⟨b, 0, none⟩) n c, .int .i64 i, .int .i64 i] w fun e w' => e = .returned (.tuple #[]) ∧ Pr w' b n (swp i i P) (swp i i D) ∧ Only b w w' := by
  have c0 := hp.c0 hi
  have c1 := hp.c1 hi
  have hf := hp.fz
  have H : Hid (Pr w b n P D) := hp
  clear hp
  go_enter Try.func25, Try.ntmps25
  go_wp2
  go_region
  go_end0
  refine ⟨rfl, ?_, ((((Only.refl b w).setCell _ _).setCell _ _).setCell _ _ |>.setCell _ _).drew⟩
  have h := (H.out.set2 i (P i) (D i)).set2 i (P i) (D i)
  rw [upd_swp, upd_swp] at h
  exact h

theorem swap25 (b n c i j : Nat) (P D : Nat → Int) (w : World) (hp : Pr w b n P D) (hi : i < n) (hj : j < n) :
    Calls Try.prog 25 #[.slice (some ⟨b, 0, none⟩) n c, .int .i64 i, .int .i64 j] w fun e w' => e = .returned (.tuple #[]) ∧ Pr w' b n (swp i j P) (swp i j D) ∧ Only b w w' := by
  by_cases h : i = j
  · subst h
    exact swap25_eq b n c i P D w hp hi
  · exact swap25_ne b n c i j P D w hp hi hj h

set_option maxHeartbeats 400000 in
theorem swap8 (b n c i j : Nat) (P D : Nat → Int) (w : World) (hp : Pr w b n P D) (hi : i < n) (hj : j < n) :
    Calls Try.prog 8 #[.slice (some ⟨b, 0, none⟩) n c, .int .i64 i, .int .i64 j] w fun e w' => e = .returned (.tuple #[]) ∧ Pr w' b n (swp i j P) (swp i j D) ∧ Only b w w' := by
  have H : Hid (Pr w b n P D) := hp
  clear hp
  go_enter Try.func8, Try.ntmps8
  go_wp2_with (go_at_call 25; refine (swap25 b n c i j P D _ H.out hi hj).mono ?_; rintro e w' ⟨rfl, h1, h2⟩)
  go_end0
  exact ⟨rfl, h1, h2⟩

set_option maxHeartbeats 400000 in
theorem bytes6 (a0 a1 a2 : Option Addr) (n0 n1 n2 k0 k1 k2 : Nat) (w : World) (h0 : n0 ≤ maxLen) (h1 : n1 ≤ maxLen) (h2 : n2 ≤ maxLen) :
    Calls Try.prog 6 #[.slice a0 n0 k0, .slice a1 n1 k1, .slice a2 n2 k2] w fun e w' => (∃ r : Bool, e = .returned (.bool r)) ∧ w = w' := by
  unfold maxLen at h0 h1 h2
  go_enter Try.func6, Try.ntmps6
  go_wp2
  all_goals
    go_ret
    exact ⟨⟨_, rfl⟩, rfl⟩

/-- The row of matches that 'make' lays. -/
theorem pr_made (w : World) (n : Nat) : Pr (w.alloc (.cells (madeCells #[.int .i64 0, .int .i64 0] (n * 2)) 28)) w.heap.size n (fun _ => 0) (fun _ => 0) := by
  refine ⟨_, Deep.blk_alloc_new _ _, size_madeCells _ _, fun i hi => ?_⟩
  have : i % 2 = 0 ∨ i % 2 = 1 := by omega
  rcases this with h | h <;> simp [madeCells, hi, pr, h]

theorem hide {p : Prop} (h : p) : Hid p := h
/-- A slice of ints that came in: empty, or its cells lie there. -/
def Ints (w : World) (a : Option Addr) (n : Nat) (f : Nat → Int) : Prop :=
  n = 0 ∨ ∃ b off, a = some ⟨b, off, none⟩ ∧ b < w.heap.size ∧ ∀ i, i < n → w.cell? ⟨b, off + i, none⟩ = some (.int .i64 (f i))

theorem upd_lt (P : Nat → Int) (k n : Nat) : ∀ j, j < n → upd (fun j => if j < k then P j else 0) k (P k) j = if j < k + 1 then P j else 0 := by
  intro j _
  unfold upd
  by_cases h : j = k
  · subst h; simp
  · rw [if_neg h]
    show (if j < k then P j else 0) = _
    by_cases h2 : j < k
    · rw [if_pos h2, if_pos (by omega)]
    · rw [if_neg h2, if_neg (by omega)]

set_option maxHeartbeats 400000 in
theorem matches7 (a0 a1 : Option Addr) (n k0 k1 : Nat) (P D : Nat → Int) (w : World) (h0 : Ints w a0 n P) (h1 : Ints w a1 n D) (hn : n ≤ 4096) :
    Calls Try.prog 7 #[.slice a0 n k0, .slice a1 n k1] w fun e w' => e = .returned (.slice (some ⟨w.heap.size, 0, none⟩) n n) ∧ Pr w' w.heap.size n P D ∧ Below w.heap.size w w' ∧ w'.heap.size = w.heap.size + 1 := by
  obtain ⟨i0, hi, hz0, hz1, hz2⟩ := info_parts Try.info28
  have hmk : ∀ w : World, (Instr.makeSlice 24 (.int .i64 (n : Int)) (.int .i64 (n : Int))).run Try.prog w = .ok (.slice (some ⟨w.heap.size, 0, none⟩) n n) (w.alloc (.cells (madeCells #[.int .i64 0, .int .i64 0] (n * 2)) 28)) := by
    intro w
    have := run_make (P := Try.prog) w 24 28 i0 _ Try.underlying24 hi hz0 .i64 .i64 n n (by omega) (by omega) (by rw [hz2]; omega) (by omega)
    rw [hz1] at this
    simpa [Value.cells] using this
  have H0 : Hid (Ints w a0 n P) := h0
  have H1 : Hid (Ints w a1 n D) := h1
  clear h0 h1 hi hz0 hz1 hz2
  go_enter Try.func7, Try.ntmps7
  go_wp2
  go_loopw [6] (fun i wr => ∃ k : Nat, k ≤ n ∧ i = .int .i64 k ∧ Pr wr w.heap.size n (fun j => if j < k then P j else 0) (fun j => if j < k then D j else 0) ∧ Below w.heap.size w wr ∧ wr.heap.size = w.heap.size + 1)
    (fun i _ => n - (intOf i).toNat)
  case atStart => exact ⟨0, Nat.zero_le _, rfl, pr_made w n, (Below.refl _ _).alloc (Nat.le_refl _) _, by simp⟩
  case round =>
    obtain ⟨k, hk, rfl, hp, hb, hs⟩ := hrel
    by_cases hlt : k < n
    · have c0 := hp.c0 hlt
      have c1 := hp.c1 hlt
      have hf := hp.fz
      have HP := hide hp
      clear hp
      obtain hx | ⟨b0, o0, rfl, hb0, hc0⟩ := H0.out
      · omega
      obtain hx | ⟨b1, o1, rfl, hb1, hc1⟩ := H1.out
      · omega
      have g0 : wr.cell? ⟨b0, o0 + k, none⟩ = some (.int .i64 (P k)) := (hb.cell hb0).trans (hc0 k hlt)
      have g1 : wr.cell? ⟨b1, o1 + k, none⟩ = some (.int .i64 (D k)) := (hb.cell hb1).trans (hc1 k hlt)
      go_wp2
      go_region
      go_wp2
      go_roundw
      case rel =>
        refine ⟨k + 1, by omega, by go_num, ?_, ((hb.setCell (Nat.le_refl _) _).setCell (Nat.le_refl _) _).drew, by simpa using hs⟩
        exact (HP.out.set2 k (P k) (D k)).congr (upd_lt P k n) (upd_lt D k n)
      case measure => simp [intOf]; omega
    · have e : k = n := by omega
      subst e
      have hp' := hp.congr (P' := P) (D' := D) (fun j hj => if_pos hj) (fun j hj => if_pos hj)
      have HP := hide hp'
      clear hp hp'
      go_wp2
      go_ret
      exact ⟨rfl, HP.out, hb, hs⟩

end Go.Proofs.Qxb6612898a
