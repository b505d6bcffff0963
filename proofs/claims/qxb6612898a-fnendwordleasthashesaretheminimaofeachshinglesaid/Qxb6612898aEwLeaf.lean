/-
  WALKS (EndWord, leaves): rotations, the avalanche, the round, the little-endian reads.
-/
import Derived.Test.Qxb6612898aProg
import Derived.Test.Qxb6612898aSwapParts
import Derived.WalkKit
import Derived.WalkSpells
import Derived.WalkLawsBesides
import Derived.BigRegion
import Derived.BigQuiet
import Derived.Deep.QuietTactic
import Derived.Deep.OwnRows
namespace Go.Proofs.Qxb6612898a.EW
open Go.RowKit
theorem hide {p : Prop} (h : p) : Hid p := h
theorem below_trans {w w1 w2 : World} (h1 : Below w.heap.size w w1) (h2 : Below w1.heap.size w1 w2) : Below w.heap.size w w2 :=
  h1.trans (h2.mono h1.size)
theorem below_drewN {B n : Nat} {a w : World} (h : Below B a w) : Below B a (w.drewN n) := ⟨h.os, h.tape, h.output, h.size, h.block⟩
theorem ret_u64 {a b : Int} (h : a = b) : Ending.returned (.int .u64 a) = .returned (.int .u64 b) := by rw [h]

/-- x rotated left by s. -/
def rotl (s : Nat) (x : Int) : Int := bits .or .u64 (IntKind.u64.wrap (x * 2 ^ s)) (x / 2 ^ (64 - s))

set_option maxHeartbeats 400000 in
theorem rot36_31 (x : Int) (w : World) :
    Calls Try.prog 36 #[.int .u64 x, .int .i64 31] w fun e w' => e = .returned (.int .u64 (rotl 31 x)) ∧ w = w' := by
  have hb : bits .and .u64 31 63 = 31 := by decide
  go_enter Try.func36, Try.ntmps36
  go_wp2
  go_ret
  exact ⟨rfl, rfl⟩

set_option maxHeartbeats 400000 in
theorem rot36_1 (x : Int) (w : World) :
    Calls Try.prog 36 #[.int .u64 x, .int .i64 1] w fun e w' => e = .returned (.int .u64 (rotl 1 x)) ∧ w = w' := by
  have hb : bits .and .u64 1 63 = 1 := by decide
  go_enter Try.func36, Try.ntmps36
  go_wp2
  go_ret
  exact ⟨rfl, rfl⟩

set_option maxHeartbeats 400000 in
theorem rot36_7 (x : Int) (w : World) :
    Calls Try.prog 36 #[.int .u64 x, .int .i64 7] w fun e w' => e = .returned (.int .u64 (rotl 7 x)) ∧ w = w' := by
  have hb : bits .and .u64 7 63 = 7 := by decide
  go_enter Try.func36, Try.ntmps36
  go_wp2
  go_ret
  exact ⟨rfl, rfl⟩

set_option maxHeartbeats 400000 in
theorem rot36_12 (x : Int) (w : World) :
    Calls Try.prog 36 #[.int .u64 x, .int .i64 12] w fun e w' => e = .returned (.int .u64 (rotl 12 x)) ∧ w = w' := by
  have hb : bits .and .u64 12 63 = 12 := by decide
  go_enter Try.func36, Try.ntmps36
  go_wp2
  go_ret
  exact ⟨rfl, rfl⟩

set_option maxHeartbeats 400000 in
theorem rot36_18 (x : Int) (w : World) :
    Calls Try.prog 36 #[.int .u64 x, .int .i64 18] w fun e w' => e = .returned (.int .u64 (rotl 18 x)) ∧ w = w' := by
  have hb : bits .and .u64 18 63 = 18 := by decide
  go_enter Try.func36, Try.ntmps36
  go_wp2
  go_ret
  exact ⟨rfl, rfl⟩

set_option maxHeartbeats 400000 in
theorem rot36_27 (x : Int) (w : World) :
    Calls Try.prog 36 #[.int .u64 x, .int .i64 27] w fun e w' => e = .returned (.int .u64 (rotl 27 x)) ∧ w = w' := by
  have hb : bits .and .u64 27 63 = 27 := by decide
  go_enter Try.func36, Try.ntmps36
  go_wp2
  go_ret
  exact ⟨rfl, rfl⟩

set_option maxHeartbeats 400000 in
theorem rot36_23 (x : Int) (w : World) :
    Calls Try.prog 36 #[.int .u64 x, .int .i64 23] w fun e w' => e = .returned (.int .u64 (rotl 23 x)) ∧ w = w' := by
  have hb : bits .and .u64 23 63 = 23 := by decide
  go_enter Try.func36, Try.ntmps36
  go_wp2
  go_ret
  exact ⟨rfl, rfl⟩

set_option maxHeartbeats 400000 in
theorem rot36_11 (x : Int) (w : World) :
    Calls Try.prog 36 #[.int .u64 x, .int .i64 11] w fun e w' => e = .returned (.int .u64 (rotl 11 x)) ∧ w = w' := by
  have hb : bits .and .u64 11 63 = 11 := by decide
  go_enter Try.func36, Try.ntmps36
  go_wp2
  go_ret
  exact ⟨rfl, rfl⟩

/-- The last mixing. -/
def av (x : Int) : Int :=
  let a := bits .xor .u64 x (x / 8589934592)
  let b := IntKind.u64.wrap (a * 14029467366897019727)
  let c := IntKind.u64.wrap (bits .xor .u64 b (b / 536870912) * 1609587929392839161)
  bits .xor .u64 c (c / 4294967296)

set_option maxHeartbeats 400000 in
theorem av30 (x : Int) (w : World) :
    Calls Try.prog 30 #[.int .u64 x] w fun e w' => e = .returned (.int .u64 (av x)) ∧ w = w' := by
  go_enter Try.func30, Try.ntmps30
  go_wp2
  go_ret
  exact ⟨rfl, rfl⟩

/-- One round. -/
def rnd (acc lane : Int) : Int := IntKind.u64.wrap (rotl 31 (IntKind.u64.wrap (acc + IntKind.u64.wrap (lane * 14029467366897019727))) * 11400714785074694791)

set_option maxHeartbeats 400000 in
theorem rnd34 (acc lane : Int) (w : World) :
    Calls Try.prog 34 #[.int .u64 acc, .int .u64 lane] w fun e w' => e = .returned (.int .u64 (rnd acc lane)) ∧ w = w' := by
  go_enter Try.func34, Try.ntmps34
  go_wp2_with fail
  refine (rot36_31 _ _).mono ?_
  rintro e w' ⟨rfl, rfl⟩
  go_wp2_with fail
  go_ret
  exact ⟨rfl, rfl⟩

/-- Eight bytes, the least first. -/
def le8 (f : Nat → Int) : Int :=
  let u := IntKind.u64.wrap
  bits .or .u64 (bits .or .u64 (bits .or .u64 (bits .or .u64 (bits .or .u64 (bits .or .u64 (bits .or .u64 (u (f 0)) (u (u (f 1) * 256))) (u (u (f 2) * 65536))) (u (u (f 3) * 16777216))) (u (u (f 4) * 4294967296))) (u (u (f 5) * 1099511627776))) (u (u (f 6) * 281474976710656))) (u (u (f 7) * 72057594037927936))

set_option maxHeartbeats 1000000 in
theorem le35 (b off n c : Nat) (f : Nat → Int) (w : World) (hb : b < w.heap.size) (hn : 8 ≤ n) (hc : ∀ i, i < 8 → w.cell? ⟨b, off + i, none⟩ = some (.int .u8 (f i))) :
    Calls Try.prog 35 #[.agg #[], .slice (some ⟨b, off, none⟩) n c] w fun e w' => e = .returned (.int .u64 (le8 f)) ∧ Below w.heap.size w w' := by
  have c0 := hc 0 (by decide)
  have c1 := hc 1 (by decide)
  have c2 := hc 2 (by decide)
  have c3 := hc 3 (by decide)
  have c4 := hc 4 (by decide)
  have c5 := hc 5 (by decide)
  have c6 := hc 6 (by decide)
  have c7 := hc 7 (by decide)
  clear hc
  simp only [Nat.add_zero] at c0
  have hI : (8 : Int) ≤ n := by omega
  have E := hide (show le8 f = le8 f from rfl)
  unfold le8 at E ⊢
  generalize f 0 = x0 at *
  generalize f 1 = x1 at *
  generalize f 2 = x2 at *
  generalize f 3 = x3 at *
  generalize f 4 = x4 at *
  generalize f 5 = x5 at *
  generalize f 6 = x6 at *
  generalize f 7 = x7 at *
  clear E
  go_enter Try.func35, Try.ntmps35
  go_wp2
  go_quiet (fail)
  go_wp2
  go_ret
  exact ⟨rfl, below_drewN ((Below.refl _ _).alloc (Nat.le_refl _) _)⟩

/-- Four bytes, the least first. -/
def le4 (f : Nat → Int) : Int :=
  let u := IntKind.u32.wrap
  bits .or .u32 (bits .or .u32 (bits .or .u32 (u (f 0)) (u (u (f 1) * 256))) (u (u (f 2) * 65536))) (u (u (f 3) * 16777216))

set_option maxHeartbeats 1000000 in
theorem le37 (b off n c : Nat) (f : Nat → Int) (w : World) (hb : b < w.heap.size) (hn : 4 ≤ n) (hc : ∀ i, i < 4 → w.cell? ⟨b, off + i, none⟩ = some (.int .u8 (f i))) :
    Calls Try.prog 37 #[.agg #[], .slice (some ⟨b, off, none⟩) n c] w fun e w' => e = .returned (.int .u32 (le4 f)) ∧ Below w.heap.size w w' := by
  have c0 := hc 0 (by decide)
  have c1 := hc 1 (by decide)
  have c2 := hc 2 (by decide)
  have c3 := hc 3 (by decide)
  clear hc
  simp only [Nat.add_zero] at c0
  have hI : (4 : Int) ≤ n := by omega
  unfold le4
  generalize f 0 = x0 at *
  generalize f 1 = x1 at *
  generalize f 2 = x2 at *
  generalize f 3 = x3 at *
  go_enter Try.func37, Try.ntmps37
  go_wp2
  go_quiet (fail)
  go_wp2
  go_ret
  exact ⟨rfl, below_drewN ((Below.refl _ _).alloc (Nat.le_refl _) _)⟩
end Go.Proofs.Qxb6612898a.EW
