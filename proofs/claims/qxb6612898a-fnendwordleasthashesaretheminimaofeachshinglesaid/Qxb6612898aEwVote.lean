import Derived.Test.Qxb6612898aEwFloat
import Derived.Laws.FloatArith
import Derived.Deep.DeepCutAuto
import Derived.Deep.RegionHeld3
namespace Go.Proofs.Qxb6612898a.EW
open Go.RowKit

theorem call32 (x : Nat) (w : World) : (callFunc 32 #[.float .f64 x]).run Try.prog w = .ok (.value (.int .u64 (x : Int))) w := by kernel_rfl
theorem call33 (z : Int) (w : World) : (callFunc 33 #[.int .u64 z]).run Try.prog w = .ok (.value (.float .f64 z.toNat)) w := by kernel_rfl
/-- The summand for bit k. -/
def cb (hash : Int) (k : Nat) : Nat := (bits .xor .u64 4607182418800017408 (IntKind.u64.wrap (bits .and .u64 (bits .xor .u64 (if IntKind.u64.signed = true then -1 else IntKind.u64.max) hash / 2 ^ k) 1 * 9223372036854775808))).toNat
theorem add_some {x c r : Nat} (h : floatBits .add .f64 x c = some r) (w : World) : (binOp .add 29 (.float .f64 x) (.float .f64 c)).run Try.prog w = .ok (.float .f64 r) w :=
  run_float_arith w .add 29 .f64 x c r h
theorem add_none {x c : Nat} (h : floatBits .add .f64 x c = none) (w : World) : (binOp .add 29 (.float .f64 x) (.float .f64 c)).run Try.prog w = .ok (.float .f64 ((Question.nanBits .f64 x c).cut (w.tape w.drawn (.nanBits .f64 x c)))) w.drew := by
  have h' : floatBits BinOp.add FloatKind.f64 x c = none := h
  have h2 : FloatKind.f64.format.add x c = none := h
  simp [binOp, Op.floatArith, h2]
  simp [Question.forced]

def natOf : Value → Nat
  | .int _ x => x.toNat
  | _ => 0
theorem st_row {w : World} {b t n : Nat} {f : Nat → Value} (h : w.rowIs b t n f) {k : Nat} (hk : k < n) (v : Value) (hv : v.oneCell' = true) : (store ⟨b, k, none⟩ v).run Try.prog w = .ok () (w.setCell ⟨b, k, none⟩ v) := by
  rw [run_store _ _ _ _ _ hv, World.rowIs.cell h hk]
  simp [World.rowIs.frozen h k]
/-- A vote in the head of a row. -/
def vf (V : Nat → Nat) (f : Nat → Value) (i : Nat) : Value := if i < 64 then .float .f64 (V i) else f i

theorem grown_set {w wr : World} {T : Nat} (h : w.grownBy wr (some T)) (k : Nat) (v : Value) : w.grownBy (wr.setCell ⟨T, k, none⟩ v) (some T) :=
  ⟨h.os, h.tape, h.output, by simpa [World.setCell] using h.size, fun i hi hne => (Below.heap_setCell _ _ _ _ (fun e => hne (by rw [e]))).trans (h.block i hi hne)⟩
theorem grown_drew {w wr : World} {r : Option Nat} (h : w.grownBy wr r) : w.grownBy wr.drew r := ⟨h.os, h.tape, h.output, h.size, h.block⟩
theorem vote_step {w wr : World} {T t n k r : Nat} {V U : Nat → Nat} {f : Nat → Value} {hash : Int} (H : wr.rowIs T t n (vf (fun i => if i < k then U i else V i) f) ∧ (∀ i, i < k → Sum (V i) (cb hash i) (U i)) ∧ w.grownBy wr (some T)) (hk : k < 64) (hr : Sum (V k) (cb hash k) r) :
    (wr.setCell ⟨T, k, none⟩ (.float .f64 r)).rowIs T t n (vf (fun i => if i < k + 1 then (fun j => if j = k then r else U j) i else V i) f) ∧ (∀ i, i < k + 1 → Sum (V i) (cb hash i) ((fun j => if j = k then r else U j) i)) ∧ w.grownBy (wr.setCell ⟨T, k, none⟩ (.float .f64 r)) (some T) := by
  refine ⟨World.rowIs.congr (World.rowIs.set H.1 k _) fun i _ => ?_, fun i hi => ?_, grown_set H.2.2 _ _⟩
  · unfold vf
    by_cases e : i = k
    · subst e; simp [hk]
    · by_cases h1 : i < k
      · simp [e, h1, show i < k + 1 by omega]
      · simp [e, h1, show ¬ i < k + 1 by omega]
  · by_cases e : i = k
    · subst e; simpa using hr
    · simpa [e] using H.2.1 i (by omega)

set_option maxHeartbeats 1600000 in
set_option maxRecDepth 100000 in
theorem vote27 (T t n : Nat) (V : Nat → Nat) (f : Nat → Value) (hash : Int) (w : World) (hn : 64 ≤ n) (hr : w.rowIs T t n (vf V f)) :
    Calls Try.prog 27 #[.pointer (some ⟨T, 0, none⟩), .int .u64 hash, .float .f64 4607182418800017408] w fun e w' => e = .returned (.tuple #[]) ∧ ∃ U, w'.rowIs T t n (vf U f) ∧ (∀ i, i < 64 → Sum (V i) (cb hash i) (U i)) ∧ w.grownBy w' (some T) := by
  have h32 := call32
  have h33 := call33
  have HR := hide hr
  clear hr
  go_enter Try.func27, Try.ntmps27
  go_wp2_with fail
  go_loopw [11] (fun iv wr => ∃ (k : Nat) (U : Nat → Nat), k ≤ 64 ∧ iv = .int .i64 k ∧ Hid (wr.rowIs T t n (vf (fun i => if i < k then U i else V i) f) ∧ (∀ i, i < k → Sum (V i) (cb hash i) (U i)) ∧ w.grownBy wr (some T))) (fun iv _ => 64 - natOf iv)
  case atStart => exact ⟨0, V, by omega, rfl, by simpa using HR.out, by intro i hi; omega, World.grownBy.refl _ _⟩
  case round =>
    obtain ⟨k, U, hk, rfl, H⟩ := hrel
    by_cases hlt : k < 64
    · have hi : (k : Int) < 64 := by omega
      have c0 : wr.cell? ⟨T, k, none⟩ = some (.float .f64 (V k)) := by
        rw [World.rowIs.cell H.out.1 (by omega)]; simp [vf, hlt]
      have f0 : wr.frozen? ⟨T, k, none⟩ = false := World.rowIs.frozen H.out.1 k
      have s1 : ∀ x, (store ⟨T, k, none⟩ (.float .f64 x)).run Try.prog wr.drew = .ok () (wr.drew.setCell ⟨T, k, none⟩ (.float .f64 x)) := fun x => st_row (w := wr.drew) H.out.1.drew (by omega) _ rfl
      have s2 : ∀ x, (store ⟨T, k, none⟩ (.float .f64 x)).run Try.prog wr.drew.drew = .ok () (wr.drew.drew.setCell ⟨T, k, none⟩ (.float .f64 x)) := fun x => st_row (w := wr.drew.drew) H.out.1.drew.drew (by omega) _ rfl
      cases hs : floatBits .add .f64 (V k) (cb hash k) with
      | some r =>
        have hadd := add_some hs
        unfold cb at hadd
        have HS := hide (vote_step H.out hlt (.inl hs))
        clear hs
        go_upto_region 5 with fail
        go_region
        go_wp2_with fail
        go_roundw
        case rel => exact ⟨k + 1, fun j => if j = k then r else U j, by omega, by simp, hide ⟨HS.out.1, HS.out.2.1, grown_drew HS.out.2.2⟩⟩
        case measure => simp [natOf]; omega
      | none =>
        have hadd := add_none hs
        have HS := hide (vote_step H.out hlt (.inr ⟨hs, nan_drawn (V k) (cb hash k) (wr.tape (wr.drawn + 1) (.nanBits .f64 (V k) (cb hash k)))⟩))
        unfold cb at hadd
        clear hs
        go_upto_region 5 with fail
        go_region
        go_wp2_with fail
        go_roundw
        case rel =>
          have HS := HS.out
          unfold cb at HS
          exact ⟨k + 1, fun j => if j = k then _ else U j, by omega, by simp, hide ⟨HS.1, HS.2.1, grown_drew (grown_drew HS.2.2)⟩⟩
        case measure => simp [natOf]; omega
    · have hi : (64 : Int) ≤ k := by omega
      have hq : k = 64 := by omega
      subst hq
      go_wp2_with fail
      go_end0
      refine ⟨rfl, U, World.rowIs.congr H.out.1 fun i _ => ?_, H.out.2.1, H.out.2.2⟩
      unfold vf
      by_cases h : i < 64 <;> simp [h]
end Go.Proofs.Qxb6612898a.EW
