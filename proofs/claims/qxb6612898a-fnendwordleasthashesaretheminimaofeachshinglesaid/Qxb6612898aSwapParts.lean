/-
  PARTS OF THE PROOF OF 'Rows.FnSwapScriptMovesEachMatchWhereItsTrackSaysSaid': worlds and plain functions; no walk.
-/
import Derived.WalkKit
import Derived.Deep.OwnRows
namespace Go.Proofs.Qxb6612898a
open Go.RowKit

/-- The cells of a row of matches: Position, Distance, Position, .. -/
def pr (P D : Nat → Int) (k : Nat) : Value := .int .i64 (if k % 2 = 0 then P (k / 2) else D (k / 2))

theorem pr_even (P D : Nat → Int) (k : Nat) : pr P D (k * 2) = .int .i64 (P k) := by
  unfold pr
  rw [if_pos (by omega), show k * 2 / 2 = k from by omega]
theorem pr_odd (P D : Nat → Int) (k : Nat) : pr P D (k * 2 + 1) = .int .i64 (D k) := by
  unfold pr
  rw [if_neg (by omega), show (k * 2 + 1) / 2 = k from by omega]

/-- Block b holds n matches. -/
def Pr (w : World) (b n : Nat) (P D : Nat → Int) : Prop := w.rowIs b 28 (n * 2) (pr P D)

/-- Put x at i. -/
def upd (f : Nat → Int) (i : Nat) (x : Int) (j : Nat) : Int := if j = i then x else f j
/-- What stood at i and at j, exchanged. -/
def swp (i j : Nat) (f : Nat → Int) (k : Nat) : Int := if k = j then f i else if k = i then f j else f k

/-- Nothing but block b has turned. -/
structure Only (b : Nat) (w w' : World) : Prop where
  os : w'.os = w.os
  tape : w'.tape = w.tape
  output : w'.output = w.output
  size : w'.heap.size = w.heap.size
  block : ∀ k, k ≠ b → w'.heap[k]? = w.heap[k]?

theorem Only.refl (b : Nat) (w : World) : Only b w w := ⟨rfl, rfl, rfl, rfl, fun _ _ => rfl⟩
theorem Only.trans {b : Nat} {w w' w'' : World} (h : Only b w w') (k : Only b w' w'') : Only b w w'' :=
  ⟨k.os.trans h.os, k.tape.trans h.tape, k.output.trans h.output, k.size.trans h.size, fun i hi => (k.block i hi).trans (h.block i hi)⟩
theorem Only.drew {b : Nat} {w w' : World} (h : Only b w w') : Only b w w'.drew := ⟨h.os, h.tape, h.output, h.size, h.block⟩
theorem Only.setCell {b : Nat} {w w' : World} (h : Only b w w') (o : Nat) (v : Value) : Only b w (w'.setCell ⟨b, o, none⟩ v) :=
  h.trans ⟨rfl, rfl, rfl, by simp [World.setCell], fun k hk => Below.heap_setCell _ _ _ _ hk⟩
theorem Only.below {b B : Nat} {w w' : World} (h : Only b w w') (hB : B ≤ b) : Below B w w' :=
  ⟨h.os, h.tape, h.output, by rw [h.size]; exact Nat.le_refl _, fun k hk => h.block k (by omega)⟩
theorem Only.row {b b' : Nat} {w w' : World} (h : Only b w w') (hb : b' ≠ b) {t : TypeId} {n : Nat} {f : Nat → Value} (hr : w.rowIs b' t n f) : w'.rowIs b' t n f :=
  hr.of_block (h.block b' hb)

variable {w : World} {b n : Nat} {P D : Nat → Int}

theorem Pr.c0 (h : Pr w b n P D) {i : Nat} (hi : i < n) : w.cell? ⟨b, i * 2, none⟩ = some (.int .i64 (P i)) := by
  rw [World.rowIs.cell h (by omega), pr_even]
theorem Pr.c1 (h : Pr w b n P D) {i : Nat} (hi : i < n) : w.cell? ⟨b, i * 2 + 1, none⟩ = some (.int .i64 (D i)) := by
  rw [World.rowIs.cell h (by omega), pr_odd]
theorem Pr.fz (h : Pr w b n P D) (o : Nat) : w.frozen? ⟨b, o, none⟩ = false := World.rowIs.frozen h o
theorem Pr.congr {P' D' : Nat → Int} (h : Pr w b n P D) (hP : ∀ k, k < n → P k = P' k) (hD : ∀ k, k < n → D k = D' k) : Pr w b n P' D' := by
  refine World.rowIs.congr h fun k hk => ?_
  unfold pr
  split
  · rw [hP _ (by omega)]
  · rw [hD _ (by omega)]
theorem Pr.set2 (h : Pr w b n P D) (i : Nat) (x y : Int) :
    Pr ((w.setCell ⟨b, i * 2, none⟩ (.int .i64 x)).setCell ⟨b, i * 2 + 1, none⟩ (.int .i64 y)) b n (upd P i x) (upd D i y) := by
  refine World.rowIs.congr ((World.rowIs.set h _ _).set _ _) fun k hk => ?_
  by_cases e1 : k = i * 2 + 1
  · subst e1
    rw [if_pos rfl, pr_odd]
    simp [upd]
  · rw [if_neg e1]
    by_cases e0 : k = i * 2
    · subst e0
      rw [if_pos rfl, pr_even]
      simp [upd]
    · rw [if_neg e0]
      unfold pr upd
      by_cases h2 : k % 2 = 0
      · rw [if_pos h2, if_pos h2, if_neg (by omega)]
      · rw [if_neg h2, if_neg h2, if_neg (by omega)]
theorem Pr.drew (h : Pr w b n P D) : Pr w.drew b n P D := h

theorem upd_swp (f : Nat → Int) (i j : Nat) : upd (upd f i (f j)) j (f i) = swp i j f := by
  funext k
  unfold upd swp
  rfl

theorem swp_swp (f : Nat → Int) (i j : Nat) : swp i j (swp i j f) = f := by
  funext k
  unfold swp
  by_cases h1 : k = j
  · subst h1
    by_cases h2 : i = k
    · subst h2; simp
    · simp [h2]
  · by_cases h2 : k = i
    · subst h2; simp [h1]
    · simp [h1, h2]

/-- Where a match that stands at p goes when a and b are exchanged. -/
def go (a b p : Nat) : Nat := if p = a then b else if p = b then a else p
theorem go_lt {a b p n : Nat} (ha : a < n) (hb : b < n) (hp : p < n) : go a b p < n := by
  unfold go
  split
  · exact hb
  · split
    · exact ha
    · exact hp
theorem swp_go (f : Nat → Int) (a b p : Nat) : swp a b f (go a b p) = f p := by
  unfold go swp
  by_cases h1 : p = a
  · subst h1; simp
  · by_cases h2 : p = b
    · subst h2
      simp only [if_neg h1]
      by_cases h3 : a = p
      · exact absurd h3.symm h1
      · simp [h3]
    · simp [h1, h2]

/-- The script, its first q pairs. -/
def fwd (o : Nat → Nat) (f : Nat → Int) : Nat → Nat → Int
  | 0 => f
  | q + 1 => swp (o (2 * q)) (o (2 * q + 1)) (fwd o f q)
/-- The tracker of the match that began at k, behind the first q pairs. -/
def trk (o : Nat → Nat) (k : Nat) : Nat → Nat
  | 0 => k
  | q + 1 => go (o (2 * q)) (o (2 * q + 1)) (trk o k q)
theorem fwd_trk (o : Nat → Nat) (f : Nat → Int) (k : Nat) : ∀ q, fwd o f q (trk o k q) = f k
  | 0 => rfl
  | q + 1 => by rw [fwd, trk, swp_go, fwd_trk o f k q]
theorem trk_lt (o : Nat → Nat) (n k m : Nat) (ho : ∀ j, j < m → o j < n) (hk : k < n) : ∀ q, 2 * q ≤ m → trk o k q < n
  | 0, _ => hk
  | q + 1, h => go_lt (ho _ (by omega)) (ho _ (by omega)) (trk_lt o n k m ho hk q (by omega))
theorem fwd_back (o : Nat → Nat) (f : Nat → Int) (q : Nat) : swp (o (2 * q)) (o (2 * q + 1)) (fwd o f (q + 1)) = fwd o f q := by
  rw [fwd, swp_swp]

/-- A row of places. -/
def Pl (w : World) (b n : Nat) (f : Nat → Nat) : Prop := w.rowIs b 3 n (fun k => .int .i64 (f k : Nat))

end Go.Proofs.Qxb6612898a
