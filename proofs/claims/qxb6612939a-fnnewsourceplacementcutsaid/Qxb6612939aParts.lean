/-
  PARTS OF THE PROOFS OF THE TWO LAWS ON NewSourcePlacement: worlds and plain functions; no walk.
-/
import Derived.WalkKit
import Derived.Deep.OwnRows
namespace Go.Proofs.Qxb6612939a
open Go.RowKit

theorem hide {p : Prop} (h : p) : Hid p := h

/-- Is s among l? -/
def has (l : List ByteArray) (s : ByteArray) : Bool := l.any fun x => x.toList == s.toList

/-- A slice of strings reads as the list l. -/
def Strs (w : World) (a : Option Addr) (l : List ByteArray) : Prop :=
  l = [] ∨ ∃ b off, a = some ⟨b, off, none⟩ ∧ b < w.heap.size ∧ ∀ i, i < l.length → w.cell? ⟨b, off + i, none⟩ = some (.string (l.getD i ByteArray.empty))

theorem Strs.below {w w1 : World} {a : Option Addr} {l : List ByteArray} (h : Strs w a l) (hb : Below w.heap.size w w1) : Strs w1 a l := by
  rcases h with h | ⟨b, off, ha, hlt, hc⟩
  · exact .inl h
  · exact .inr ⟨b, off, ha, Nat.lt_of_lt_of_le hlt hb.size, fun i hi => (hb.cell (p := ⟨b, off + i, none⟩) hlt).trans (hc i hi)⟩

/-- What the call has gathered by append reads as a list of strings. -/
theorem Strs.owned {w : World} {base n : Nat} {v : Value} {l : List ByteArray} (h : w.ownsRow base 9 1 v n (l.map Value.string)) : ∃ a c, v = .slice a l.length c ∧ (l.length ≤ c ∧ ∀ k off, a = some ⟨k, off, none⟩ → base ≤ k) ∧ Strs w a l := by
  obtain ⟨hl, hv⟩ := h
  simp at hl
  subst hl
  rcases hv with ⟨rfl, h0⟩ | ⟨g, cap, cur, rfl, hbase, hh, hn, _, hsz, htake⟩
  · have : l = [] := List.eq_nil_of_length_eq_zero h0
    subst this
    exact ⟨none, 0, rfl, ⟨Nat.le_refl _, fun k off h => by simp at h⟩, .inl rfl⟩
  · refine ⟨_, _, rfl, ⟨hn, fun k off h => by simp at h; omega⟩, .inr ⟨g, 0, rfl, (Array.getElem?_eq_some_iff.1 hh).1, fun i hi => ?_⟩⟩
    have h1 : (l.map Value.string)[i]? = some (.string (l.getD i ByteArray.empty)) := by
      simp [List.getElem?_eq_getElem hi, List.getD_eq_getElem?_getD]
    rw [← htake, List.getElem?_take, if_pos (by omega)] at h1
    rw [Nat.zero_add]
    simp only [World.cell?, hh]
    simpa using h1

theorem below_trans {w w1 w2 : World} (h1 : Below w.heap.size w w1) (h2 : Below w1.heap.size w1 w2) : Below w.heap.size w w2 :=
  h1.trans (h2.mono h1.size)
theorem undrew {B : Nat} {W W' : World} (h : Below B W.drew W') : Below B W W' := ⟨h.os, h.tape, h.output, h.size, h.block⟩

/-- n replicas: node, from, resume, thawed. -/
def Reps (w : World) (a : Option Addr) (n : Nat) (nd fr re th : Nat → ByteArray) : Prop :=
  n = 0 ∨ ∃ b off, a = some ⟨b, off, none⟩ ∧ b < w.heap.size ∧ ∀ i, i < n →
    w.cell? ⟨b, off + i * 4, none⟩ = some (.string (nd i)) ∧ w.cell? ⟨b, off + i * 4 + 1, none⟩ = some (.string (fr i)) ∧ w.cell? ⟨b, off + i * 4 + 2, none⟩ = some (.string (re i)) ∧ w.cell? ⟨b, off + i * 4 + 3, none⟩ = some (.string (th i))

theorem Reps.below {w w1 : World} {a : Option Addr} {n : Nat} {nd fr re th : Nat → ByteArray} (h : Reps w a n nd fr re th) (hb : Below w.heap.size w w1) : Reps w1 a n nd fr re th := by
  rcases h with h | ⟨b, off, ha, hlt, hc⟩
  · exact .inl h
  · refine .inr ⟨b, off, ha, Nat.lt_of_lt_of_le hlt hb.size, fun i hi => ?_⟩
    obtain ⟨c0, c1, c2, c3⟩ := hc i hi
    exact ⟨(hb.cell (p := ⟨b, _, none⟩) hlt).trans c0, (hb.cell (p := ⟨b, _, none⟩) hlt).trans c1, (hb.cell (p := ⟨b, _, none⟩) hlt).trans c2, (hb.cell (p := ⟨b, _, none⟩) hlt).trans c3⟩

/-! ### has -/
theorem has_take_succ (l : List ByteArray) (s : ByteArray) (k : Nat) (hk : k < l.length) : has (l.take (k + 1)) s = (has (l.take k) s || ((l.getD k ByteArray.empty).toList == s.toList)) := by
  unfold has
  rw [List.take_succ_eq_append_getElem hk, List.any_append]
  simp [List.getD_eq_getElem?_getD, List.getElem?_eq_getElem hk]
theorem has_of_at (l : List ByteArray) (s : ByteArray) (k : Nat) (hk : k < l.length) (h : ((l.getD k ByteArray.empty).toList == s.toList) = true) : has l s = true := by
  unfold has
  rw [List.any_eq_true]
  refine ⟨l[k], List.getElem_mem _, ?_⟩
  simpa [List.getD_eq_getElem?_getD, List.getElem?_eq_getElem hk] using h

/-! ### the gathering loops -/
/-- Of the first k, those that p lets by. -/
def kept (p : ByteArray → Bool) (f : Nat → ByteArray) (k : Nat) : List ByteArray := ((List.range k).filter fun i => p (f i)).map f
theorem kept_succ (p : ByteArray → Bool) (f : Nat → ByteArray) (k : Nat) : kept p f (k + 1) = kept p f k ++ if p (f k) then [f k] else [] := by
  unfold kept
  rw [List.range_succ, List.filter_append, List.map_append]
  by_cases h : p (f k) <;> simp [h]
theorem kept_len (p : ByteArray → Bool) (f : Nat → ByteArray) (k : Nat) : (kept p f k).length ≤ k := by
  unfold kept
  rw [List.length_map]
  exact Nat.le_trans (List.length_filter_le _ _) (by simp)

/-- Of the first k indices, those that q lets by, as f reads them. -/
def keptI (q : Nat → Bool) (f : Nat → ByteArray) (k : Nat) : List ByteArray := ((List.range k).filter q).map f
theorem keptI_succ (q : Nat → Bool) (f : Nat → ByteArray) (k : Nat) : keptI q f (k + 1) = keptI q f k ++ if q k then [f k] else [] := by
  unfold keptI
  rw [List.range_succ, List.filter_append, List.map_append]
  by_cases h : q k <;> simp [h]
theorem keptI_len (q : Nat → Bool) (f : Nat → ByteArray) (k : Nat) : (keptI q f k).length ≤ k := by
  unfold keptI
  rw [List.length_map]
  exact Nat.le_trans (List.length_filter_le _ _) (by simp)

/-- A list by its index. -/
theorem map_getD (l : List ByteArray) : (List.range l.length).map (fun i => l.getD i ByteArray.empty) = l := by
  apply List.ext_getElem
  · simp
  · intro i h1 h2
    simp at h1
    simp [List.getD_eq_getElem?_getD, List.getElem?_eq_getElem h1]

end Go.Proofs.Qxb6612939a
