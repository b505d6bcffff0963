import Derived.Test.Qxb6612898aEwLeast
import Derived.Maps.AppendAt
namespace Go.Proofs.Qxb6612898a.EW
open Go.RowKit

/-- What is left alone: the blocks below B, and those of types other than E's. -/
structure Frm (E : List TypeId) (B : Nat) (w w' : World) : Prop where
  os : w'.os = w.os
  tape : w'.tape = w.tape
  output : w'.output = w.output
  size : w.heap.size ≤ w'.heap.size
  low : ∀ k, k < B → w'.heap[k]? = w.heap[k]?
  typ : ∀ (k : Nat) (cur : Array Value) (e : TypeId) (fr : Nat × Nat), w.heap[k]? = some (Obj.cells cur e fr) → e ∉ E → w'.heap[k]? = w.heap[k]?

theorem Frm.refl (E : List TypeId) (B : Nat) (w : World) : Frm E B w w := ⟨rfl, rfl, rfl, Nat.le_refl _, fun _ _ => rfl, fun _ _ _ _ _ _ => rfl⟩
theorem Frm.trans {E : List TypeId} {B : Nat} {w w1 w2 : World} (h : Frm E B w w1) (k : Frm E B w1 w2) : Frm E B w w2 :=
  ⟨k.os.trans h.os, k.tape.trans h.tape, k.output.trans h.output, Nat.le_trans h.size k.size, fun i hi => (k.low i hi).trans (h.low i hi),
   fun i cur e fr hc he => (k.typ i cur e fr ((h.typ i cur e fr hc he).trans hc) he).trans (h.typ i cur e fr hc he)⟩
theorem Frm.mono {E E' : List TypeId} {B : Nat} {w w1 : World} (h : Frm E B w w1) (hE : ∀ e, e ∈ E → e ∈ E') : Frm E' B w w1 :=
  ⟨h.os, h.tape, h.output, h.size, h.low, fun i cur e fr hc he => h.typ i cur e fr hc (fun x => he (hE e x))⟩
theorem Frm.below {E : List TypeId} {B : Nat} {w w1 : World} (h : Frm E B w w1) : Below B w w1 := ⟨h.os, h.tape, h.output, h.size, h.low⟩
theorem Frm.of_below {E : List TypeId} {B : Nat} {w w1 : World} (h : Below w.heap.size w w1) (hB : B ≤ w.heap.size) : Frm E B w w1 :=
  ⟨h.os, h.tape, h.output, h.size, fun k hk => h.block k (by omega), fun k cur e fr hc _ => h.block k (Array.getElem?_eq_some_iff.1 hc).1⟩
theorem Frm.of_grown {E : List TypeId} {B T t n : Nat} {f : Nat → Value} {w w1 : World} (h : w.grownBy w1 (some T)) (hr : w.rowIs T t n f) (ht : t ∈ E) (hB : B ≤ T) : Frm E B w w1 :=
  ⟨h.os, h.tape, h.output, h.size, fun k hk => h.block k (by have := hr.lt; omega) (by simp; omega), fun k cur e fr hc he => by
    refine h.block k (Array.getElem?_eq_some_iff.1 hc).1 (fun hk => ?_)
    obtain rfl := Option.some.inj hk
    obtain ⟨c, hh, _⟩ := hr
    rw [hh] at hc
    simp at hc
    exact he (hc.2.1 ▸ ht)⟩
theorem Frm.row {E : List TypeId} {B b t n : Nat} {f : Nat → Value} {w w1 : World} (h : Frm E B w w1) (hr : w.rowIs b t n f) (ht : t ∉ E) : w1.rowIs b t n f := by
  obtain ⟨c, hh, hs⟩ := hr
  exact ⟨c, (h.typ _ _ _ _ hh ht).trans hh, hs⟩
theorem Frm.owns {E : List TypeId} {B base : Nat} {e size n : Nat} {v : Value} {xs : List Value} {w w1 : World} (h : Frm E B w w1) (hr : w.ownsRow base e size v n xs) (ht : e ∉ E) : w1.ownsRow base e size v n xs := by
  refine ⟨hr.1, ?_⟩
  rcases hr.2 with hn | ⟨g, cap, cur, rfl, hb, hgg, rest⟩
  · exact .inl hn
  · exact .inr ⟨g, cap, cur, rfl, hb, (h.typ _ _ _ _ hgg ht).trans hgg, rest⟩
theorem owns_below {base : Nat} {e size n : Nat} {v : Value} {xs : List Value} {w w1 : World} (h : Below w.heap.size w w1) (hr : w.ownsRow base e size v n xs) : w1.ownsRow base e size v n xs := by
  refine ⟨hr.1, ?_⟩
  rcases hr.2 with hn | ⟨g, cap, cur, rfl, hb, hgg, rest⟩
  · exact .inl hn
  · exact .inr ⟨g, cap, cur, rfl, hb, (h.block _ (Array.getElem?_eq_some_iff.1 hgg).1).trans hgg, rest⟩
theorem row_below {b t n : Nat} {f : Nat → Value} {w w1 : World} (h : Below w.heap.size w w1) (hr : w.rowIs b t n f) : w1.rowIs b t n f :=
  hr.of_block (h.block _ hr.lt)

/-- The cells of a textWalk. -/
def tw (V : Nat → Nat) (lp : Value) (sz : Int) (wd rn : Value) (sp : Int) (sh ln : Value) : Nat → Value :=
  vf V fun k => if k = 64 then lp else if k = 65 then .int .i64 sz else if k = 66 then wd else if k = 67 then rn else if k = 68 then .int .i64 sp else if k = 69 then sh else ln
/-- The pointer to the least hashes. -/
def lptr : Option Nat → Value
  | none => .pointer none
  | some b => .pointer (some ⟨b, 0, none⟩)
/-- Block T is a textWalk. -/
structure St (w : World) (B T : Nat) (M : Option Nat) (V : Nat → Nat) (L : Nat → Int) (sz : Int) (wd rn : Value) (sp : Int) (sh ln : Value) : Prop where
  row : w.rowIs T 58 71 (tw V (lptr M) sz wd rn sp sh ln)
  tb : B ≤ T
  ls : ∀ b, M = some b → B ≤ b ∧ w.rowIs b 59 128 (lf L)
theorem St.below {w w1 : World} {B T : Nat} {M : Option Nat} {V : Nat → Nat} {L : Nat → Int} {sz : Int} {wd rn : Value} {sp : Int} {sh ln : Value} (h : St w B T M V L sz wd rn sp sh ln) (hb : Below w.heap.size w w1) : St w1 B T M V L sz wd rn sp sh ln :=
  ⟨row_below hb h.row, h.tb, fun b e => ⟨(h.ls b e).1, row_below hb (h.ls b e).2⟩⟩
/-- What one feature of this hash does. -/
def Feat (M : Option Nat) (hash : Int) (V : Nat → Nat) (L : Nat → Int) (V' : Nat → Nat) (L' : Nat → Int) : Prop :=
  match M with
  | none => L' = L ∧ ∀ i, i < 64 → Sum (V i) (cb hash i) (V' i)
  | some _ => V' = V ∧ L' = lmin hash L

set_option maxHeartbeats 1600000 in
set_option maxRecDepth 100000 in
theorem feat38 (B T : Nat) (M : Option Nat) (V : Nat → Nat) (L : Nat → Int) (sz : Int) (wd rn : Value) (sp : Int) (sh ln : Value) (a : Option Addr) (l : List Int) (n c : Nat) (w : World)
    (hst : St w B T M V L sz wd rn sp sh ln) (hl : n = l.length) (h : Bs w a l) (hn : n ≤ 1000000) (hc : n ≤ c) :
    Calls Try.prog 38 #[.pointer (some ⟨T, 0, none⟩), .slice a n c] w fun e w' => e = .returned (.tuple #[]) ∧ ∃ V' L', St w' B T M V' L' sz wd rn sp sh ln ∧ Feat M (xx l) V L V' L' ∧ Frm [58, 59] B w w' := by
  subst hl
  have HS := hide hst
  have HB := hide h
  have HB0 := hide (show B ≤ w.heap.size from by have := hst.tb; have := hst.row.lt; omega)
  clear hst h
  go_enter Try.func38, Try.ntmps38
  go_wp2_with fail
  refine (xxh28 a l l.length c w rfl HB.out hn hc).mono ?_
  rintro e w1 ⟨rfl, hb⟩
  have BW := hide hb
  clear hb
  have HS1 := hide (HS.out.below BW.out)
  have c64 : w1.cell? ⟨T, 64, none⟩ = some (lptr M) := by
    rw [World.rowIs.cell HS1.out.row (by omega)]; simp [tw, vf]
  cases M with
  | none =>
    simp only [lptr] at c64
    go_wp2_with fail
    refine (vote27 T 58 71 V _ (xx l) w1 (by omega) HS1.out.row).mono ?_
    rintro e w2 ⟨rfl, U, hr, hs, hg⟩
    have HG := hide hg
    have HR := hide hr
    have HU := hide hs
    clear hg hr hs
    go_wp2_with fail
    go_end0
    exact ⟨rfl, U, L, ⟨HR.out, HS.out.tb, fun b e => by cases e⟩, ⟨rfl, HU.out⟩, (Frm.of_below BW.out HB0.out).trans (Frm.of_grown HG.out HS1.out.row (by simp) HS.out.tb)⟩
  | some b =>
    simp only [lptr] at c64
    go_wp2_with fail
    refine (least40 b 59 L (xx l) w1 (HS1.out.ls b rfl).2).mono ?_
    rintro e w2 ⟨rfl, hr, hg⟩
    have HG := hide hg
    have HR := hide hr
    clear hg hr
    go_wp2_with fail
    refine bodyPost_ret (results_none rfl _ _ _) rfl ?_
    have F := Frm.of_grown (E := [59]) (B := B) HG.out (HS1.out.ls b rfl).2 (by simp) (HS1.out.ls b rfl).1
    exact ⟨rfl, V, _, ⟨F.row HS1.out.row (by simp), HS.out.tb, fun b' e => by cases e; exact ⟨(HS.out.ls b rfl).1, HR.out⟩⟩, ⟨rfl, rfl⟩, (Frm.of_below BW.out HB0.out).trans (F.mono (by simp))⟩
end Go.Proofs.Qxb6612898a.EW
