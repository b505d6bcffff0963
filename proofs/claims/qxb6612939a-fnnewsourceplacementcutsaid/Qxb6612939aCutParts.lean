/-
  PARTS OF THE WALK OF FnNewSourcePlacementCut (function 5).
-/
import Derived.Test.Qxb6612939aOneWalk
import Derived.Test.Qxb6612939aWalkG
import Derived.Test.Qxb6612939aWalkH
import Derived.Test.Qxb6612939aWalkI
namespace Go.Proofs.Qxb6612939a
open Go.RowKit

set_option maxHeartbeats 1000000 in
set_option maxRecDepth 100000 in
/-- ZZNewSourcePlacement, and what it hands back is new. -/
theorem zz19b (id : ByteArray) (a : Option Addr) (n c : Nat) (nd fr re th : Nat → ByteArray) (asked : Int) (al af : Option Addr) (ll lf : List ByteArray) (cl cf : Nat) (w : World)
    (h : Reps w a n nd fr re th) (hn : n ≤ 65536) (hl : Strs w al ll) (hf : Strs w af lf) (hnl : ll.length ≤ 65536) (hnf : lf.length ≤ 65536) (h1 : -1073741824 ≤ asked) (h2 : asked ≤ 9223372036854775807) :
    Calls Try.prog 19 #[.string id, .slice a n c, .int .i64 asked, .slice al ll.length cl, .slice af lf.length cf] w fun e w' => (∃ v, e = .returned v ∧ Plc w.heap.size w' v id ((List.range n).map nd) (((List.range n).map nd).filter fun s => !has ll s) (((List.range n).map nd).filter (has lf)) (stOf n nd fr (has ll) (has lf) asked)) ∧ Below w.heap.size w w' := by
  have H := hide h
  have HL := hide hl
  have HF := hide hf
  clear h hl hf
  go_enter Try.func19, Try.ntmps19
  go_wp2_with fail
  have B1 : Below w.heap.size w (((w.alloc (.cells #[.slice al ll.length cl] 22)).alloc (.cells #[.slice af lf.length cf] 22)).alloc z40) := (((Below.refl _ _).alloc (Nat.le_refl _) _).alloc (by simp) _).alloc (by simp; omega) _
  have P1 := hide (pred26 al ll cl w.heap.size (((w.alloc (.cells #[.slice al ll.length cl] 22)).alloc (.cells #[.slice af lf.length cf] 22)).alloc z40) (by simp; omega) (by go_simp) (HL.out.below B1) hnl)
  have P2 := hide (pred27 af lf cf (w.heap.size + 1) (((w.alloc (.cells #[.slice al ll.length cl] 22)).alloc (.cells #[.slice af lf.length cf] 22)).alloc z40) (by simp) (by go_simp) (HF.out.below B1) hnf)
  have R := hide (show (((w.alloc (.cells #[.slice al ll.length cl] 22)).alloc (.cells #[.slice af lf.length cf] 22)).alloc z40).rowIs (w.heap.size + 1 + 1) 40 5 f40 from by
    have h := row5_new ((w.alloc (.cells #[.slice al ll.length cl] 22)).alloc (.cells #[.slice af lf.length cf] 22)) 40 (.string ⟨#[]⟩) (.slice none 0 0) (.slice none 0 0) (.slice none 0 0) (.int .i64 0)
    simpa using h)
  have B1h := hide B1
  clear B1
  generalize ((w.alloc (.cells #[.slice al ll.length cl] 22)).alloc (.cells #[.slice af lf.length cf] 22)).alloc z40 = W0 at P1 P2 R B1h ⊢
  refine (nsp25 id a n c nd fr re th asked 26 27 _ _ (has ll) (has lf) _ (H.out.below B1h.out) hn P1.out P2.out h1 h2).mono ?_
  rintro e w1 ⟨⟨v, rfl, a1, c1, a3, c3, a4, c4, rfl, ⟨s1, s3, s4⟩, f1, f3, f4⟩, hb⟩
  have S := hide (And.intro s1 (And.intro s3 s4))
  have FF := hide (And.intro f1 (And.intro f3 f4))
  have HB := hide (below_trans B1h.out hb)
  have R1 := hide (row_below R.out hb)
  have HZ := hide R.out.lt
  clear hb s1 s3 s4 f1 f3 f4 R P1 P2 B1h
  have q0 := World.rowIs.cell R1.out (i := 0) (by decide)
  have q1 := World.rowIs.cell R1.out (i := 1) (by decide)
  have q2 := World.rowIs.cell R1.out (i := 2) (by decide)
  have q3 := World.rowIs.cell R1.out (i := 3) (by decide)
  have q4 := World.rowIs.cell R1.out (i := 4) (by decide)
  have qf := World.rowIs.frozen R1.out
  simp only [row5, f40] at q0 q1 q2 q3 q4
  generalize hL : (List.range n).map nd = L at S FF ⊢
  have EL := hide hL
  clear hL
  go_wp2_with fail
  refine bodyPost_ret (v := .agg #[.string id, .slice a1 L.length c1, .slice a3 (L.filter fun s => !has ll s).length c3, .slice a4 (L.filter (has lf)).length c4, .int .i64 (stOf n nd fr (has ll) (has lf) asked)]) ?_ rfl ?_
  · simp [results, Try.results19, go_sem, q0, q1, q2, q3, q4]
  · clear q0 q1 q2 q3 q4 qf
    have hz := HZ.out
    have hB : w.heap.size ≤ w.heap.size + 1 + 1 := by omega
    rw [EL.out]
    refine ⟨⟨_, rfl, a1, c1, a3, c3, a4, c4, rfl, ⟨strs_set5 S.out.1 ?_, strs_set5 S.out.2.1 ?_, strs_set5 S.out.2.2 ?_⟩, fun k off ha hl => by have := FF.out.1 k off ha hl; omega, fun k off ha hl => by have := FF.out.2.1 k off ha hl; omega, fun k off ha hl => by have := FF.out.2.2 k off ha hl; omega⟩, ?_⟩
    · intro k off ha hl
      have := FF.out.1 k off ha hl
      omega
    · intro k off ha hl
      have := FF.out.2.1 k off ha hl
      omega
    · intro k off ha hl
      have := FF.out.2.2 k off ha hl
      omega
    · exact ((((HB.out.setCell hB _).setCell hB _).setCell hB _).setCell hB _).setCell hB _


theorem zz19c (id : ByteArray) (a : Option Addr) (n c : Nat) (nd fr re th : Nat → ByteArray) (asked : Int) (al af : Option Addr) (ll lf : List ByteArray) (cl cf : Nat) (L : List ByteArray) (st : Int) (w : World)
    (h : Reps w a n nd fr re th) (hn : n ≤ 65536) (hl : Strs w al ll) (hf : Strs w af lf) (hnl : ll.length ≤ 65536) (hnf : lf.length ≤ 65536) (h1 : -1073741824 ≤ asked) (h2 : asked ≤ 9223372036854775807)
    (hL : (List.range n).map nd = L) (hst : stOf n nd fr (has ll) (has lf) asked = st) :
    Calls Try.prog 19 #[.string id, .slice a n c, .int .i64 asked, .slice al ll.length cl, .slice af lf.length cf] w fun e w' => (∃ v, e = .returned v ∧ Plc w.heap.size w' v id L (L.filter fun s => !has ll s) (L.filter (has lf)) st) ∧ Below w.heap.size w w' := by
  subst hL hst
  exact zz19b id a n c nd fr re th asked al af ll lf cl cf w h hn hl hf hnl hnf h1 h2

theorem cat11x (a b : Option Addr) (l m x : List ByteArray) (c d : Nat) (w : World) (hx : l ++ m = x) (ha : Strs w a l) (hb : Strs w b m) (hn : l.length ≤ 65536) (hm : m.length ≤ 65536) :
    Calls Try.prog 11 #[.slice a l.length c, .slice b m.length d] w fun e w' => (∃ a' c', e = .returned (.slice a' x.length c') ∧ Strs w' a' x) ∧ Below w.heap.size w w' := by
  subst hx
  exact cat11 a b l m c d w ha hb hn hm

theorem filter13x (a a2 : Option Addr) (l l2 x : List ByteArray) (c c2 : Nat) (inn : Bool) (w : World) (hx : (l.filter fun x => has l2 x == inn) = x) (h : Strs w a l) (h2 : Strs w a2 l2) (hn : l.length ≤ 65536) (hn2 : l2.length ≤ 65536) :
    Calls Try.prog 13 #[.slice a l.length c, .slice a2 l2.length c2, .bool inn] w fun e w' => (∃ a' c', e = .returned (.slice a' x.length c') ∧ Strs w' a' x) ∧ Below w.heap.size w w' := by
  subst hx
  exact filter13 a a2 l l2 c c2 inn w h h2 hn hn2

theorem eq15x (a b : Option Addr) (l : List ByteArray) (c d : Nat) (w : World) (ha : Strs w a l) (hb : Strs w b l) (hn : l.length ≤ 131072) :
    Calls Try.prog 15 #[.slice a l.length c, .slice b l.length d] w fun e w' => e = .returned (.bool true) ∧ Below w.heap.size w w' := by
  have h := eq15 a b l l c d w ha hb hn hn
  rw [show eqL l l = true from decide_eq_true rfl] at h
  exact h

theorem filt_false (l l2 : List ByteArray) : (l.filter fun x => has l2 x == false) = l.filter fun s => !has l2 s := by
  congr 1
  funext x
  cases has l2 x <;> rfl
theorem filt_true (l l2 : List ByteArray) : (l.filter fun x => has l2 x == true) = l.filter (has l2) := by
  congr 1
  funext x
  cases has l2 x <;> rfl

theorem map_take (l : List ByteArray) (k : Nat) (hk : k ≤ l.length) : (List.range k).map (fun i => l.getD i ByteArray.empty) = l.take k := by
  apply List.ext_getElem
  · simp; omega
  · intro i h1 h2
    simp at h1
    simp [List.getD_eq_getElem?_getD, List.getElem?_eq_getElem (show i < l.length by omega)]
theorem map_drop (l : List ByteArray) (k : Nat) (hk : k ≤ l.length) : (List.range (l.length - k)).map (fun i => l.getD (k + i) ByteArray.empty) = l.drop k := by
  apply List.ext_getElem
  · simp
  · intro i h1 h2
    simp at h1
    simp [List.getD_eq_getElem?_getD, List.getElem?_eq_getElem (show k + i < l.length by omega)]

theorem reps_take {w : World} {a : Option Addr} {n k : Nat} {nd fr re th : Nat → ByteArray} (h : Reps w a n nd fr re th) (hk : k ≤ n) : Reps w a k nd fr re th := by
  rcases h with h | ⟨b, off, ha, hlt, hc⟩
  · exact .inl (by omega)
  · exact .inr ⟨b, off, ha, hlt, fun i hi => hc i (by omega)⟩
theorem reps_drop {w : World} {b n k : Nat} {nd fr re th : Nat → ByteArray} {A : Option Addr} (h : Reps w (some ⟨b, 0, none⟩) n nd fr re th) (hk : k ≤ n) (hA : ¬ n = k → A = some ⟨b, k * 4, none⟩) :
    Reps w A (n - k) (fun i => nd (k + i)) (fun i => fr (k + i)) (fun i => re (k + i)) (fun i => th (k + i)) := by
  by_cases e : n = k
  · exact .inl (by omega)
  · rw [hA e]
    rcases h with h | ⟨b', off, ha, hlt, hc⟩
    · exact .inl (by omega)
    · simp at ha
      obtain ⟨rfl, rfl⟩ := ha
      refine .inr ⟨b, k * 4, rfl, hlt, fun i hi => ?_⟩
      have := hc (k + i) (by omega)
      rw [Nat.zero_add, Nat.add_mul] at this
      exact this

/-- What the law carries along: its copies and the replicas. -/
structure Ctx (w W : World) (bn bf bv bz : Option Addr) (br : Nat) (ln lf lr lu lv lz : List ByteArray) : Prop where
  bel : Below w.heap.size w W
  n : Strs W bn ln
  f : Strs W bf lf
  v : Strs W bv lv
  z : Strs W bz lz
  rp : Reps W (some ⟨br, 0, none⟩) ln.length (fun i => ln.getD i ByteArray.empty) (fun i => lf.getD i ByteArray.empty) (fun i => lr.getD i ByteArray.empty) (fun i => lu.getD i ByteArray.empty)
theorem Ctx.below {w W W1 : World} {bn bf bv bz : Option Addr} {br : Nat} {ln lf lr lu lv lz : List ByteArray} (h : Ctx w W bn bf bv bz br ln lf lr lu lv lz) (hb : Below W.heap.size W W1) : Ctx w W1 bn bf bv bz br ln lf lr lu lv lz :=
  ⟨below_trans h.bel hb, h.n.below hb, h.f.below hb, h.v.below hb, h.z.below hb, h.rp.below hb⟩

/-- A placement in a block. -/
structure PlAt (w : World) (B : Nat) (id : ByteArray) (L l3 l4 : List ByteArray) (st : Int) (p1 : Option Addr) (q1 : Nat) (p3 : Option Addr) (q3 : Nat) (p4 : Option Addr) (q4 : Nat) : Prop where
  row : w.rowIs B 40 5 (row5 (.string id) (.slice p1 L.length q1) (.slice p3 l3.length q3) (.slice p4 l4.length q4) (.int .i64 st))
  s1 : Strs w p1 L
  s3 : Strs w p3 l3
  s4 : Strs w p4 l4
theorem PlAt.below {w W : World} {B : Nat} {id : ByteArray} {L l3 l4 : List ByteArray} {st : Int} {p1 p3 p4 : Option Addr} {q1 q3 q4 : Nat} (h : PlAt w B id L l3 l4 st p1 q1 p3 q3 p4 q4) (hb : Below w.heap.size w W) : PlAt W B id L l3 l4 st p1 q1 p3 q3 p4 q4 :=
  ⟨row_below h.row hb, h.s1.below hb, h.s3.below hb, h.s4.below hb⟩
theorem plAt_new {w : World} (id : ByteArray) {L l3 l4 : List ByteArray} (st : Int) {p1 p3 p4 : Option Addr} (q1 q3 q4 : Nat) (h : Strs w p1 L ∧ Strs w p3 l3 ∧ Strs w p4 l4) :
    PlAt (w.alloc (.cells #[.string id, .slice p1 L.length q1, .slice p3 l3.length q3, .slice p4 l4.length q4, .int .i64 st] 40)) w.heap.size id L l3 l4 st p1 q1 p3 q3 p4 q4 :=
  have hb : Below w.heap.size w (w.alloc (.cells #[.string id, .slice p1 L.length q1, .slice p3 l3.length q3, .slice p4 l4.length q4, .int .i64 st] 40)) := (Below.refl _ _).alloc (Nat.le_refl _) _
  ⟨row5_new _ _ _ _ _ _ _, h.1.below hb, h.2.1.below hb, h.2.2.below hb⟩
theorem plAt_set {w : World} {bs N : Nat} {f : Nat → Value} (hr : w.rowIs bs 40 5 f) (id : ByteArray) {L l3 l4 : List ByteArray} (st : Int) {p1 p3 p4 : Option Addr} (q1 q3 q4 : Nat) (h : Strs w p1 L ∧ Strs w p3 l3 ∧ Strs w p4 l4) (hN : bs < N)
    (hf : (∀ k off, p1 = some ⟨k, off, none⟩ → L ≠ [] → N ≤ k) ∧ (∀ k off, p3 = some ⟨k, off, none⟩ → l3 ≠ [] → N ≤ k) ∧ (∀ k off, p4 = some ⟨k, off, none⟩ → l4 ≠ [] → N ≤ k)) :
    PlAt (((((w.setCell ⟨bs, 0, none⟩ (.string id)).setCell ⟨bs, 1, none⟩ (.slice p1 L.length q1)).setCell ⟨bs, 2, none⟩ (.slice p3 l3.length q3)).setCell ⟨bs, 3, none⟩ (.slice p4 l4.length q4)).setCell ⟨bs, 4, none⟩ (.int .i64 st)) bs id L l3 l4 st p1 q1 p3 q3 p4 q4 :=
  ⟨row5_set hr _ _ _ _ _, strs_set5 h.1 (fun k off h1 h2 => by have := hf.1 k off h1 h2; omega), strs_set5 h.2.1 (fun k off h1 h2 => by have := hf.2.1 k off h1 h2; omega), strs_set5 h.2.2 (fun k off h1 h2 => by have := hf.2.2 k off h1 h2; omega)⟩
theorem set5_below {X w : World} {bs : Nat} (hb : Below X.heap.size X w) (lo : X.heap.size ≤ bs) (x0 x1 x2 x3 x4 : Value) :
    Below X.heap.size X (((((w.setCell ⟨bs, 0, none⟩ x0).setCell ⟨bs, 1, none⟩ x1).setCell ⟨bs, 2, none⟩ x2).setCell ⟨bs, 3, none⟩ x3).setCell ⟨bs, 4, none⟩ x4) :=
  ((((hb.setCell lo _).setCell lo _).setCell lo _).setCell lo _).setCell lo _

end Go.Proofs.Qxb6612939a
