/-
  WALKS (D): NewSourcePlacement.
-/
import Derived.Test.Qxb6612939aWalkC
import Derived.Deep.RegionHeld3
import Derived.Deep.DrawnRows
import Derived.Deep.DeepCutAuto
namespace Go.Proofs.Qxb6612939a
open Go.RowKit
attribute [local go_sem ↓] Go.wp_at_zero Go.wp_at_succ

theorem those28n (a : Option Addr) (n : Nat) (l : List ByteArray) (c g : Nat) (caps : Array Value) (p : ByteArray → Bool) (w : World) (hl : n = l.length) (h : Strs w a l) (hn : n ≤ 65536) (hp : Pred w g caps p) :
    Calls Try.prog 28 #[.slice a n c, .func (.func g) #[] caps] w fun e w' => (∃ a' c', e = .returned (.slice a' (l.filter p).length c') ∧ (∀ k off, a' = some ⟨k, off, none⟩ → w.heap.size ≤ k) ∧ Strs w' a' (l.filter p)) ∧ Below w.heap.size w w' := by
  subst hl
  exact those28 a l c g caps p w h hn hp

/-- Five cells. -/
def row5 (x0 x1 x2 x3 x4 : Value) (i : Nat) : Value := match i with | 0 => x0 | 1 => x1 | 2 => x2 | 3 => x3 | _ => x4
theorem row5_new (w : World) (t : TypeId) (x0 x1 x2 x3 x4 : Value) : (w.alloc (.cells #[x0, x1, x2, x3, x4] t)).rowIs w.heap.size t 5 (row5 x0 x1 x2 x3 x4) :=
  World.rowIs_alloc w #[x0, x1, x2, x3, x4] t _ (fun i hi => by
    match i, hi with
    | 0, _ => rfl
    | 1, _ => rfl
    | 2, _ => rfl
    | 3, _ => rfl
    | 4, _ => rfl
    | i + 5, hi => exact absurd hi (by simp))
theorem row5_set {w : World} {b : Nat} {t : TypeId} {f : Nat → Value} (h : w.rowIs b t 5 f) (x0 x1 x2 x3 x4 : Value) :
    (((((w.setCell ⟨b, 0, none⟩ x0).setCell ⟨b, 1, none⟩ x1).setCell ⟨b, 2, none⟩ x2).setCell ⟨b, 3, none⟩ x3).setCell ⟨b, 4, none⟩ x4).rowIs b t 5 (row5 x0 x1 x2 x3 x4) := by
  refine World.rowIs.congr (((((h.set 0 x0).set 1 x1).set 2 x2).set 3 x3).set 4 x4) fun i hi => ?_
  match i, hi with
  | 0, _ => rfl
  | 1, _ => rfl
  | 2, _ => rfl
  | 3, _ => rfl
  | 4, _ => rfl
  | i + 5, hi => exact absurd hi (by simp)

theorem set5_block {w : World} {b k : Nat} (h : k ≠ b) (x0 x1 x2 x3 x4 : Value) :
    (((((w.setCell ⟨b, 0, none⟩ x0).setCell ⟨b, 1, none⟩ x1).setCell ⟨b, 2, none⟩ x2).setCell ⟨b, 3, none⟩ x3).setCell ⟨b, 4, none⟩ x4).heap[k]? = w.heap[k]? := by
  rw [Below.heap_setCell _ _ _ _ h, Below.heap_setCell _ _ _ _ h, Below.heap_setCell _ _ _ _ h, Below.heap_setCell _ _ _ _ h, Below.heap_setCell _ _ _ _ h]
theorem set5_other {w : World} {b b' o : Nat} {x0 x1 x2 x3 x4 : Value} (h : b' ≠ b) :
    (((((w.setCell ⟨b, 0, none⟩ x0).setCell ⟨b, 1, none⟩ x1).setCell ⟨b, 2, none⟩ x2).setCell ⟨b, 3, none⟩ x3).setCell ⟨b, 4, none⟩ x4).cell? ⟨b', o, none⟩ = w.cell? ⟨b', o, none⟩ :=
  World.cell?_of_block (w := w) (set5_block h x0 x1 x2 x3 x4)

abbrev z40 : Obj := .cells #[.string ⟨#[]⟩, .slice none 0 0, .slice none 0 0, .slice none 0 0, .int .i64 0] 40
abbrev f40 : Nat → Value := row5 (.string ⟨#[]⟩) (.slice none 0 0) (.slice none 0 0) (.slice none 0 0) (.int .i64 0)

/-- Three boxes: live, frozen, the result. -/
structure Box (w W : World) (g1 g2 : Nat) (caps1 caps2 : Array Value) : Prop where
  bel : Below w.heap.size w W
  l : W.cell? ⟨w.heap.size, 0, none⟩ = some (.func (.func g1) #[] caps1)
  f : W.cell? ⟨w.heap.size + 1, 0, none⟩ = some (.func (.func g2) #[] caps2)
  r : W.rowIs (w.heap.size + 1 + 1) 40 5 f40

theorem box_new (w : World) (g1 g2 : Nat) (caps1 caps2 : Array Value) :
    Box w (((w.alloc (.cells #[.func (.func g1) #[] caps1] 45)).alloc (.cells #[.func (.func g2) #[] caps2] 45)).alloc z40) g1 g2 caps1 caps2 :=
  ⟨(((Below.refl _ _).alloc (Nat.le_refl _) _).alloc (by simp) _).alloc (by simp; omega) _, by go_simp, by go_simp, by
    have h := row5_new ((w.alloc (.cells #[.func (.func g1) #[] caps1] 45)).alloc (.cells #[.func (.func g2) #[] caps2] 45)) 40 (.string ⟨#[]⟩) (.slice none 0 0) (.slice none 0 0) (.slice none 0 0) (.int .i64 0)
    simpa using h⟩

theorem Box.below {w W W1 : World} {g1 g2 : Nat} {caps1 caps2 : Array Value} (h : Box w W g1 g2 caps1 caps2) (hb : Below W.heap.size W W1) : Box w W1 g1 g2 caps1 caps2 :=
  have hr := h.r.lt
  ⟨below_trans h.bel hb, (hb.cell (p := ⟨w.heap.size, 0, none⟩) (by show w.heap.size < _; omega)).trans h.l, (hb.cell (p := ⟨w.heap.size + 1, 0, none⟩) (by show w.heap.size + 1 < _; omega)).trans h.f, h.r.of_block (hb.block _ hr)⟩

/-- Behind the second statement: the placement under way lies in block bs. -/
structure Mid (w1 wx : World) (bs : Nat) (x0 x1 : Value) (a3 : Option Addr) (c3 : Nat) (a4 : Option Addr) (c4 : Nat) (l3 l4 : List ByteArray) (st : Int) : Prop where
  be : Below w1.heap.size w1 wx
  row : wx.rowIs bs 40 5 (row5 x0 x1 (.slice a3 l3.length c3) (.slice a4 l4.length c4) (.int .i64 st))
  lo : w1.heap.size ≤ bs
  d : Strs wx a3 l3
  f : Strs wx a4 l4
  nd : ∀ k off, a3 = some ⟨k, off, none⟩ → l3 ≠ [] → k ≠ bs ∧ w1.heap.size ≤ k
  nf : ∀ k off, a4 = some ⟨k, off, none⟩ → l4 ≠ [] → k ≠ bs ∧ w1.heap.size ≤ k

theorem Mid.below {w1 wx wy : World} {bs : Nat} {x0 x1 : Value} {a3 a4 : Option Addr} {c3 c4 : Nat} {l3 l4 : List ByteArray} {st : Int} (h : Mid w1 wx bs x0 x1 a3 c3 a4 c4 l3 l4 st) (hb : Below wx.heap.size wx wy) : Mid w1 wy bs x0 x1 a3 c3 a4 c4 l3 l4 st :=
  ⟨below_trans h.be hb, h.row.of_block (hb.block _ h.row.lt), h.lo, h.d.below hb, h.f.below hb, h.nd, h.nf⟩

theorem mid_new {w1 w4 : World} (hb : Below w1.heap.size w1 w4) {x0 x1 : Value} {a3 a4 : Option Addr} {c3 c4 : Nat} {l3 l4 : List ByteArray} (hd : Strs w4 a3 l3) (hf : Strs w4 a4 l4)
    (n3 : ∀ k off, a3 = some ⟨k, off, none⟩ → l3 ≠ [] → k ≠ w4.heap.size ∧ w1.heap.size ≤ k) (n4 : ∀ k off, a4 = some ⟨k, off, none⟩ → l4 ≠ [] → k ≠ w4.heap.size ∧ w1.heap.size ≤ k) :
    Mid w1 (w4.alloc (.cells #[x0, x1, .slice a3 l3.length c3, .slice a4 l4.length c4, .int .i64 0] 40)) w4.heap.size x0 x1 a3 c3 a4 c4 l3 l4 0 :=
  have h4 : Below w4.heap.size w4 (w4.alloc (.cells #[x0, x1, .slice a3 l3.length c3, .slice a4 l4.length c4, .int .i64 0] 40)) := (Below.refl _ _).alloc (Nat.le_refl _) _
  ⟨below_trans hb h4, row5_new _ _ _ _ _ _ _, hb.size, hd.below h4, hf.below h4, n3, n4⟩

theorem strs_set5 {w : World} {b : Nat} {x0 x1 x2 x3 x4 : Value} {a : Option Addr} {l : List ByteArray} (h : Strs w a l) (hne : ∀ k off, a = some ⟨k, off, none⟩ → l ≠ [] → k ≠ b) :
    Strs (((((w.setCell ⟨b, 0, none⟩ x0).setCell ⟨b, 1, none⟩ x1).setCell ⟨b, 2, none⟩ x2).setCell ⟨b, 3, none⟩ x3).setCell ⟨b, 4, none⟩ x4) a l := by
  rcases h with h | ⟨k, off, ha, hlt, hc⟩
  · exact .inl h
  · by_cases hl : l = []
    · exact .inl hl
    · have hk := hne k off ha hl
      exact .inr ⟨k, off, ha, by simpa [World.setCell] using hlt, fun i hi => by rw [set5_other hk]; exact hc i hi⟩

theorem mid_set {w1 w4 : World} {bs : Nat} {f : Nat → Value} (hb : Below w1.heap.size w1 w4) (hr : w4.rowIs bs 40 5 f) (lo : w1.heap.size ≤ bs) {x0 x1 : Value} {a3 a4 : Option Addr} {c3 c4 : Nat} {l3 l4 : List ByteArray} (hd : Strs w4 a3 l3) (hf : Strs w4 a4 l4)
    (n3 : ∀ k off, a3 = some ⟨k, off, none⟩ → l3 ≠ [] → k ≠ bs ∧ w1.heap.size ≤ k) (n4 : ∀ k off, a4 = some ⟨k, off, none⟩ → l4 ≠ [] → k ≠ bs ∧ w1.heap.size ≤ k) :
    Mid w1 (((((w4.setCell ⟨bs, 0, none⟩ x0).setCell ⟨bs, 1, none⟩ x1).setCell ⟨bs, 2, none⟩ (.slice a3 l3.length c3)).setCell ⟨bs, 3, none⟩ (.slice a4 l4.length c4)).setCell ⟨bs, 4, none⟩ (.int .i64 0)) bs x0 x1 a3 c3 a4 c4 l3 l4 0 :=
  ⟨((((hb.setCell lo _).setCell lo _).setCell lo _).setCell lo _).setCell lo _, row5_set hr _ _ _ _ _, lo, strs_set5 hd (fun k off h1 h2 => (n3 k off h1 h2).1), strs_set5 hf (fun k off h1 h2 => (n4 k off h1 h2).1), n3, n4⟩

theorem Strs.lt {w : World} {a : Option Addr} {l : List ByteArray} (h : Strs w a l) : ∀ k off, a = some ⟨k, off, none⟩ → l ≠ [] → k < w.heap.size := by
  intro k off ha hl
  rcases h with h | ⟨k', off', ha', hlt, _⟩
  · exact absurd h hl
  · rw [ha] at ha'
    simp at ha'
    omega

theorem strs_set1 {w : World} {b i : Nat} {x : Value} {a : Option Addr} {l : List ByteArray} (h : Strs w a l) (hne : ∀ k off, a = some ⟨k, off, none⟩ → l ≠ [] → k ≠ b) : Strs (w.setCell ⟨b, i, none⟩ x) a l := by
  rcases h with h | ⟨k, off, ha, hlt, hc⟩
  · exact .inl h
  · by_cases hl : l = []
    · exact .inl hl
    · have hk := hne k off ha hl
      exact .inr ⟨k, off, ha, by simpa [World.setCell] using hlt, fun i hi => (World.cell?_of_block (w := w) (Below.heap_setCell _ _ _ _ hk)).trans (hc i hi)⟩

/-- What NewSourcePlacement hands back. -/
def Plc (B : Nat) (w' : World) (v : Value) (id : ByteArray) (L l3 l4 : List ByteArray) (st : Int) : Prop :=
  ∃ a1 c1 a3 c3 a4 c4, v = .agg #[.string id, .slice a1 L.length c1, .slice a3 l3.length c3, .slice a4 l4.length c4, .int .i64 st] ∧ (Strs w' a1 L ∧ Strs w' a3 l3 ∧ Strs w' a4 l4) ∧
    (∀ k off, a1 = some ⟨k, off, none⟩ → L ≠ [] → B ≤ k) ∧ (∀ k off, a3 = some ⟨k, off, none⟩ → l3 ≠ [] → B ≤ k) ∧ (∀ k off, a4 = some ⟨k, off, none⟩ → l4 ≠ [] → B ≤ k)

/-- The state as the library reckons it. -/
def stOf (n : Nat) (nd fr : Nat → ByteArray) (lv fz : ByteArray → Bool) (asked : Int) : Int :=
  stt n (((List.range n).map nd).filter fun s => lv s && !fz s).length asked (decide (0 < (((List.range n).map nd).filter fun s => lv s && !fz s).length)) (decide ((free fz nd n : Int) < asked ∧ 0 < (keptI (unt fz n nd fr) nd n).length))

theorem sp_new {X W : World} (hb : Below (X.alloc z40).heap.size (X.alloc z40) W) : W.rowIs X.heap.size 40 5 f40 :=
  (row5_new X 40 (.string ⟨#[]⟩) (.slice none 0 0) (.slice none 0 0) (.slice none 0 0) (.int .i64 0)).of_block (hb.block _ (by simp))
theorem row_below {X W : World} {b : Nat} {f : Nat → Value} (h : X.rowIs b 40 5 f) (hb : Below X.heap.size X W) : W.rowIs b 40 5 f := h.of_block (hb.block _ h.lt)

set_option maxHeartbeats 1000000 in
set_option maxRecDepth 100000 in
theorem nsp25 (id : ByteArray) (a : Option Addr) (n c : Nat) (nd fr re th : Nat → ByteArray) (asked : Int) (g1 g2 : Nat) (caps1 caps2 : Array Value) (lv fz : ByteArray → Bool) (w : World)
    (h : Reps w a n nd fr re th) (hn : n ≤ 65536) (hp1 : Pred w g1 caps1 lv) (hp2 : Pred w g2 caps2 fz) (h1 : -1073741824 ≤ asked) (h2 : asked ≤ 9223372036854775807) :
    Calls Try.prog 25 #[.string id, .slice a n c, .int .i64 asked, .func (.func g1) #[] caps1, .func (.func g2) #[] caps2] w fun e w' => (∃ v, e = .returned v ∧ Plc w.heap.size w' v id ((List.range n).map nd) (((List.range n).map nd).filter fun s => !lv s) (((List.range n).map nd).filter fz) (stOf n nd fr lv fz asked)) ∧ Below w.heap.size w w' := by
  have H := hide h
  have HP1 := hide hp1
  have HP2 := hide hp2
  clear h hp1 hp2
  go_enter Try.func25, Try.ntmps25
  go_wp2_with fail
  have HX := hide (box_new w g1 g2 caps1 caps2)
  generalize (((w.alloc (.cells #[.func (.func g1) #[] caps1] 45)).alloc (.cells #[.func (.func g2) #[] caps2] 45)).alloc (.cells #[.string ⟨#[]⟩, .slice none 0 0, .slice none 0 0, .slice none 0 0, .int .i64 0] 40)) = W0 at HX ⊢
  refine (nodes31 a n c nd fr re th _ (H.out.below HX.out.bel) hn).mono ?_
  rintro e w1 ⟨⟨a1, c1, rfl, hf1, hs1⟩, hb1⟩
  have FF1 := hide (show ∀ k off, a1 = some ⟨k, off, none⟩ → w.heap.size + 1 + 1 < k from fun k off h => Nat.lt_of_lt_of_le HX.out.r.lt (hf1 k off h))
  have LT1 := hide hs1.lt
  have HX1 := hide (HX.out.below hb1)
  have HS1 := hide hs1
  clear HX hs1 hb1 W0 hf1
  have hnl : n = ((List.range n).map nd).length := by simp
  generalize hL : (List.range n).map nd = L at HS1 hnl LT1
  have HL := hide hL
  have HN := hide hnl
  clear hL hnl
  have x0 := HX1.out.l
  have x1 := HX1.out.f
  have HZ := hide HX1.out.r.lt
  have d1 : w.heap.size ≠ w1.heap.size := by have := HZ.out; omega
  have d1' : w.heap.size + 1 ≠ w1.heap.size := by have := HZ.out; omega
  go_upto_region 2 with fail
  go_cut [12] (fun s wx => ∃ bs a3 c3 a4 c4, s = .pointer (some ⟨bs, 0, none⟩) ∧ Mid w1 wx bs (.string id) (.slice a1 n c1) a3 c3 a4 c4 (L.filter fun s => !lv s) (L.filter fz) 0)
  case first =>
    go_region_held3 (fun w' => w'.cell? ⟨w.heap.size, 0, none⟩ = some (.func (.func g1) #[] caps1) ∧ w'.cell? ⟨w.heap.size + 1, 0, none⟩ = some (.func (.func g2) #[] caps2)) (first | go_keep | exact ⟨(set5_other (by first | exact d3 | exact d2 | exact d1)).trans t0, (set5_other (by first | exact d3' | exact d2' | exact d1')).trans t1⟩)
      (first
      | (go_at_call 29; refine (not29 g1 caps1 lv _ (by exact HP1.out.below (below_trans HX1.out.bel (by repeat (first | exact Below.refl _ _ | apply Below.drew | refine Below.alloc ?_ (by simp) _))))).mono ?_; rintro e w2 ⟨H3, rfl, hp3, hb2⟩
         have HB2 := hide (show Below w1.heap.size w1 w2 from below_trans (by repeat (first | exact Below.refl _ _ | apply Below.drew | refine Below.alloc ?_ (by simp) _)) hb2)
         have HP3 := hide hp3; have y0 := (HX1.out.below HB2.out).l; have y1 := (HX1.out.below HB2.out).f
         have d2 : w.heap.size ≠ w2.heap.size := by have := HZ.out; have := HB2.out.size; omega
         have d2' : w.heap.size + 1 ≠ w2.heap.size := by have := HZ.out; have := HB2.out.size; omega
         try have HR := hide (sp_new (undrew hb2))
         have SZ2 := hide hb2.size
         clear hb2 hp3)
      | (go_at_call_of 28 (Fn.func 35); refine (those28n a1 n L c1 35 _ _ _ HN.out (by exact HS1.out.below (below_trans HB2.out (by repeat (first | exact Below.refl _ _ | apply Below.drew | refine Below.alloc ?_ (by simp) _)))) hn (by exact HP3.out.below (by repeat (first | exact Below.refl _ _ | apply Below.drew | refine Below.alloc ?_ (by simp) _)))).mono ?_; rintro e w3 ⟨⟨a3, c3, rfl, hf3, hs3⟩, hb3⟩
         have HB3 := hide (show Below w1.heap.size w1 w3 from below_trans HB2.out (below_trans (by repeat (first | exact Below.refl _ _ | apply Below.drew | refine Below.alloc ?_ (by simp) _)) hb3))
         have HD3 := hide hs3; have FF3 := hide hf3; have LT3 := hide hs3.lt; have z0 := (HX1.out.below HB3.out).l; have z1 := (HX1.out.below HB3.out).f
         have d3 : w.heap.size ≠ w3.heap.size := by have := HZ.out; have := HB3.out.size; omega
         have d3' : w.heap.size + 1 ≠ w3.heap.size := by have := HZ.out; have := HB3.out.size; omega
         try have HR := hide (row_below HR.out hb3)
         try have HR := hide (sp_new hb3)
         have SZ3 := hide hb3.size
         clear hb3 hs3 hf3)
      | (go_at_call 28; refine (those28n a1 n L c1 g2 caps2 fz _ HN.out (by exact HS1.out.below (below_trans HB3.out (by repeat (first | exact Below.refl _ _ | apply Below.drew | refine Below.alloc ?_ (by simp) _)))) hn (by exact HP2.out.below (below_trans HX1.out.bel (below_trans HB3.out (by repeat (first | exact Below.refl _ _ | apply Below.drew | refine Below.alloc ?_ (by simp) _)))))).mono ?_; rintro e w4 ⟨⟨a4, c4, rfl, hf4, hs4⟩, hb4⟩
         have HB4 := hide (show Below w1.heap.size w1 w4 from below_trans HB3.out (below_trans (by repeat (first | exact Below.refl _ _ | apply Below.drew | refine Below.alloc ?_ (by simp) _)) hb4))
         have HD4 := hide (HD3.out.below (below_trans (by repeat (first | exact Below.refl _ _ | apply Below.drew | refine Below.alloc ?_ (by simp) _)) hb4)); have HF4 := hide hs4; have FF4 := hide hf4; have LT4 := hide hs4.lt; have SZ4 := hide hb4.size; have t0 := (HX1.out.below HB4.out).l; have t1 := (HX1.out.below HB4.out).f
         have d4 : w.heap.size ≠ w4.heap.size := by have := HZ.out; have := HB4.out.size; omega
         have d4' : w.heap.size + 1 ≠ w4.heap.size := by have := HZ.out; have := HB4.out.size; omega
         try have HR := hide (row_below HR.out hb4)
         try have HR := hide (sp_new hb4)
         try (have r0 := World.rowIs.cell HR.out (i := 0) (by decide); have r1 := World.rowIs.cell HR.out (i := 1) (by decide); have r2 := World.rowIs.cell HR.out (i := 2) (by decide); have r3 := World.rowIs.cell HR.out (i := 3) (by decide); have r4 := World.rowIs.cell HR.out (i := 4) (by decide); have rf := World.rowIs.frozen HR.out)
         clear hb4 hs4 hf4))
    all_goals
      go_wp2_with fail
      go_meet
    · refine ⟨_, _, _, _, _, rfl, mid_new HB4.out HD4.out HF4.out ?_ ?_⟩
      · intro k off ha hl
        have q := LT3.out k off ha hl
        have q1 := FF3.out k off ha
        have q2 := HB2.out.size
        have q4 := SZ4.out
        omega
      · intro k off ha hl
        have q := FF4.out k off ha
        have q1 := LT4.out k off ha hl
        have q2 := HB3.out.size
        omega
    · refine ⟨_, _, _, _, _, rfl, mid_set HB4.out HR.out HB3.out.size HD4.out HF4.out ?_ ?_⟩
      · intro k off ha hl
        have q := LT3.out k off ha hl
        have q1 := FF3.out k off ha
        have q2 := HB2.out.size
        omega
      · intro k off ha hl
        have q := FF4.out k off ha
        rw [World.size_alloc] at q
        have q2 := HB3.out.size
        omega
    · refine ⟨_, _, _, _, _, rfl, mid_set HB4.out HR.out HB2.out.size HD4.out HF4.out ?_ ?_⟩
      · intro k off ha hl
        have q := FF3.out k off ha
        rw [World.size_alloc] at q
        have q2 := HB2.out.size
        omega
      · intro k off ha hl
        have q := FF4.out k off ha
        have q2 := SZ3.out
        rw [World.size_alloc] at q2
        have q3 := HB2.out.size
        omega
    · refine ⟨_, _, _, _, _, rfl, mid_set HB4.out HR.out (Nat.le_refl _) HD4.out HF4.out ?_ ?_⟩
      · intro k off ha hl
        have q := FF3.out k off ha
        have q2 := SZ2.out
        simp at q2
        omega
      · intro k off ha hl
        have q := FF4.out k off ha
        have q2 := SZ2.out
        have q3 := SZ3.out
        simp at q2
        omega
  case rest =>
    obtain ⟨bs, a3, c3, a4, c4, rfl, hm⟩ := hcut
    have HM := hide hm
    clear hm x0 x1 d1 d1'
    have HXc := hide (HX1.out.below HM.out.be)
    go_wp2_with fail
    refine (those28n a1 n L c1 32 _ (fun s => lv s && !fz s) _ HN.out (HS1.out.below HM.out.be) hn (pred32 g1 g2 caps1 caps2 lv fz _ _ _ (by have := HXc.out.r.lt; omega) (by have := HXc.out.r.lt; omega) HXc.out.l HXc.out.f (HP1.out.below HXc.out.bel) (HP2.out.below HXc.out.bel))).mono ?_
    rintro e w5 ⟨⟨a5, c5, rfl, _, hs5⟩, hb5⟩
    have HX5 := hide (HXc.out.below hb5)
    have HM5 := hide (HM.out.below hb5)
    clear hb5 hs5 HXc HM
    generalize hsv : (L.filter fun s => lv s && !fz s).length = sv
    have HSV := hide hsv
    clear hsv
    have x1 := HX5.out.f
    go_wp2_with fail
    refine (await33 a n c nd fr re th asked g2 caps2 fz _ (H.out.below HX5.out.bel) hn (HP2.out.below HX5.out.bel) h1 h2).mono ?_
    rintro e w6 ⟨⟨m, ⟨a6, c6, rfl⟩, hm6, hm0⟩, hb6⟩
    have HX6 := hide (HX5.out.below hb6)
    have HM6 := hide (HM5.out.below hb6)
    have H0 := hide hm0
    clear hb6 HX5 HM5 hm0 x1
    go_wp2_with fail
    refine (state34 n sv asked _ _ _).mono ?_
    rintro e w7 ⟨rfl, rfl⟩
    have r0 := World.rowIs.cell HM6.out.row (i := 0) (by decide)
    have r1 := World.rowIs.cell HM6.out.row (i := 1) (by decide)
    have r2 := World.rowIs.cell HM6.out.row (i := 2) (by decide)
    have r3 := World.rowIs.cell HM6.out.row (i := 3) (by decide)
    have r4 := World.rowIs.cell HM6.out.row (i := 4) (by decide)
    have rf := World.rowIs.frozen HM6.out.row
    have q0 := World.rowIs.cell HX6.out.r (i := 0) (by decide)
    have q1 := World.rowIs.cell HX6.out.r (i := 1) (by decide)
    have q2 := World.rowIs.cell HX6.out.r (i := 2) (by decide)
    have q3 := World.rowIs.cell HX6.out.r (i := 3) (by decide)
    have q4 := World.rowIs.cell HX6.out.r (i := 4) (by decide)
    have qf := World.rowIs.frozen HX6.out.r
    have hne : bs ≠ w.heap.size + 1 + 1 := by have := HM6.out.lo; have := HZ.out; omega
    have hne' : w.heap.size + 1 + 1 ≠ bs := fun h => hne h.symm
    simp only [row5, f40] at r0 r1 r2 r3 r4 q0 q1 q2 q3 q4
    go_wp2_with fail
    have HE := hide (show stt n sv asked (decide (0 < sv)) (decide (0 < m)) = stOf n nd fr lv fz asked from by
      unfold stOf
      rw [HL.out, HSV.out]
      have e : decide (0 < m) = decide ((free fz nd n : Int) < asked ∧ 0 < (keptI (unt fz n nd fr) nd n).length) := by rw [Bool.eq_iff_iff]; simpa using H0.out
      rw [e])
    refine bodyPost_ret (v := .agg #[.string id, .slice a1 n c1, .slice a3 (L.filter fun s => !lv s).length c3, .slice a4 (L.filter fz).length c4, .int .i64 (stt n sv asked (decide (0 < sv)) (decide (0 < m)))]) ?_ rfl ?_
    · simp [results, Try.results25, go_sem, q0, q1, q2, q3, q4]
    · clear r0 r1 r2 r3 r4 rf q0 q1 q2 q3 q4 qf
      have hz := HZ.out
      have hlo := HM6.out.lo
      have hB : w.heap.size ≤ w.heap.size + 1 + 1 := by omega
      have hB' : w.heap.size ≤ bs := by omega
      refine ⟨⟨_, rfl, a1, c1, a3, c3, a4, c4, ?_, ⟨?_, ?_, ?_⟩, fun k off ha _ => by have := FF1.out k off ha; omega, fun k off ha hl => by have := (HM6.out.nd k off ha (by rw [HL.out] at hl; exact hl)).2; omega, fun k off ha hl => by have := (HM6.out.nf k off ha (by rw [HL.out] at hl; exact hl)).2; omega⟩, ?_⟩
      · rw [HL.out, ← HN.out, HE.out]
      · rw [HL.out]
        refine strs_set5 (strs_set1 (HS1.out.below HM6.out.be) ?_) ?_
        · intro k off ha hl
          have := LT1.out k off ha hl
          omega
        · intro k off ha hl
          have := FF1.out k off ha
          omega
      · rw [HL.out]
        refine strs_set5 (strs_set1 HM6.out.d ?_) ?_
        · intro k off ha hl
          exact (HM6.out.nd k off ha hl).1
        · intro k off ha hl
          have := (HM6.out.nd k off ha hl).2
          omega
      · rw [HL.out]
        refine strs_set5 (strs_set1 HM6.out.f ?_) ?_
        · intro k off ha hl
          exact (HM6.out.nf k off ha hl).1
        · intro k off ha hl
          have := (HM6.out.nf k off ha hl).2
          omega
      · exact (((((HX6.out.bel.setCell hB' _).setCell hB _).setCell hB _).setCell hB _).setCell hB _).setCell hB _
end Go.Proofs.Qxb6612939a
