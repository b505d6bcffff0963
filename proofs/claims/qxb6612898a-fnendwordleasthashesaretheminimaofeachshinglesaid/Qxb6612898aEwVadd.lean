import Derived.Test.Qxb6612898aEwHolds
import Derived.Deep.MidRow
namespace Go.Proofs.Qxb6612898a.EW
open Go.RowKit
/-- The cells of an array of 64 floats. -/
def fcs (V : Nat → Nat) : List Value := (List.range 64).map fun i => .float .f64 (V i)
theorem fcs_len (V : Nat → Nat) : (fcs V).length = 64 := by simp [fcs]
theorem fcs_one (V : Nat → Nat) : ∀ v ∈ fcs V, v.oneCell' = true := by
  intro v hv
  obtain ⟨_, _, rfl⟩ := List.mem_map.1 hv
  rfl
theorem fcs_at (V : Nat → Nat) {j : Nat} (hj : j < 64) : (fcs V)[j]? = some (.float .f64 (V j)) := by simp [fcs, hj]
theorem size30 (V : Nat → Nat) : (Try.prog.info? 30).map (·.size) = some (fcs V).length := by rw [fcs_len]; kernel_rfl
theorem size55 (V : Nat → Nat) : (Try.prog.info? 55).map (·.size) = some (fcs V).length := by rw [fcs_len]; kernel_rfl

/-- A load of a whole array out of a row (or its middle). -/
theorem range_row {w : World} {b t n o : Nat} {f : Nat → Value} {cs : List Value} (h : w.rowIs b t n f) (hc : ∀ j v, cs[j]? = some v → o + j < n ∧ f (o + j) = v) : w.rangeAt b o cs := by
  intro j v hv
  obtain ⟨h1, h2⟩ := hc j v hv
  rw [World.rowIs.cell h h1, h2]

theorem row_setCells {b t : Nat} : ∀ (cs : List Value) (o n : Nat) (w : World) (f : Nat → Value), w.rowIs b t n f → (w.setCells b o cs).rowIs b t n (fun i => if o ≤ i ∧ i < o + cs.length then cs.getD (i - o) undef else f i)
  | [], o, n, w, f, h => by
    refine World.rowIs.congr (show (w.setCells b o []).rowIs b t n f from h) fun i _ => ?_
    rw [if_neg (by simp)]
  | v :: r, o, n, w, f, h => by
    have h1 := row_setCells r (o + 1) n (w.setCell ⟨b, o, none⟩ v) _ (World.rowIs.set h o v)
    refine World.rowIs.congr (show (w.setCells b o (v :: r)).rowIs b t n _ from h1) fun i _ => ?_
    by_cases e : i = o
    · subst e
      rw [if_neg (by omega), if_pos rfl, if_pos (by simp)]
      simp
    · rw [if_neg e]
      by_cases h2 : o + 1 ≤ i ∧ i < o + 1 + r.length
      · rw [if_pos h2, if_pos (by simp; omega)]
        obtain ⟨k, rfl⟩ : ∃ k, i = o + 1 + k := ⟨i - (o + 1), by omega⟩
        simp [show o + 1 + k - o = k + 1 by omega, show o + 1 + k - (o + 1) = k by omega]
      · rw [if_neg h2, if_neg (by simp; omega)]
theorem grown_setCells {b : Nat} : ∀ (cs : List Value) (o : Nat) (w w0 : World), w0.grownBy w (some b) → w0.grownBy (w.setCells b o cs) (some b)
  | [], _, _, _, h => h
  | v :: r, o, w, w0, h => grown_setCells r (o + 1) (w.setCell ⟨b, o, none⟩ v) w0 (grown_set h o v)

/-- A list by its index. -/
def lv (cs : List Value) (i : Nat) : Value := cs.getD i undef
/-- A store of a whole array over a row. -/
theorem wpList_store_all {ops : Array Oper} {rest : List Oper} {op : Oper} {a : Act} {w : World} {Q : Exit → Act → World → Prop} (hgd : op.guard = none) (ty : TypeId) (x y : Operand) (ho : op.op = .store ty x y)
    (b t : Nat) (cs : List Value) (hx : a.eval x = .pointer (some ⟨b, 0, none⟩)) (hy : a.eval y = .agg cs.toArray) (f : Nat → Value)
    (hr : w.rowIs b t cs.length f) (hi : (Try.prog.info? ty).map (·.size) = some cs.length) (h1 : ∀ v ∈ cs, v.oneCell' = true)
    (h : ∀ w', Hid (w'.rowIs b t cs.length (lv cs)) → Hid (w.grownBy w' (some b)) → wpList Try.prog ops Q rest (a.put op.dst undef) w') : wpList Try.prog ops Q (op :: rest) a w := by
  refine wpList_store_mid hgd ty x y ho b 0 cs.toArray hx hy (fun j hj => ?_) (by simpa using hi) (all_oneCell_toArray h1) (h _ ?_ ?_)
  · rw [Nat.zero_add]
    exact ⟨by rw [World.rowIs.cell hr (by simpa using hj)]; rfl, World.rowIs.frozen hr j⟩
  · refine World.rowIs.congr (row_setCells cs 0 cs.length w f hr) fun i hi => ?_
    rw [if_pos ⟨by omega, by omega⟩, Nat.sub_zero]
    rfl
  · exact grown_setCells cs 0 w w (World.grownBy.refl _ _)

theorem a2_range (w : World) (V : Nat → Nat) (t : TypeId) (o : Obj) : ((w.alloc (.cells (fcs V).toArray t)).alloc o).rangeAt w.heap.size 0 (fcs V) := by
  intro j v hv
  rw [Nat.zero_add]
  have : ((w.alloc (.cells (fcs V).toArray t)).alloc o).heap[w.heap.size]? = some (.cells (fcs V).toArray t) := by
    rw [heap_alloc_old _ _ (h := by simp), heap_alloc_new]
  rw [cell_of_row _ _ _ _ _ _ this]
  simpa using hv
theorem row_fresh (w : World) (c : Array Value) (t n : Nat) (hn : c.size = n) : (w.alloc (.cells c t)).rowIs w.heap.size t n (fun i => c.getD i undef) := by
  subst hn
  refine World.rowIs_alloc w c t _ fun i hi => ?_
  simp [hi]
theorem a3_row (w : World) (o o' : Obj) (c : Array Value) (t n : Nat) (hn : c.size = n) : (((w.alloc o).alloc o').alloc (.cells c t)).rowIs (w.heap.size + 2) t n (fun i => c.getD i undef) := by
  have := row_fresh ((w.alloc o).alloc o') c t n hn
  simpa using this
theorem a3_row1 (w : World) (o o'' : Obj) (c : Array Value) (t n : Nat) (hn : c.size = n) : (((w.alloc o).alloc (.cells c t)).alloc o'').rowIs (w.heap.size + 1) t n (fun i => c.getD i undef) := by
  have h := row_fresh (w.alloc o) c t n hn
  have h2 := World.rowIs.alloc h o''
  simpa using h2
theorem a3_below (w : World) (o o' o'' : Obj) : Below w.heap.size w (((w.alloc o).alloc o').alloc o'') :=
  (((Below.refl _ _).alloc (Nat.le_refl _) _).alloc (by simp) _).alloc (by simp; omega) _
theorem vf_fcs {w : World} {b t : Nat} {V : Nat → Nat} (h : w.rowIs b t (fcs V).length (lv (fcs V))) (f : Nat → Value) : w.rowIs b t 64 (vf V f) := by
  rw [fcs_len] at h
  refine World.rowIs.congr h fun i hi => ?_
  simp [lv, vf, hi, List.getD_eq_getElem?_getD, fcs_at V hi]
theorem row_cells {w : World} {b t : Nat} {cs : List Value} (h : w.rowIs b t cs.length (lv cs)) : w.heap[b]? = some (.cells cs.toArray t (0, 0)) := by
  obtain ⟨c, hh, hs, hc⟩ := h
  rw [hh]
  have : c = cs.toArray := by
    apply Array.ext_getElem?
    intro i
    by_cases hi : i < cs.length
    · rw [hc i hi]; simp [lv, List.getD_eq_getElem?_getD, List.getElem?_eq_getElem hi]
    · rw [Array.getElem?_eq_none (by omega), Array.getElem?_eq_none (by simp; omega)]
  rw [this]
theorem range_vf {w : World} {b t n : Nat} {V : Nat → Nat} {f : Nat → Value} (h : w.rowIs b t n (vf V f)) (hn : 64 ≤ n) : w.rangeAt b 0 (fcs V) := by
  refine range_row h fun j v hv => ?_
  have hj : j < 64 := by have := (List.getElem?_eq_some_iff.1 hv).1; rw [fcs_len] at this; exact this
  rw [fcs_at V hj] at hv
  rw [Nat.zero_add]
  exact ⟨by omega, by simp [vf, hj]; simpa using hv⟩

set_option maxHeartbeats 1600000 in
set_option maxRecDepth 100000 in
theorem vadd16 (V : Nat → Nat) (hash : Int) (w : World) :
    Calls Try.prog 16 #[.agg (fcs V).toArray, .int .u64 hash, .float .f64 4607182418800017408] w fun e w' => (∃ U, e = .returned (.agg (fcs U).toArray) ∧ ∀ i, i < 64 → Sum (V i) (cb hash i) (U i)) ∧ Below w.heap.size w w' := by
  go_enter Try.func16, Try.ntmps16
  go_wp2_with (first
    | refine wpList_load_mid rfl 30 _ rfl w.heap.size 0 rfl (fcs V) _ (a2_range w V _ _) Try.underlying30 rfl (size30 V) ?_
    | refine wpList_store_all rfl 55 _ _ rfl (w.heap.size + 2) 55 (fcs V) rfl rfl _ (a3_row w _ _ _ 55 _ (by rw [fcs_len]; rfl)) (size55 V) (fcs_one V) ?_)
  intro w1 HR HG
  have HB := hide (show Below w.heap.size w w1 from (a3_below w _ _ _).grown HG.out (by simp; omega) (fun j hj => by simp at hj; omega))
  have HT := hide (row_grown (T := w.heap.size + 1) (a3_row1 w _ _ _ 30 64 rfl) HG.out (by simp))
  clear HG
  go_wp2_with fail
  refine (vote27 (w.heap.size + 2) 55 64 V (fun _ => undef) hash w1 (by omega) (vf_fcs HR.out _)).mono ?_
  rintro e w2 ⟨rfl, U, hr, hs, hg⟩
  have HT2 := hide (row_grown HT.out hg (by simp))
  have HB2 := hide (HB.out.grown hg HB.out.size (fun j hj => by simp at hj; omega))
  have HU := hide hs
  have HR2 := hide (range_vf hr (by omega))
  clear hr hs hg HR HT HB
  have HT3 := hide (show w2.rowIs (w.heap.size + 1) 30 (fcs U).length _ from by rw [fcs_len]; exact HT2.out)
  go_wp2_with (first
    | refine wpList_load_mid rfl 55 _ rfl (w.heap.size + 2) 0 rfl (fcs U) _ HR2.out Try.underlying55 rfl (size55 U) ?_
    | refine wpList_store_all rfl 30 _ _ rfl (w.heap.size + 1) 30 (fcs U) rfl rfl _ HT3.out (size30 U) (fcs_one U) ?_)
  intro w3 HR3 HG3
  have HB3 := hide (HB2.out.grown HG3.out HB2.out.size (fun j hj => by simp at hj; omega))
  clear HG3
  go_wp2_with fail
  refine bodyPost_ret (results_cell_row rfl _ w3 (w.heap.size + 1) 30 (fcs U).toArray (0, 0) _ rfl (row_cells HR3.out) Try.underlying30 rfl (by simpa using size30 U)) rfl ?_
  exact ⟨⟨U, rfl, HU.out⟩, HB3.out⟩
end Go.Proofs.Qxb6612898a.EW
