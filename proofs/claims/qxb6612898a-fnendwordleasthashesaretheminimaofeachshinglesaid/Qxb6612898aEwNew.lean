import Derived.Test.Qxb6612898aEwVadd
import Derived.Deep.WholeRow
namespace Go.Proofs.Qxb6612898a.EW
open Go.RowKit
/-- The cells of an array of 128 hashes. -/
def lcs (L : Nat → Int) : List Value := (List.range 128).map fun i => .int .u64 (L i)
theorem lcs_len (L : Nat → Int) : (lcs L).length = 128 := by simp [lcs]
theorem lcs_one (L : Nat → Int) : ∀ v ∈ lcs L, v.oneCell' = true := by
  intro v hv
  obtain ⟨_, _, rfl⟩ := List.mem_map.1 hv
  rfl
theorem lcs_at (L : Nat → Int) {j : Nat} (hj : j < 128) : (lcs L)[j]? = some (.int .u64 (L j)) := by simp [lcs, hj]
theorem size39 (L : Nat → Int) : (Try.prog.info? 39).map (·.size) = some (lcs L).length := by rw [lcs_len]; kernel_rfl
theorem size59 (L : Nat → Int) : (Try.prog.info? 59).map (·.size) = some (lcs L).length := by rw [lcs_len]; kernel_rfl
theorem lf_lcs {w : World} {b t : Nat} {L : Nat → Int} (h : w.rowIs b t (lcs L).length (lv (lcs L))) : w.rowIs b t 128 (lf L) := by
  rw [lcs_len] at h
  refine World.rowIs.congr h fun i hi => ?_
  simp [lv, lf, List.getD_eq_getElem?_getD, lcs_at L hi]
theorem range_lf {w : World} {b t : Nat} {L : Nat → Int} (h : w.rowIs b t 128 (lf L)) : w.rangeAt b 0 (lcs L) := by
  refine range_row h fun j v hv => ?_
  have hj : j < 128 := by have := (List.getElem?_eq_some_iff.1 hv).1; rw [lcs_len] at this; exact this
  rw [lcs_at L hj] at hv
  rw [Nat.zero_add]
  exact ⟨by omega, by simpa [lf] using hv⟩

/-- The cells of a new textWalk. -/
def ncs (V : Nat → Nat) (sz : Int) (a : Option Addr) (n c : Nat) (sp : Int) : List Value :=
  fcs V ++ [.pointer none, .int .i64 sz, .slice none 0 0, .slice a n c, .int .i64 sp, .slice none 0 0, .slice none 0 0]
theorem built58 (V : Nat → Nat) (sz : Int) (a : Option Addr) (n c : Nat) (sp : Int) :
    Try.prog.built 58 [(0, .agg (fcs V).toArray), (2, .int .i64 sz), (4, .slice a n c), (5, .int .i64 sp)] = some (ncs V sz a n c sp).toArray := by kernel_rfl
theorem build58 (V : Nat → Nat) (sz : Int) (a : Option Addr) (n c : Nat) (sp : Int) (w : World) :
    (Instr.build 58 #[(0, .agg (fcs V).toArray), (2, .int .i64 sz), (4, .slice a n c), (5, .int .i64 sp)]).run Try.prog w = .ok (.agg (ncs V sz a n c sp).toArray) w :=
  run_build w 58 _ _ (built58 V sz a n c sp)
theorem ncs_tw (V : Nat → Nat) (sz : Int) (a : Option Addr) (n c : Nat) (sp : Int) {i : Nat} (hi : i < 71) : (ncs V sz a n c sp)[i]? = some (tw V (.pointer none) sz (.slice none 0 0) (.slice a n c) sp (.slice none 0 0) (.slice none 0 0) i) := by
  unfold ncs tw vf
  by_cases h : i < 64
  · rw [List.getElem?_append_left (by rw [fcs_len]; exact h), fcs_at V h, if_pos h]
  · rw [List.getElem?_append_right (by rw [fcs_len]; omega), fcs_len, if_neg h]
    have : i = 64 ∨ i = 65 ∨ i = 66 ∨ i = 67 ∨ i = 68 ∨ i = 69 ∨ i = 70 := by omega
    rcases this with rfl | rfl | rfl | rfl | rfl | rfl | rfl <;> simp

theorem wpList_build58 {ops : Array Oper} {rest : List Oper} {op : Oper} {a : Act} {w : World} {Q : Exit → Act → World → Prop} (hgd : op.guard = none) (x0 x2 x4 x5 : Operand) (ho : op.op = .build 58 #[(0, x0), (2, x2), (4, x4), (5, x5)])
    (V : Nat → Nat) (sz : Int) (ad : Option Addr) (n c : Nat) (sp : Int) (h0 : a.eval x0 = .agg (fcs V).toArray) (h2 : a.eval x2 = .int .i64 sz) (h4 : a.eval x4 = .slice ad n c) (h5 : a.eval x5 = .int .i64 sp)
    (h : wpList Try.prog ops Q rest (a.put op.dst (.agg (ncs V sz ad n c sp).toArray)) w) : wpList Try.prog ops Q (op :: rest) a w := by
  refine wpList_plain hgd fun K hK => ?_
  unfold Oper.wp execOp
  simp only [ho, List.map_toArray, List.map_cons, List.map_nil, h0, h2, h4, h5, build58 V sz ad n c sp, Result.andThen_ok, Sem.run_bind, Sem.run_pure]
  exact hK _ _ h
theorem a3_tw (w : World) (o o' : Obj) (V : Nat → Nat) (sz : Int) (a : Option Addr) (n c : Nat) (sp : Int) : (((w.alloc o).alloc o').alloc (.cells (ncs V sz a n c sp).toArray 58)).rowIs (w.heap.size + 2) 58 71 (tw V (.pointer none) sz (.slice none 0 0) (.slice a n c) sp (.slice none 0 0) (.slice none 0 0)) := by
  have h := World.rowIs_alloc ((w.alloc o).alloc o') (ncs V sz a n c sp).toArray 58 (tw V (.pointer none) sz (.slice none 0 0) (.slice a n c) sp (.slice none 0 0) (.slice none 0 0)) (fun i hi => by
    have h71 : (ncs V sz a n c sp).length = 71 := by simp [ncs, fcs_len]
    have : i < 71 := by rw [← h71]; simpa using hi
    rw [List.getElem?_toArray, ncs_tw V sz a n c sp this])
  rw [show (ncs V sz a n c sp).toArray.size = 71 by simp [ncs, fcs_len]] at h
  simpa using h
theorem al_new {w : World} {B T : Nat} {M : Option Nat} {V : Nat → Nat} {L : Nat → Int} {sz : Int} {rn : Value} {sp : Int} (h : St w B T M V L sz (.slice none 0 0) rn sp (.slice none 0 0) (.slice none 0 0)) :
    Al w w B T M V L sz (.slice none 0 0) rn sp (.slice none 0 0) (.slice none 0 0) (.slice none 0 0) (.slice none 0 0) (.slice none 0 0) [] [] [] :=
  ⟨h, World.ownsRow_nil w _ _ _, World.ownsRow_nil w _ _ _, World.ownsRow_nil w _ _ _, .inl rfl, Frm.refl _ _ _⟩

theorem a3_range (w : World) (L : Nat → Int) (o o'' : Obj) (t : TypeId) : (((w.alloc o).alloc (.cells (lcs L).toArray t)).alloc o'').rangeAt (w.heap.size + 1) 0 (lcs L) := by
  intro j v hv
  rw [Nat.zero_add]
  have h1 : ((w.alloc o).alloc (.cells (lcs L).toArray t)).heap[w.heap.size + 1]? = some (.cells (lcs L).toArray t) := by
    have := heap_alloc_new (w.alloc o) (.cells (lcs L).toArray t)
    simpa using this
  have : (((w.alloc o).alloc (.cells (lcs L).toArray t)).alloc o'').heap[w.heap.size + 1]? = some (.cells (lcs L).toArray t) := by
    rw [heap_alloc_old _ _ (h := by simp), h1]
  rw [cell_of_row _ _ _ _ _ _ this]
  simpa using hv
theorem a4_row (w : World) (o o' o'' : Obj) (c : Array Value) (t n : Nat) (hn : c.size = n) : ((((w.alloc o).alloc o').alloc o'').alloc (.cells c t)).rowIs (w.heap.size + 3) t n (fun i => c.getD i undef) := by
  have := row_fresh (((w.alloc o).alloc o').alloc o'') c t n hn
  simpa using this

theorem z59 (w : World) : (zeroValue 59).run Try.prog w = .ok (.agg (lcs fun _ => 0).toArray) w := (zero_of_info (P := Try.prog) (t := 59) (v := .agg (lcs fun _ => 0).toArray) (n := 128) (by kernel_rfl)).1 w
theorem z39 (w : World) : (zeroValue 39).run Try.prog w = .ok (.agg (lcs fun _ => 0).toArray) w := (zero_of_info (P := Try.prog) (t := 39) (v := .agg (lcs fun _ => 0).toArray) (n := 128) (by kernel_rfl)).1 w

set_option maxHeartbeats 1600000 in
set_option maxRecDepth 100000 in
theorem new12_vote (V : Nat → Nat) (L : Nat → Int) (sz : Int) (a : Option Addr) (n c : Nat) (sp : Int) (w : World) :
    Calls Try.prog 12 #[.agg (fcs V).toArray, .bool false, .agg (lcs L).toArray, .int .i64 sz, .slice a n c, .int .i64 sp] w fun e w' => (∃ T, e = .returned (.pointer (some ⟨T, 0, none⟩)) ∧
      Al w' w' w.heap.size T none V L sz (.slice none 0 0) (.slice a n c) sp (.slice none 0 0) (.slice none 0 0) (.slice none 0 0) (.slice none 0 0) (.slice none 0 0) [] [] []) ∧ Below w.heap.size w w' := by
  go_enter Try.func12, Try.ntmps12
  go_wp2_with (first
    | refine wpList_load_mid rfl 30 _ rfl w.heap.size 0 rfl (fcs V) _ (a2_range w V _ _) Try.underlying30 rfl (size30 V) ?_
    | refine wpList_build58 rfl _ _ _ _ rfl V sz a n c sp rfl rfl rfl rfl ?_)
  go_ret
  refine ⟨⟨w.heap.size + 2, rfl, al_new ⟨a3_tw w _ _ V sz a n c sp, by omega, fun b e => by cases e⟩⟩, a3_below w _ _ _⟩

set_option maxHeartbeats 1600000 in
set_option maxRecDepth 100000 in
theorem new12_least (V : Nat → Nat) (L : Nat → Int) (sz : Int) (a : Option Addr) (n c : Nat) (sp : Int) (w : World) :
    Calls Try.prog 12 #[.agg (fcs V).toArray, .bool true, .agg (lcs L).toArray, .int .i64 sz, .slice a n c, .int .i64 sp] w fun e w' => (∃ T b, e = .returned (.pointer (some ⟨T, 0, none⟩)) ∧
      Al w' w' w.heap.size T (some b) V L sz (.slice none 0 0) (.slice a n c) sp (.slice none 0 0) (.slice none 0 0) (.slice none 0 0) (.slice none 0 0) (.slice none 0 0) [] [] []) ∧ Below w.heap.size w w' := by
  have hz := z59
  go_enter Try.func12, Try.ntmps12
  go_wp2_with (first
    | refine wpList_load_mid rfl 30 _ rfl w.heap.size 0 rfl (fcs V) _ (a2_range w V _ _) Try.underlying30 rfl (size30 V) ?_
    | refine wpList_build58 rfl _ _ _ _ rfl V sz a n c sp rfl rfl rfl rfl ?_
    | refine wpList_load_mid rfl 39 _ rfl (w.heap.size + 1) 0 rfl (lcs L) _ (a3_range w L _ _ _) Try.underlying39 rfl (size39 L) ?_
    | refine wpList_store_all rfl 59 _ _ rfl (w.heap.size + 3) 59 (lcs L) rfl rfl _ (a4_row w _ _ _ _ 59 _ (by simp [lcs_len])) (size59 L) (lcs_one L) ?_)
  intro w1 HR HG
  have HT := hide (row_grown (T := w.heap.size + 2) ((a3_tw w _ _ V sz a n c sp).alloc _) HG.out (by simp))
  have HB := hide (show Below w.heap.size w w1 from ((a3_below w _ _ _).alloc (by simp; omega) _).grown HG.out (by simp; omega) (fun j hj => by simp at hj; omega))
  clear HG
  have c64 : w1.cell? ⟨w.heap.size + 2, 64, none⟩ = some (.pointer none) := by
    rw [World.rowIs.cell HT.out (by omega)]; simp [tw, vf]
  have f64 := World.rowIs.frozen HT.out 64
  go_wp2_with fail
  go_ret
  have hg := grown_setT w1 (w.heap.size + 2) 64 (.pointer (some ⟨w.heap.size + 3, 0, none⟩))
  refine ⟨⟨w.heap.size + 2, w.heap.size + 3, rfl, al_new ⟨World.rowIs.congr (World.rowIs.set HT.out 64 _) fun i hi => ?_, by omega, fun b e => ?_⟩⟩, HB.out.grown hg HB.out.size (fun j hj => by simp at hj; omega)⟩
  · unfold tw vf lptr
    by_cases e : i = 64
    · subst e; simp
    · simp only [e, if_false]
  · cases e
    exact ⟨by omega, row_grown (lf_lcs HR.out) hg (by simp)⟩
end Go.Proofs.Qxb6612898a.EW
