/-
  PARTS (EndWord): the law's own part of the state.
-/
import Derived.Test.Qxb6612898aEwStateV
import Derived.Test.Qxb6612898aEwBytesV
namespace Go.Proofs.Qxb6612898a.EW
open Go.RowKit
/-- The lengths' sum. -/
def lsum : List (List Int) → Nat
  | [] => 0
  | x :: r => x.length + lsum r
theorem lsum_append (A : List (List Int)) (x : List Int) : lsum (A ++ [x]) = lsum A + x.length := by
  induction A with
  | nil => simp [lsum]
  | cons y r ih => simp [lsum, ih]; omega
theorem lsum_take_succ (K : List (List Int)) (k : Nat) (h : k < K.length) : lsum (K.take (k + 1)) = lsum (K.take k) + (K.getD k []).length := by
  rw [take_succ' K k h, lsum_append]
theorem getD_le_lsum : ∀ (K : List (List Int)) (i : Nat), (K.getD i []).length ≤ lsum K
  | [], i => by simp
  | x :: r, 0 => by simp [lsum]
  | x :: r, i + 1 => by
    have := getD_le_lsum r i
    simp only [List.getD_cons_succ, lsum]
    omega
theorem jn_lsum : ∀ K : List (List Int), (jn K).length = lsum K + K.length
  | [] => rfl
  | x :: r => by rw [jn_len, jn_lsum r]; simp [lsum]; omega
theorem range_below {w w1 : World} {b o : Nat} {cs : List Value} (h : w.rangeAt b o cs) (hb : Below w.heap.size w w1) (hlt : b < w.heap.size) : w1.rangeAt b o cs :=
  fun j v hv => (hb.cell (p := ⟨b, o + j, none⟩) hlt).trans (h j v hv)
theorem a1_range (w : World) (V : Nat → Nat) (t : TypeId) : (w.alloc (.cells (fcs V).toArray t)).rangeAt w.heap.size 0 (fcs V) := by
  intro j v hv
  rw [Nat.zero_add, cell_of_row _ _ _ _ _ _ (heap_alloc_new w _)]
  simpa using hv
/-- The last z. -/
def last (z : Nat) (K : List (List Int)) : List (List Int) := K.drop (K.length - z)
theorem last_len (z : Nat) (K : List (List Int)) : (last z K).length = min z K.length := by
  unfold last; rw [List.length_drop]; omega
theorem win_last {sz : Int} {z : Nat} (hz : sz = z) (h1 : 1 ≤ z) (K : List (List Int)) (x : List Int) : win sz (stay sz (last z K)) x = last z (K ++ [x]) := by
  subst hz
  by_cases e : z = 1
  · subst e
    have hs : stay ((1 : Nat) : Int) (last 1 K) = [] := by unfold stay; rw [if_pos (by rfl)]
    rw [hs]
    unfold win last
    rw [if_neg (by simp)]
    simp
  · have hs : stay (z : Int) (last z K) = last z K := by unfold stay; rw [if_neg (by omega)]
    rw [hs]
    unfold win
    rw [last_len]
    unfold last
    by_cases h : z ≤ K.length
    · rw [if_pos (by omega), List.drop_drop, List.length_append]
      rw [show K.length + [x].length - z = (K.length - z) + 1 by simp; omega]
      rw [List.drop_append_of_le_length (by omega)]
    · rw [if_neg (by omega), List.length_append]
      rw [show K.length - z = 0 by omega, show K.length + [x].length - z = 0 by simp; omega]
      simp


theorem getD_l {α : Type} (A B : List α) (d : α) {i : Nat} (h : i < A.length) : (A ++ B).getD i d = A.getD i d := by simp [List.getD_eq_getElem?_getD, List.getElem?_append_left h]
theorem getD_last {α : Type} (A : List α) (x d : α) : (A ++ [x]).getD A.length d = x := by simp [List.getD_eq_getElem?_getD]
/-- As it stands now. -/
theorem Al.re {w0 w : World} {B T : Nat} {M : Option Nat} {V : Nat → Nat} {L : Nat → Int} {sz : Int} {wr rn : Value} {sp : Int} {sr lr wv sv lv : Value} {wl sl ll : List Int} (h : Al w0 w B T M V L sz wr rn sp sr lr wv sv lv wl sl ll) : Al w w B T M V L sz wr rn sp sr lr wv sv lv wl sl ll :=
  ⟨h.st, h.ow, h.os, h.ol, h.ap, Frm.refl _ _ _⟩
theorem Al.frm {w0 w w1 : World} {B T : Nat} {M : Option Nat} {V : Nat → Nat} {L : Nat → Int} {sz : Int} {wr rn : Value} {sp : Int} {sr lr wv sv lv : Value} {wl sl ll : List Int} {E : List TypeId} (h : Al w0 w B T M V L sz wr rn sp sr lr wv sv lv wl sl ll) (hf : Frm E B w w1)
    (h1 : 58 ∉ E) (h2 : 59 ∉ E) (h3 : 5 ∉ E) (h4 : 3 ∉ E) : Al w1 w1 B T M V L sz wr rn sp sr lr wv sv lv wl sl ll :=
  ⟨⟨hf.row h.st.row h1, h.st.tb, fun b e => ⟨(h.st.ls b e).1, hf.row (h.st.ls b e).2 h2⟩⟩, hf.owns h.ow h3, hf.owns h.os h3, hf.owns h.ol h4, h.ap, Frm.refl _ _ _⟩
/-- What the law itself holds: 'want' (a row of type tw, n cells, f), the words kept. -/
structure Ot (w4 wr : World) (tw n : Nat) (Wb : Nat) (f : Nat → Value) (kv : Value) (K : List (List Int)) : Prop where
  be : Below w4.heap.size w4 wr
  wn : wr.rowIs Wb tw n f
  wb : w4.heap.size ≤ Wb
  kp : ∃ vs : List Value, wr.ownsRow w4.heap.size 31 1 kv K.length vs ∧ ∀ i, i < K.length → Cl w4 (vs.getD i undef) (K.getD i [])
  ne : ∀ i, i < K.length → 0 < (K.getD i []).length
section
variable {w4 wr w1 : World} {tw n Wb : Nat} {f : Nat → Value} {kv : Value} {K : List (List Int)}
theorem Ot.frm (h : Ot w4 wr tw n Wb f kv K) (hf : Frm [58, 59, 5, 3] w4.heap.size wr w1) (ht : tw ∉ [58, 59, 5, 3]) : Ot w4 w1 tw n Wb f kv K := by
  obtain ⟨vs, h1, h2⟩ := h.kp
  exact ⟨h.be.trans hf.below, hf.row h.wn ht, h.wb, ⟨vs, hf.owns h1 (by decide), h2⟩, h.ne⟩
theorem Ot.below (h : Ot w4 wr tw n Wb f kv K) (hb : Below wr.heap.size wr w1) : Ot w4 w1 tw n Wb f kv K := by
  obtain ⟨vs, h1, h2⟩ := h.kp
  exact ⟨h.be.trans (hb.mono h.be.size), row_below hb h.wn, h.wb, ⟨vs, owns_below hb h1, h2⟩, h.ne⟩
theorem Ot.want (h : Ot w4 wr tw n Wb f kv K) {g : Nat → Value} (hg : wr.grownBy w1 (some Wb)) (hr : w1.rowIs Wb tw n g) (ht : tw ≠ 31) : Ot w4 w1 tw n Wb g kv K := by
  obtain ⟨vs, h1, h2⟩ := h.kp
  refine ⟨h.be.grown hg h.be.size (fun j hj => by simp at hj; have := h.wb; omega), hr, h.wb, ⟨vs, World.ownsRow.kept h1 hg ?_, h2⟩, h.ne⟩
  exact .inr (ne_types h.wn h1 (Ne.symm ht))
theorem Ot.ws (h : Ot w4 wr tw n Wb f kv K) : ∃ a c, kv = .slice a K.length c ∧ Ws wr a K := by
  obtain ⟨vs, h1, h2⟩ := h.kp
  have hvl : vs.length = K.length := by simpa using h1.1
  rcases h1.2 with ⟨rfl, h0⟩ | ⟨g, cap, cur, rfl, hb, hg, hn, hm, hs, ht⟩
  · rw [h0]; exact ⟨none, 0, rfl, .inl (List.eq_nil_of_length_eq_zero h0)⟩
  · refine ⟨_, cap, rfl, .inr ⟨g, 0, rfl, (Array.getElem?_eq_some_iff.1 hg).1, fun i hi => ⟨vs.getD i undef, ?_, (h2 i hi).below h.be⟩⟩⟩
    have := World.ownsRow.cells h1 (g := g) rfl i (vs.getD i undef) (by simp [List.getD_eq_getElem?_getD, List.getElem?_eq_getElem (show i < vs.length by omega)])
    rw [Addr.add_lit] at this
    simpa using this
/-- A word more. -/
theorem Ot.more (h : Ot w4 wr tw n Wb f kv K) {v kv' : Value} {x : List Int} (hv : Cl w4 v x) (hx : 0 < x.length) (hg : wr.grownBy w1 kv.ownBlock) (ho : ∀ vs, wr.ownsRow w4.heap.size 31 1 kv K.length vs → w1.ownsRow w4.heap.size 31 1 kv' (K.length + 1) (vs ++ [v])) (ht : tw ≠ 31) : Ot w4 w1 tw n Wb f kv' (K ++ [x]) := by
  obtain ⟨vs, h1, h2⟩ := h.kp
  have hvl : vs.length = K.length := by simpa using h1.1
  refine ⟨h.be.grown hg h.be.size (fun j hj => (h1.lt j hj).1), row_grown h.wn hg (ne_types h.wn h1 (Ne.symm ht)), h.wb, ⟨vs ++ [v], by rw [List.length_append]; exact ho vs h1, fun i hi => ?_⟩, fun i hi => ?_⟩
  · by_cases e : i < K.length
    · rw [getD_l _ _ _ e, getD_l _ _ _ (by omega)]; exact h2 i e
    · have : i = K.length := by simp at hi; omega
      subst this
      rw [getD_last, ← hvl, getD_last]
      exact hv
  · by_cases e : i < K.length
    · rw [getD_l _ _ _ e]; exact h.ne i e
    · have : i = K.length := by simp at hi; omega
      subst this
      rw [getD_last]
      exact hx
theorem Ot.own (h : Ot w4 wr tw n Wb f kv K) : ∃ vs, wr.ownsRow w4.heap.size 31 1 kv K.length vs := h.kp.imp fun _ h => h.1
end
theorem info31' : (Try.prog.info? 31).map (fun i => (i.zero, i.size, i.bytes)) = some (some (.slice none 0 0), 1, 24) := by kernel_rfl
theorem wpList_build39 {ops : Array Oper} {rest : List Oper} {op : Oper} {a : Act} {w : World} {Q : Exit → Act → World → Prop} (hgd : op.guard = none) (ho : op.op = .build 39 #[])
    (h : wpList Try.prog ops Q rest (a.put op.dst (.agg (lcs fun _ => 0).toArray)) w) : wpList Try.prog ops Q (op :: rest) a w := by
  refine wpList_plain hgd fun K hK => ?_
  have hb : (Instr.build 39 #[]).run Try.prog w = .ok (.agg (lcs fun _ => 0).toArray) w := run_build w 39 _ _ (by kernel_rfl)
  unfold Oper.wp execOp
  simp only [ho, List.map_toArray, List.map_nil, hb, Result.andThen_ok, Sem.run_bind, Sem.run_pure]
  exact hK _ _ h

end Go.Proofs.Qxb6612898a.EW
