import Derived.Test.Qxb6612898aEwShingle
import Derived.Laws.CopyOwn
import Derived.Deep.RegionLaw
namespace Go.Proofs.Qxb6612898a.EW
open Go.RowKit
/-- copy(xs, xs[k:]) in a row of the call's own, as one step of a region. -/
theorem step_copy_drop {ops : Array Oper} {o : Oper} {a : Act} {w : World} {K : Act → World → Prop} {Q : Exit → Act → World → Prop} {E : Prop} (hgd : o.guard = none) (d s : Operand) (dT : TypeId)
    (ho : o.op = .call { callee := .builtin .copy, args := #[d, s], argTypes := #[dT, dT] }) (elem : TypeId) (hu : Try.prog.underlying dT = some (.slice elem)) (hsz : (Try.prog.info? elem).map (·.size) = some 1)
    (B g n cap k m sCap : Nat) (xs : List Value) (hown : w.ownsRow B elem 1 (.slice (some ⟨g, 0, none⟩) n cap) n xs) (hk : k < n) (hm : m = n - k)
    (hd : a.eval d = .slice (some ⟨g, 0, none⟩) n cap) (hs : a.eval s = .slice (some ⟨g, k, none⟩) m sCap) (h1 : ∀ v ∈ xs, v.oneCell' = true)
    (T : Nat) (v : Value) (f : Nat) (hT : w.cell? ⟨T, f, none⟩ = some v) (hF : w.frozen? ⟨T, f, none⟩ = false) (hne : T ≠ g)
    (h : ∀ w', Hid (w'.ownsRow B elem 1 (.slice (some ⟨g, 0, none⟩) m cap) m (xs.drop k)) → Hid (w.grownBy w' (some g)) → w'.cell? ⟨T, f, none⟩ = some v → w'.frozen? ⟨T, f, none⟩ = false → K (a.put o.dst (.int .i64 m)) w') :
    if Region.wanted o (yielded ops a.tmps) = true then Oper.wp Try.prog o a w K Q else E := by
  have hw : Region.wanted o (yielded ops a.tmps) = true := by simp [Region.wanted, hgd]
  rw [if_pos hw]
  rcases hown.2 with ⟨hv, _⟩ | ⟨g', cap', cur, hv, hbg, hg, hnc, hcm, hcs, htake⟩
  · simp at hv
  simp only [Value.slice.injEq, Option.some.injEq, Addr.mk.injEq, and_true, true_and] at hv
  obtain ⟨rfl, rfl⟩ := hv
  have hxl : xs.length = n := by simpa using hown.1
  have hdl : (xs.drop k).length = m := by rw [List.length_drop, hxl, hm]
  have hsrc : ∀ j u, (xs.drop k)[j]? = some u → w.cell? ((⟨g, k, none⟩ : Addr).add j) = some u := by
    intro j u hu
    rw [List.getElem?_drop] at hu
    have := hown.cells (g := g) rfl (k + j) u hu
    rw [Addr.add_lit] at this ⊢
    simpa using this
  have hrun := run_copy_row (P := Try.prog) w dT dT o.type elem g 0 n cap ⟨g, k, none⟩ m sCap cur elem (xs.drop k) hu hsz hg (by rw [hdl, hm]; simp) hsrc (by rw [hdl, hcs]; omega) (fun u hu => h1 u (List.mem_of_mem_drop hu))
  unfold Oper.wp
  simp [execOp, ho, resolve, invoke, builtin, hd, hs, hrun, Result.andThen]
  have hG : w.grownBy (w.setRow g (xs.drop k ++ cur.toList.drop m).toArray) (some g) := ⟨rfl, rfl, rfl, by simp, fun i _ hi => setRow_other w g i _ (fun e => hi (by rw [e]))⟩
  have hb : (w.setRow g (xs.drop k ++ cur.toList.drop m).toArray).heap[T]? = w.heap[T]? := setRow_other w g T _ hne
  have := h (w.setRow g (xs.drop k ++ cur.toList.drop m).toArray) ?_ hG ((World.cell?_of_block (a := ⟨T, f, none⟩) hb).trans hT) ((World.frozen?_of_block (a := ⟨T, f, none⟩) hb).trans hF)
  · rw [show xs.length - k = m by omega]
    exact this
  · refine ⟨by rw [hdl]; omega, .inr ⟨g, cap, _, rfl, hbg, setRow_heap w g cur _ elem _ hg, by omega, hcm, ?_, ?_⟩⟩
    · simp [hdl, hcs]; omega
    · simp [hdl]
end Go.Proofs.Qxb6612898a.EW
namespace Go.Proofs.Qxb6612898a.EW
open Go.RowKit
theorem ne_types {w : World} {T t n m B e s : Nat} {f : Nat → Value} {v : Value} {xs : List Value} (h : w.rowIs T t n f) (ho : w.ownsRow B e s v m xs) (he : e ≠ t) : v.ownBlock ≠ some T := by
  obtain ⟨c, hh, _⟩ := h
  rcases ho.2 with ⟨rfl, _⟩ | ⟨g, cap, cur, rfl, hb, hg, _⟩
  · simp [Value.ownBlock]
  · simp only [Value.ownBlock, ne_eq, Option.some.injEq]
    rintro rfl
    rw [hh] at hg
    simp at hg
    exact he hg.2.symm
theorem ne_types2 {w : World} {n m B e e' s s' : Nat} {v v' : Value} {xs xs' : List Value} (h : w.ownsRow B e' s' v' n xs') (ho : w.ownsRow B e s v m xs) (he : e ≠ e') : v.ownBlock = none ∨ v.ownBlock ≠ v'.ownBlock := by
  rcases ho.2 with ⟨rfl, _⟩ | ⟨g, cap, cur, rfl, hb, hg, _⟩
  · exact .inl rfl
  · right
    rcases h.2 with ⟨rfl, _⟩ | ⟨g', cap', cur', rfl, hb', hg', _⟩
    · simp [Value.ownBlock]
    · simp only [Value.ownBlock, ne_eq, Option.some.injEq]
      rintro rfl
      rw [hg] at hg'
      simp at hg'
      exact he hg'.2
theorem row_grown {w w1 : World} {T t n : Nat} {f : Nat → Value} {r : Option Nat} (h : w.rowIs T t n f) (hg : w.grownBy w1 r) (hr : r ≠ some T) : w1.rowIs T t n f :=
  h.of_block (hg.block T h.lt (fun e => hr e.symm))
theorem owns_ge {w : World} {B e s m : Nat} {v : Value} {xs : List Value} (h : w.ownsRow B e s v m xs) {k : Nat} (hk : v.ownBlock = some k) : B ≤ k ∧ k < w.heap.size := h.lt k hk
theorem Frm.of_own {E : List TypeId} {B e s m : Nat} {v : Value} {xs : List Value} {w w1 : World} (h : w.grownBy w1 v.ownBlock) (ho : w.ownsRow B e s v m xs) (ht : e ∈ E) (hB : B ≤ w.heap.size) : Frm E B w w1 :=
  ⟨h.os, h.tape, h.output, h.size, fun k hk => h.block k (by omega) (fun e => by have := (ho.lt k e.symm).1; omega), fun k cur e' fr hc he => by
    refine h.block k (Array.getElem?_eq_some_iff.1 hc).1 (fun hk => ?_)
    rcases ho.2 with ⟨rfl, _⟩ | ⟨g, cap, cur', rfl, hb, hg, _⟩
    · cases hk
    · obtain rfl : k = g := by simpa [Value.ownBlock] using hk
      rw [hg] at hc
      simp at hc
      exact he (hc.2.1 ▸ ht)⟩

/-- All that a textWalk holds: the row's own cells, and what the call owns. -/
structure Al (w0 w : World) (B T : Nat) (M : Option Nat) (V : Nat → Nat) (L : Nat → Int) (sz : Int) (wr rn : Value) (sp : Int) (sr lr wv sv lv : Value) (wl sl ll : List Int) : Prop where
  st : St w B T M V L sz wr rn sp sr lr
  ow : Ow w B wv wl
  os : Ow w B sv sl
  ol : Oi w B lv ll
  ap : wv.ownBlock = none ∨ wv.ownBlock ≠ sv.ownBlock
  fr : Frm [58, 59, 5, 3] B w0 w

section
variable {w0 w w1 : World} {B T : Nat} {M : Option Nat} {V : Nat → Nat} {L : Nat → Int} {sz : Int} {wr rn : Value} {sp : Int} {sr lr wv sv lv : Value} {wl sl ll : List Int}

theorem Al.hB (h : Al w0 w B T M V L sz wr rn sp sr lr wv sv lv wl sl ll) : B ≤ w.heap.size := by have := h.st.tb; have := h.st.row.lt; omega
theorem Al.below (h : Al w0 w B T M V L sz wr rn sp sr lr wv sv lv wl sl ll) (hb : Below w.heap.size w w1) : Al w0 w1 B T M V L sz wr rn sp sr lr wv sv lv wl sl ll :=
  ⟨h.st.below hb, h.ow.below hb, h.os.below hb, h.ol.below hb, h.ap, h.fr.trans (Frm.of_below hb h.hB)⟩
theorem Al.feat (h : Al w0 w B T M V L sz wr rn sp sr lr wv sv lv wl sl ll) {V' : Nat → Nat} {L' : Nat → Int} (hs : St w1 B T M V' L' sz wr rn sp sr lr) (hf : Frm [58, 59] B w w1) : Al w0 w1 B T M V' L' sz wr rn sp sr lr wv sv lv wl sl ll :=
  ⟨hs, hf.owns h.ow (by simp), hf.owns h.os (by simp), hf.owns h.ol (by simp), h.ap, h.fr.trans (hf.mono (by simp))⟩
theorem St.grown (h : St w B T M V L sz wr rn sp sr lr) {r : Option Nat} (hg : w.grownBy w1 r) (h1 : r ≠ some T) (h2 : ∀ b, M = some b → r ≠ some b) : St w1 B T M V L sz wr rn sp sr lr :=
  ⟨row_grown h.row hg h1, h.tb, fun b e => ⟨(h.ls b e).1, row_grown (h.ls b e).2 hg (h2 b e)⟩⟩
/-- An append (or copy) onto the shingle. -/
theorem Al.app (h : Al w0 w B T M V L sz wr rn sp sr lr wv sv lv wl sl ll) {v' : Value} {sl' : List Int} (hg : w.grownBy w1 sv.ownBlock) (ho : Ow w1 B v' sl') (hat : v'.ownBlock = sv.ownBlock ∨ v'.ownBlock = some w.heap.size) :
    Al w0 w1 B T M V L sz wr rn sp sr lr wv v' lv wl sl' ll := by
  refine ⟨h.st.grown hg (ne_types h.st.row h.os (by decide)) (fun b e => ne_types (h.st.ls b e).2 h.os (by decide)), World.ownsRow.kept h.ow hg h.ap, ho, World.ownsRow.kept h.ol hg (ne_types2 h.os h.ol (by decide)), ?_, h.fr.trans (Frm.of_own hg h.os (by simp) h.hB)⟩
  rcases hat with e | e
  · rw [e]; exact h.ap
  · rw [e]
    cases hw : wv.ownBlock with
    | none => exact .inl rfl
    | some k =>
      right
      have := (h.ow.lt k hw).2
      simp; omega
/-- An append (or copy) onto the lengths. -/
theorem Al.appl (h : Al w0 w B T M V L sz wr rn sp sr lr wv sv lv wl sl ll) {v' : Value} {ll' : List Int} (hg : w.grownBy w1 lv.ownBlock) (ho : Oi w1 B v' ll') :
    Al w0 w1 B T M V L sz wr rn sp sr lr wv sv v' wl sl ll' :=
  ⟨h.st.grown hg (ne_types h.st.row h.ol (by decide)) (fun b e => ne_types (h.st.ls b e).2 h.ol (by decide)), World.ownsRow.kept h.ow hg (ne_types2 h.ol h.ow (by decide)), World.ownsRow.kept h.os hg (ne_types2 h.ol h.os (by decide)), ho, h.ap, h.fr.trans (Frm.of_own hg h.ol (by simp) h.hB)⟩
/-- An append onto the word. -/
theorem Al.appw (h : Al w0 w B T M V L sz wr rn sp sr lr wv sv lv wl sl ll) {v' : Value} {wl' : List Int} (hg : w.grownBy w1 wv.ownBlock) (ho : Ow w1 B v' wl') (hat : v'.ownBlock = wv.ownBlock ∨ v'.ownBlock = some w.heap.size) :
    Al w0 w1 B T M V L sz wr rn sp sr lr v' sv lv wl' sl ll := by
  have ap' : sv.ownBlock = none ∨ sv.ownBlock ≠ wv.ownBlock := by
    rcases h.ap with e | e
    · rw [e]
      cases hs : sv.ownBlock with
      | none => exact .inl rfl
      | some k => right; simp
    · exact .inr (Ne.symm e)
  refine ⟨h.st.grown hg (ne_types h.st.row h.ow (by decide)) (fun b e => ne_types (h.st.ls b e).2 h.ow (by decide)), ho, World.ownsRow.kept h.os hg ap', World.ownsRow.kept h.ol hg (ne_types2 h.ow h.ol (by decide)), ?_, h.fr.trans (Frm.of_own hg h.ow (by simp) h.hB)⟩
  rcases hat with e | e
  · rw [e]; exact h.ap
  · rw [e]
    right
    intro e2
    have := (h.os.lt _ e2.symm).2
    omega
theorem grown_setT (w : World) (T k : Nat) (v : Value) : w.grownBy (w.setCell ⟨T, k, none⟩ v) (some T) := grown_set (World.grownBy.refl _ _) k v
/-- A store into the row. -/
theorem Al.set (h : Al w0 w B T M V L sz wr rn sp sr lr wv sv lv wl sl ll) {k : Nat} {v : Value} {wr' sr' lr' : Value} (he : ∀ i, i < 71 → (if i = k then v else tw V (lptr M) sz wr rn sp sr lr i) = tw V (lptr M) sz wr' rn sp sr' lr' i) :
    Al w0 (w.setCell ⟨T, k, none⟩ v) B T M V L sz wr' rn sp sr' lr' wv sv lv wl sl ll := by
  have hg := grown_setT w T k v
  have hr := h.st.row
  refine ⟨⟨World.rowIs.congr (World.rowIs.set hr k v) he, h.st.tb, fun b e => ⟨(h.st.ls b e).1, row_grown (h.st.ls b e).2 hg ?_⟩⟩, World.ownsRow.kept h.ow hg (.inr (ne_types hr h.ow (by decide))), World.ownsRow.kept h.os hg (.inr (ne_types hr h.os (by decide))), World.ownsRow.kept h.ol hg (.inr (ne_types hr h.ol (by decide))), h.ap, h.fr.trans (Frm.of_grown hg hr (by simp) h.st.tb)⟩
  intro e2
  obtain rfl := Option.some.inj e2
  obtain ⟨c, hc, _⟩ := hr
  obtain ⟨c', hc', _⟩ := (h.st.ls _ e).2
  rw [hc] at hc'
  simp at hc'
theorem Al.set69 (h : Al w0 w B T M V L sz wr rn sp sr lr wv sv lv wl sl ll) : Al w0 (w.setCell ⟨T, 69, none⟩ sv) B T M V L sz wr rn sp sv lr wv sv lv wl sl ll := by
  refine h.set fun i hi => ?_
  unfold tw vf
  by_cases e : i = 69
  · subst e; simp
  · simp only [e, if_false]
theorem Al.set70 (h : Al w0 w B T M V L sz wr rn sp sr lr wv sv lv wl sl ll) : Al w0 (w.setCell ⟨T, 70, none⟩ lv) B T M V L sz wr rn sp sr lv wv sv lv wl sl ll := by
  refine h.set fun i hi => ?_
  unfold tw vf
  by_cases e : i = 70
  · subst e; simp
  · simp only [e, if_false]
    by_cases h1 : i < 64
    · simp [h1]
    · have : i = 64 ∨ i = 65 ∨ i = 66 ∨ i = 67 ∨ i = 68 ∨ i = 69 := by omega
      rcases this with rfl | rfl | rfl | rfl | rfl | rfl <;> simp
theorem Al.set66 (h : Al w0 w B T M V L sz wr rn sp sr lr wv sv lv wl sl ll) (v : Value) : Al w0 (w.setCell ⟨T, 66, none⟩ v) B T M V L sz v rn sp sr lr wv sv lv wl sl ll := by
  refine h.set fun i hi => ?_
  unfold tw vf
  by_cases e : i = 66
  · subst e; simp
  · simp only [e, if_false]
theorem Al.frz (h : Al w0 w B T M V L sz wr rn sp sr lr wv sv lv wl sl ll) (k : Nat) : w.frozen? ⟨T, k, none⟩ = false := World.rowIs.frozen h.st.row k
end

/-- Words, each with a space behind it. -/
def jn : List (List Int) → List Int
  | [] => []
  | x :: r => x ++ [32] ++ jn r
/-- Their lengths. -/
def lens (J : List (List Int)) : List Int := J.map fun x => (x.length : Int)
theorem jn_append (J : List (List Int)) (x : List Int) : jn (J ++ [x]) = jn J ++ x ++ [32] := by
  induction J with
  | nil => simp [jn]
  | cons y r ih => simp [jn, ih]
theorem lens_append (J : List (List Int)) (x : List Int) : lens (J ++ [x]) = lens J ++ [(x.length : Int)] := by simp [lens]
theorem jn_drop (x : List Int) (r : List (List Int)) : (jn (x :: r)).drop (x.length + 1) = jn r := by
  show (x ++ [32] ++ jn r).drop (x.length + 1) = jn r
  rw [show x.length + 1 = (x ++ [32]).length by simp, List.drop_left]
end Go.Proofs.Qxb6612898a.EW
