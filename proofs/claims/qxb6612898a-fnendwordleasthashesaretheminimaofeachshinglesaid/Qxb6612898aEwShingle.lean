import Derived.Test.Qxb6612898aEwFeat
namespace Go.Proofs.Qxb6612898a.EW
open Go.RowKit
def u8s (l : List Int) : List Value := l.map fun x => .int .u8 x
def i64s (l : List Int) : List Value := l.map fun x => .int .i64 x
/-- v is the call's own slice of these bytes. -/
def Ow (w : World) (B : Nat) (v : Value) (l : List Int) : Prop := w.ownsRow B 5 1 v l.length (u8s l)
/-- v is the call's own slice of these numbers. -/
def Oi (w : World) (B : Nat) (v : Value) (l : List Int) : Prop := w.ownsRow B 3 1 v l.length (i64s l)
theorem Ow.below {w w1 : World} {B : Nat} {v : Value} {l : List Int} (h : Ow w B v l) (hb : Below w.heap.size w w1) : Ow w1 B v l := owns_below hb h
theorem Oi.below {w w1 : World} {B : Nat} {v : Value} {l : List Int} (h : Oi w B v l) (hb : Below w.heap.size w w1) : Oi w1 B v l := owns_below hb h
/-- As a slice that reads. -/
theorem Ow.bs {w : World} {B : Nat} {v : Value} {l : List Int} (h : Ow w B v l) : ∃ a c, v = .slice a l.length c ∧ l.length ≤ c ∧ (a = none → l = []) ∧ (∀ x, a = some x → ∃ g, x = ⟨g, 0, none⟩ ∧ B ≤ g) ∧ Bs w a l := by
  obtain ⟨hl, hv⟩ := h
  rcases hv with ⟨rfl, h0⟩ | ⟨g, cap, cur, rfl, hbase, hh, hn, _, hsz, htake⟩
  · have : l = [] := List.eq_nil_of_length_eq_zero h0
    subst this
    exact ⟨none, 0, rfl, Nat.le_refl _, fun _ => rfl, fun x h => (by cases h), .inl rfl⟩
  · refine ⟨_, _, rfl, hn, fun h => (by cases h), fun x h => ⟨g, (Option.some.inj h).symm, hbase⟩, .inr ⟨g, 0, rfl, (Array.getElem?_eq_some_iff.1 hh).1, fun i hi => ?_⟩⟩
    have h1 : (u8s l)[i]? = some (.int .u8 (l.getD i 0)) := by
      simp [u8s, List.getElem?_eq_getElem hi, List.getD_eq_getElem?_getD]
    rw [← htake, List.getElem?_take, if_pos (by omega)] at h1
    rw [Nat.zero_add]
    simp only [World.cell?, hh]
    simpa using h1
theorem Bs.front {w : World} {a : Option Addr} {l m : List Int} (h : Bs w a (l ++ m)) : Bs w a l := by
  rcases h with h | ⟨b, off, ha, hlt, hc⟩
  · left; simp at h; exact h.1
  · refine .inr ⟨b, off, ha, hlt, fun i hi => ?_⟩
    rw [hc i (by simp; omega)]
    simp [List.getD_eq_getElem?_getD, List.getElem?_append_left hi]
theorem c69 {w : World} {B T : Nat} {M : Option Nat} {V : Nat → Nat} {L : Nat → Int} {sz : Int} {wd rn : Value} {sp : Int} {sh ln : Value} (h : St w B T M V L sz wd rn sp sh ln) : w.cell? ⟨T, 69, none⟩ = some sh := by
  rw [World.rowIs.cell h.row (by omega)]; simp [tw, vf]
theorem c70 {w : World} {B T : Nat} {M : Option Nat} {V : Nat → Nat} {L : Nat → Int} {sz : Int} {wd rn : Value} {sp : Int} {sh ln : Value} (h : St w B T M V L sz wd rn sp sh ln) : w.cell? ⟨T, 70, none⟩ = some ln := by
  rw [World.rowIs.cell h.row (by omega)]; simp [tw, vf]
theorem c65 {w : World} {B T : Nat} {M : Option Nat} {V : Nat → Nat} {L : Nat → Int} {sz : Int} {wd rn : Value} {sp : Int} {sh ln : Value} (h : St w B T M V L sz wd rn sp sh ln) : w.cell? ⟨T, 65, none⟩ = some (.int .i64 sz) := by
  rw [World.rowIs.cell h.row (by omega)]; simp [tw, vf]
theorem c66 {w : World} {B T : Nat} {M : Option Nat} {V : Nat → Nat} {L : Nat → Int} {sz : Int} {wd rn : Value} {sp : Int} {sh ln : Value} (h : St w B T M V L sz wd rn sp sh ln) : w.cell? ⟨T, 66, none⟩ = some wd := by
  rw [World.rowIs.cell h.row (by omega)]; simp [tw, vf]

set_option maxHeartbeats 1600000 in
set_option maxRecDepth 100000 in
theorem shingle39 (B T : Nat) (M : Option Nat) (V : Nat → Nat) (L : Nat → Int) (sz : Int) (wd rn : Value) (sp : Int) (sh ln : Value) (l : List Int) (w : World)
    (hst : St w B T M V L sz wd rn sp sh ln) (ho : Ow w B sh (l ++ [32])) (hn : l.length ≤ 1000000) :
    Calls Try.prog 39 #[.pointer (some ⟨T, 0, none⟩)] w fun e w' => e = .returned (.tuple #[]) ∧ ∃ V' L', St w' B T M V' L' sz wd rn sp sh ln ∧ Feat M (xx l) V L V' L' ∧ Frm [58, 59] B w w' := by
  have HS := hide hst
  obtain ⟨a, c, rfl, hlc, hnone, ha, hbs⟩ := ho.bs
  have HB := hide hbs.front
  clear hbs hst ho
  obtain ⟨n, hn2⟩ : ∃ n, n = l.length := ⟨_, rfl⟩
  have hlen : (l ++ [32]).length = n + 1 := by simp [hn2]
  rw [hlen] at hlc HS ⊢
  have HN := hide hn2
  rw [← hn2] at hn
  clear hn2 hlen
  cases a with
  | none => simp at hnone
  | some x =>
    obtain ⟨g, rfl, hg⟩ := ha x rfl
    clear ha hnone
    have hI : (n : Int) ≤ c := by omega
    have f0 : (c = 0) = False := by simp; omega
    have w1 : IntKind.i64.wrap (n : Int) = n := by rw [IntKind.wrap_i64]; omega
    have cc := c69 HS.out
    go_enter Try.func39, Try.ntmps39
    go_upto_region 0 with fail
    go_region_held3 (fun w' => w'.cell? ⟨T, 69, none⟩ = some (.slice (some ⟨g, 0, none⟩) (n + 1) c)) (first | exact c69 HS2.out | exact cc)
      (first | (go_at_call 38; refine (feat38 B T M V L sz wd rn sp _ ln (some ⟨g, 0, none⟩) l n c _ (by exact HS.out.below (by repeat (first | exact Below.refl _ _ | apply Below.drew))) HN.out (by exact HB.out.below (by repeat (first | exact Below.refl _ _ | apply Below.drew))) hn (by omega)).mono ?_; rintro e w2 ⟨rfl, V', L', hs, hf, hfr⟩; have HS2 := hide hs; have HF := hide hf; have HFR := hide hfr; clear hs hf hfr))
    all_goals
      go_wp2_with fail
      go_end0
      exact ⟨rfl, V', L', HS2.out, HF.out, (Frm.of_below (by repeat (first | exact Below.refl _ _ | apply Below.drew)) (by have := HS.out.tb; have := HS.out.row.lt; omega)).trans HFR.out⟩
end Go.Proofs.Qxb6612898a.EW
