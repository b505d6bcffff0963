import Derived.Test.Qxb6612898aEwCalls
namespace Go.Proofs.Qxb6612898a.EW
open Go.RowKit
theorem w5 : (Try.prog.info? 5).map (fun i => (i.zero, i.size, i.bytes)) = some (some (.int .u8 0), 1, 1) := by kernel_rfl
theorem info31 : (Try.prog.info? 31).map (fun i => (i.zero, i.size, i.bytes)) = some (some (.slice none 0 0), 1, 24) := by kernel_rfl

/-- As Cl, the block at or above B. -/
def Cf (w : World) (B : Nat) (v : Value) (l : List Int) : Prop := (v = .slice none 0 0 ∧ l = []) ∨ ∃ x c, v = .slice (some x) l.length c ∧ l.length ≤ c ∧ B ≤ x.block ∧ Bs w (some x) l
theorem Cf.cl {w : World} {B : Nat} {v : Value} {l : List Int} (h : Cf w B v l) : Cl w v l := by
  rcases h with h | ⟨x, c, h, hc, _, hs⟩
  · exact .inl h
  · exact .inr ⟨x, c, h, hc, hs⟩
theorem Cf.mono {w : World} {B B' : Nat} {v : Value} {l : List Int} (h : Cf w B v l) (hB : B' ≤ B) : Cf w B' v l := by
  rcases h with h | ⟨x, c, h, hc, hg, hs⟩
  · exact .inl h
  · exact .inr ⟨x, c, h, hc, by omega, hs⟩
theorem Cf.below {w w1 : World} {B : Nat} {v : Value} {l : List Int} (h : Cf w B v l) (hb : Below w.heap.size w w1) : Cf w1 B v l := by
  rcases h with h | ⟨x, c, h, hc, hg, hs⟩
  · exact .inl h
  · exact .inr ⟨x, c, h, hc, hg, hs.below hb⟩
theorem Cf.set {w : World} {B R k : Nat} {v u : Value} {l : List Int} (h : Cf w B v l) (hR : R < B) : Cf (w.setCell ⟨R, k, none⟩ u) B v l := by
  rcases h with h | ⟨x, c, h, hc, hg, hs⟩
  · exact .inl h
  · refine .inr ⟨x, c, h, hc, hg, ?_⟩
    rcases hs with hs | ⟨b, o, e, hlt, hcs⟩
    · exact .inl hs
    · have e2 : b = x.block := by obtain rfl := Option.some.inj e; rfl
      refine .inr ⟨b, o, e, by simpa [World.setCell] using hlt, fun i hi => ?_⟩
      rw [← hcs i hi]
      exact World.cell?_of_block (Below.heap_setCell _ _ _ _ (by show b ≠ R; omega))
/-- A slice of slices of bytes. -/
def Ws (w : World) (a : Option Addr) (K : List (List Int)) : Prop :=
  K = [] ∨ ∃ b off, a = some ⟨b, off, none⟩ ∧ b < w.heap.size ∧ ∀ i, i < K.length → ∃ v, w.cell? ⟨b, off + i, none⟩ = some v ∧ Cl w v (K.getD i [])
theorem Ws.below {w w1 : World} {a : Option Addr} {K : List (List Int)} (h : Ws w a K) (hb : Below w.heap.size w w1) : Ws w1 a K := by
  rcases h with h | ⟨b, off, ha, hlt, hc⟩
  · exact .inl h
  · refine .inr ⟨b, off, ha, Nat.lt_of_lt_of_le hlt hb.size, fun i hi => ?_⟩
    obtain ⟨v, h1, h2⟩ := hc i hi
    exact ⟨v, (hb.cell (p := ⟨b, off + i, none⟩) hlt).trans h1, h2.below hb⟩

set_option maxHeartbeats 800000 in
set_option maxRecDepth 100000 in
theorem clone10 (v : Value) (l : List Int) (w : World) (h : Cl w v l) (hn : l.length ≤ 1000000) :
    Calls Try.prog 10 #[v] w fun e w' => (∃ v', e = .returned v' ∧ Cf w' w.heap.size v' l) ∧ Below w.heap.size w w' := by
  have hnil := fun (w : World) (a : Option Addr) (n c n' c' : Nat) => Lib.run_eql_slice_nil (P := Try.prog) w 31 5 a n c n' c' Try.underlying31
  have hmk := run_make_row' (P := Try.prog) 31 5 (.int .u8 0) 1 Try.underlying31 info5 rfl .i64 .i64 l.length (by omega) (by omega)
  rcases h with ⟨rfl, rfl⟩ | ⟨x, c, rfl, hc, hs⟩
  · clear hmk
    go_enter Try.func10, Try.ntmps10
    go_wp2
    go_ret
    exact ⟨⟨_, rfl, .inl ⟨rfl, rfl⟩⟩, Below.refl _ _⟩
  · have hb0 : Below w.heap.size w (w.alloc (.cells (madeCells #[.int .u8 0] l.length) 5)) := (Below.refl _ _).alloc (Nat.le_refl _) _
    have hcp := run_copy_row (P := Try.prog) (w.alloc (.cells (madeCells #[.int .u8 0] l.length) 5)) 31 31 3 5 w.heap.size 0 l.length l.length x l.length c (madeCells #[.int .u8 0] l.length) 5 (u8s l) Try.underlying31 size5 (heap_alloc_new w _) (by simp [u8s]) (hs.below hb0).cells (by
      obtain ⟨cc, h1, h2, _⟩ := World.rowIs_made w (.int .u8 0) l.length 5
      rw [heap_alloc_new] at h1
      have h3 : madeCells #[Value.int .u8 0] l.length = cc := by simpa using h1
      rw [h3]
      simp [u8s, h2]) (u8_one _)
    rw [show (madeCells #[Value.int .u8 0] l.length).toList.take 0 ++ u8s l ++ (madeCells #[Value.int .u8 0] l.length).toList.drop (0 + (u8s l).length) = u8s l ++ (madeCells #[Value.int .u8 0] l.length).toList.drop (u8s l).length by simp] at hcp
    generalize hR : (u8s l ++ (madeCells #[Value.int .u8 0] l.length).toList.drop (u8s l).length) = R at hcp
    have HR := hide hR
    have HB := hide hb0
    clear hs hb0 hR
    go_enter Try.func10, Try.ntmps10
    go_wp2_with fail
    go_ret
    have HG2 := setRow_heap (w.alloc (.cells (madeCells #[.int .u8 0] l.length) 5)) w.heap.size _ R.toArray 5 _ (heap_alloc_new w _)
    refine ⟨⟨_, rfl, .inr ⟨⟨w.heap.size, 0, none⟩, l.length, rfl, Nat.le_refl _, Nat.le_refl _, .inr ⟨_, _, rfl, (Array.getElem?_eq_some_iff.1 HG2).1, fun i hi => ?_⟩⟩⟩, below_setRow HB.out (Nat.le_refl _) _⟩
    rw [Nat.zero_add]
    have hu : i < (u8s l).length := by simpa [u8s] using hi
    simp only [World.cell?, HG2]
    rw [← HR.out, List.getElem?_toArray, List.getElem?_append_left hu]
    simp [u8s, List.getElem?_eq_getElem hi, List.getD_eq_getElem?_getD]

set_option maxHeartbeats 800000 in
set_option maxRecDepth 100000 in
theorem same21 (a b : Option Addr) (l : List Int) (c d : Nat) (w : World) (ha : Bs w a l) (hb : Bs w b l) (hn : l.length ≤ 1000000) :
    Calls Try.prog 21 #[.slice a l.length c, .slice b l.length d] w fun e w' => e = .returned (.bool true) ∧ Below w.heap.size w w' := by
  obtain ⟨n, hl⟩ : ∃ n, n = l.length := ⟨_, rfl⟩
  rw [← hl] at hn ⊢
  have HA := hide ha
  have HB := hide hb
  have HL := hide hl
  clear ha hb hl
  go_enter Try.func21, Try.ntmps21
  go_wp2_with fail
  go_loopw [5] (fun iv wr => ∃ (k : Nat), k ≤ n ∧ iv = .int .i64 k ∧ Hid (Below w.heap.size w wr)) (fun iv _ => n - natOf iv)
  case atStart => exact ⟨0, Nat.zero_le _, rfl, Below.refl _ _⟩
  case round =>
    obtain ⟨k, hk, rfl, H⟩ := hrel
    by_cases hlt : k < n
    · obtain hx | ⟨b1, o1, rfl, hb1, hc1⟩ := HA.out
      · have := HL.out; rw [hx] at this; simp at this; omega
      obtain hx | ⟨b2, o2, rfl, hb2, hc2⟩ := HB.out
      · have := HL.out; rw [hx] at this; simp at this; omega
      have q1 := (H.out.cell (p := ⟨b1, o1 + k, none⟩) hb1).trans (hc1 k (by rw [← HL.out]; exact hlt))
      have q2 := (H.out.cell (p := ⟨b2, o2 + k, none⟩) hb2).trans (hc2 k (by rw [← HL.out]; exact hlt))
      clear hc1 hc2 hb1 hb2
      generalize l.getD k 0 = y at q1 q2
      have hi : (k : Int) < n := by omega
      have hi0 : (0 : Int) ≤ k := by omega
      go_upto_region 6 with fail
      go_region
      go_wp2_with fail
      go_roundw
      case rel => exact ⟨k + 1, by omega, by simp, Below.drew H.out⟩
      case measure => simp [natOf]; omega
    · have hi : (n : Int) ≤ k := by omega
      go_wp2_with fail
      go_ret
      exact ⟨rfl, H.out⟩

/-- A slice of numbers reads as the list l. -/
def Is (w : World) (a : Option Addr) (l : List Int) : Prop :=
  l = [] ∨ ∃ b off, a = some ⟨b, off, none⟩ ∧ b < w.heap.size ∧ ∀ i, i < l.length → w.cell? ⟨b, off + i, none⟩ = some (.int .i64 (l.getD i 0))
theorem Is.below {w w1 : World} {a : Option Addr} {l : List Int} (h : Is w a l) (hb : Below w.heap.size w w1) : Is w1 a l := by
  rcases h with h | ⟨b, off, ha, hlt, hc⟩
  · exact .inl h
  · exact .inr ⟨b, off, ha, Nat.lt_of_lt_of_le hlt hb.size, fun i hi => (hb.cell (p := ⟨b, off + i, none⟩) hlt).trans (hc i hi)⟩
theorem Oi.is {w : World} {B : Nat} {v : Value} {l : List Int} (h : Oi w B v l) : ∃ a c, v = .slice a l.length c ∧ Is w a l := by
  by_cases h0 : 0 < l.length
  · obtain ⟨g, c, rfl, hc, _⟩ := h.addr h0
    have hg : g < w.heap.size := (h.lt g rfl).2
    exact ⟨_, c, rfl, .inr ⟨g, 0, rfl, hg, fun i hi => by rw [Nat.zero_add]; exact Oi.cell h hi⟩⟩
  · obtain ⟨a, c, rfl⟩ := h.shp
    exact ⟨a, c, rfl, .inl (List.eq_nil_of_length_eq_zero (by omega))⟩

set_option maxHeartbeats 800000 in
set_option maxRecDepth 100000 in
theorem same29 (a b : Option Addr) (l : List Int) (c d : Nat) (w : World) (ha : Is w a l) (hb : Is w b l) (hn : l.length ≤ 1000000) :
    Calls Try.prog 29 #[.slice a l.length c, .slice b l.length d] w fun e w' => e = .returned (.bool true) ∧ Below w.heap.size w w' := by
  obtain ⟨n, hl⟩ : ∃ n, n = l.length := ⟨_, rfl⟩
  rw [← hl] at hn ⊢
  have HA := hide ha
  have HB := hide hb
  have HL := hide hl
  clear ha hb hl
  go_enter Try.func29, Try.ntmps29
  go_wp2_with fail
  go_loopw [5] (fun iv wr => ∃ (k : Nat), k ≤ n ∧ iv = .int .i64 k ∧ Hid (Below w.heap.size w wr)) (fun iv _ => n - natOf iv)
  case atStart => exact ⟨0, Nat.zero_le _, rfl, Below.refl _ _⟩
  case round =>
    obtain ⟨k, hk, rfl, H⟩ := hrel
    by_cases hlt : k < n
    · obtain hx | ⟨b1, o1, rfl, hb1, hc1⟩ := HA.out
      · have := HL.out; rw [hx] at this; simp at this; omega
      obtain hx | ⟨b2, o2, rfl, hb2, hc2⟩ := HB.out
      · have := HL.out; rw [hx] at this; simp at this; omega
      have q1 := (H.out.cell (p := ⟨b1, o1 + k, none⟩) hb1).trans (hc1 k (by rw [← HL.out]; exact hlt))
      have q2 := (H.out.cell (p := ⟨b2, o2 + k, none⟩) hb2).trans (hc2 k (by rw [← HL.out]; exact hlt))
      clear hc1 hc2 hb1 hb2
      generalize l.getD k 0 = y at q1 q2
      have hi : (k : Int) < n := by omega
      have hi0 : (0 : Int) ≤ k := by omega
      go_upto_region 6 with fail
      go_region
      go_wp2_with fail
      go_roundw
      case rel => exact ⟨k + 1, by omega, by simp, Below.drew H.out⟩
      case measure => simp [natOf]; omega
    · have hi : (n : Int) ≤ k := by omega
      go_wp2_with fail
      go_ret
      exact ⟨rfl, H.out⟩

theorem cw_step {w wr w1 : World} {K : List (List Int)} {F : Nat → Value} {k n : Nat} {v : Value} (hk : k < n)
    (h : wr.rowIs w.heap.size 31 n (fun i => if i < k then F i else .slice none 0 0) ∧ (∀ i, i < k → Cf wr (w.heap.size + 1) (F i) (K.getD i [])) ∧ Below w.heap.size w wr)
    (hb : Below wr.heap.size wr w1) (hv : Cf w1 wr.heap.size v (K.getD k [])) :
    (w1.setCell ⟨w.heap.size, k, none⟩ v).rowIs w.heap.size 31 n (fun i => if i < k + 1 then (if i = k then v else F i) else .slice none 0 0) ∧ (∀ i, i < k + 1 → Cf (w1.setCell ⟨w.heap.size, k, none⟩ v) (w.heap.size + 1) (if i = k then v else F i) (K.getD i [])) ∧ Below w.heap.size w (w1.setCell ⟨w.heap.size, k, none⟩ v) := by
  have hlt := h.1.lt
  refine ⟨World.rowIs.congr (World.rowIs.set (row_below hb h.1) k v) fun i _ => ?_, fun i hi => ?_, ?_⟩
  · by_cases e : i = k
    · subst e; simp
    · by_cases h1 : i < k
      · simp [e, h1, show i < k + 1 by omega]
      · simp [e, h1, show ¬ i < k + 1 by omega]
  · by_cases e : i = k
    · subst e; simp only [if_true]; exact (hv.mono (by omega)).set (by omega)
    · simp only [e, if_false]; exact ((h.2.1 i (by omega)).below hb).set (by omega)
  · have h2 : Below w.heap.size w w1 := h.2.2.trans (hb.mono (by omega))
    exact h2.trans ⟨rfl, rfl, rfl, by simp [World.setCell], fun i hi => Below.heap_setCell _ _ _ _ (by show i ≠ w.heap.size; omega)⟩

set_option maxHeartbeats 1600000 in
set_option maxRecDepth 100000 in
theorem clone11 (a : Option Addr) (K : List (List Int)) (c : Nat) (w : World) (h : Ws w a K) (hnone : a = none → K = []) (hn : K.length ≤ 1000000) (hw : ∀ i, (K.getD i []).length ≤ 1000000) :
    Calls Try.prog 11 #[.slice a K.length c] w fun e w' => (∃ a' c', e = .returned (.slice a' K.length c') ∧ Ws w' a' K ∧ (a' = none → K = [])) ∧ Below w.heap.size w w' := by
  have hnil := fun (w : World) (a : Option Addr) (n c n' c' : Nat) => Lib.run_eql_slice_nil (P := Try.prog) w 32 31 a n c n' c' Try.underlying32
  obtain ⟨n, hl⟩ : ∃ n, n = K.length := ⟨_, rfl⟩
  rw [← hl] at hn ⊢
  have hmk := run_make_row' (P := Try.prog) 32 31 (.slice none 0 0) 24 Try.underlying32 info31 rfl .i64 .i64 n (by omega) (by omega)
  have H := hide h
  have HL := hide hl
  have HW := hide hw
  clear h hl hw
  cases a with
  | none =>
    have hK := hnone rfl
    have HK := hide hK
    have : n = 0 := by rw [HL.out, hK]; rfl
    subst this
    clear hK hnone hmk
    go_enter Try.func11, Try.ntmps11
    go_wp2
    go_ret
    exact ⟨⟨none, 0, rfl, .inl HK.out, fun _ => HK.out⟩, Below.refl _ _⟩
  | some x =>
    clear hnone
    go_enter Try.func11, Try.ntmps11
    go_wp2_with fail
    go_loopw [4] (fun iv wr => ∃ (k : Nat) (F : Nat → Value), k ≤ n ∧ iv = .int .i64 k ∧ Hid (wr.rowIs w.heap.size 31 n (fun i => if i < k then F i else .slice none 0 0) ∧ (∀ i, i < k → Cf wr (w.heap.size + 1) (F i) (K.getD i [])) ∧ Below w.heap.size w wr)) (fun iv _ => n - natOf iv)
    case atStart => exact ⟨0, fun _ => undef, Nat.zero_le _, rfl, by simpa using World.rowIs_made w (.slice none 0 0) n 31, fun i hi => absurd hi (Nat.not_lt_zero _), (Below.refl _ _).alloc (Nat.le_refl _) _⟩
    case round =>
      obtain ⟨k, F, hk, rfl, HR⟩ := hrel
      by_cases hlt : k < n
      · obtain hx | ⟨b, off, e, hbl, hc⟩ := H.out
        · have := HL.out; rw [hx] at this; simp at this; omega
        obtain rfl : x = ⟨b, off, none⟩ := by simpa using e
        obtain ⟨v, hcv, hcl⟩ := hc k (by rw [← HL.out]; exact hlt)
        have c0 := (HR.out.2.2.cell (p := ⟨b, off + k, none⟩) hbl).trans hcv
        have hcl2 := hcl.below HR.out.2.2
        have HC := hide hcl2
        obtain ⟨a1, c1, hv, _⟩ := hcl.shp
        obtain ⟨m, hm⟩ : ∃ m, m = (K.getD k []).length := ⟨_, rfl⟩
        rw [← hm] at hv
        subst hv
        have HM := hide hm
        clear hc hcl hcl2 e hcv hm
        have hi : (k : Int) < n := by omega
        have hi0 : (0 : Int) ≤ k := by omega
        go_wp2_with fail
        refine (clone10 _ (K.getD k []) _ HC.out (HW.out k)).mono ?_
        rintro e w1 ⟨⟨v', rfl, hcf⟩, hb⟩
        have HS := hide (cw_step hlt HR.out hb hcf)
        have c1' := World.rowIs.cell (row_below hb HR.out.1) hlt
        have f1 := World.rowIs.frozen (row_below hb HR.out.1) k
        obtain ⟨a2, c2, hv2, _⟩ := hcf.cl.shp
        rw [← HM.out] at hv2
        subst hv2
        clear hcf hb
        go_wp2_with fail
        go_roundw
        case rel => exact ⟨k + 1, _, by omega, by simp, HS.out⟩
        case measure => simp [natOf]; omega
      · have hi : (n : Int) ≤ k := by omega
        have hq : k = n := by omega
        go_wp2_with fail
        go_ret
        refine ⟨⟨_, _, rfl, .inr ⟨w.heap.size, 0, rfl, HR.out.1.lt, fun i hi => ?_⟩, fun h => by cases h⟩, HR.out.2.2⟩
        rw [Nat.zero_add]
        rw [← HL.out] at hi
        refine ⟨F i, ?_, (HR.out.2.1 i (by omega)).cl⟩
        rw [World.rowIs.cell HR.out.1 hi, if_pos (by omega)]
end Go.Proofs.Qxb6612898a.EW
