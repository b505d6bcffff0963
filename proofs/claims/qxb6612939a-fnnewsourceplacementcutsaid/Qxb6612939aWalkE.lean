/-
  WALKS (E): ZZNewSourcePlacement; the law's own helpers.
-/
import Derived.Test.Qxb6612939aWalkD
namespace Go.Proofs.Qxb6612939a
open Go.RowKit

set_option maxHeartbeats 1000000 in
set_option maxRecDepth 100000 in
/-- ZZNewSourcePlacement: membership in live and in frozen. -/
theorem zz19 (id : ByteArray) (a : Option Addr) (n c : Nat) (nd fr re th : Nat → ByteArray) (asked : Int) (al af : Option Addr) (ll lf : List ByteArray) (cl cf : Nat) (w : World)
    (h : Reps w a n nd fr re th) (hn : n ≤ 65536) (hl : Strs w al ll) (hf : Strs w af lf) (hnl : ll.length ≤ 65536) (hnf : lf.length ≤ 65536) (h1 : -1073741824 ≤ asked) (h2 : asked ≤ 9223372036854775807) :
    Calls Try.prog 19 #[.string id, .slice a n c, .int .i64 asked, .slice al ll.length cl, .slice af lf.length cf] w fun e w' => (∃ v, e = .returned v ∧ Plc 0 w' v id ((List.range n).map nd) (((List.range n).map nd).filter fun s => !has ll s) (((List.range n).map nd).filter (has lf)) (stOf n nd fr (has ll) (has lf) asked)) ∧ Below w.heap.size w w' := by
  have H := hide h
  have HL := hide hl
  have HF := hide hf
  clear h hl hf
  go_enter Try.func19, Try.ntmps19
  go_wp2_with fail
  have B1 : Below w.heap.size w (((w.alloc (.cells #[.slice al ll.length cl] 22)).alloc (.cells #[.slice af lf.length cf] 22)).alloc z40) := (((Below.refl _ _).alloc (Nat.le_refl _) _).alloc (by simp) _).alloc (by simp; omega) _
  have P1 := hide (pred26 al ll cl w.heap.size (((w.alloc (.cells #[.slice al ll.length cl] 22)).alloc (.cells #[.slice af lf.length cf] 22)).alloc z40) (by simp; omega) (by go_simp) (HL.out.below B1) hnl)
  have P2 := hide (pred27 af lf cf (w.heap.size + 1) (((w.alloc (.cells #[.slice al ll.length cl] 22)).alloc (.cells #[.slice af lf.length cf] 22)).alloc z40) (by simp) (by go_simp) (HF.out.below B1) hnf)
  have R := hide (show (((w.alloc (.cells #[.slice al ll.length cl] 22)).alloc (.cells #[.slice af lf.length cf] 22)).alloc z40).rowIs (w.heap.size + 1 + 1) 40 5 f40 from by
    have h := row5_new ((w.alloc (.cells #[.slice al ll.length cl] 22)).alloc (.cells #[.slice af lf.length cf] 22)) 40 (.string ⟨#[]⟩) (.slice none 0 0) (.slice none 0 0) (.slice none 0 0) (.int .i64 0)
    simpa using h)
  have B1h := hide B1
  clear B1
  generalize ((w.alloc (.cells #[.slice al ll.length cl] 22)).alloc (.cells #[.slice af lf.length cf] 22)).alloc z40 = W0 at P1 P2 R B1h ⊢
  refine (nsp25 id a n c nd fr re th asked 26 27 _ _ (has ll) (has lf) _ (H.out.below B1h.out) hn P1.out P2.out h1 h2).mono ?_
  rintro e w1 ⟨⟨v, rfl, a1, c1, a3, c3, a4, c4, rfl, ⟨s1, s3, s4⟩, f1, f3, f4⟩, hb⟩
  have S := hide (And.intro s1 (And.intro s3 s4))
  have FF := hide (And.intro f1 (And.intro f3 f4))
  have HB := hide (below_trans B1h.out hb)
  have R1 := hide (row_below R.out hb)
  have HZ := hide R.out.lt
  clear hb s1 s3 s4 f1 f3 f4 R P1 P2 B1h
  have q0 := World.rowIs.cell R1.out (i := 0) (by decide)
  have q1 := World.rowIs.cell R1.out (i := 1) (by decide)
  have q2 := World.rowIs.cell R1.out (i := 2) (by decide)
  have q3 := World.rowIs.cell R1.out (i := 3) (by decide)
  have q4 := World.rowIs.cell R1.out (i := 4) (by decide)
  have qf := World.rowIs.frozen R1.out
  simp only [row5, f40] at q0 q1 q2 q3 q4
  generalize hL : (List.range n).map nd = L at S FF ⊢
  have EL := hide hL
  clear hL
  go_wp2_with fail
  refine bodyPost_ret (v := .agg #[.string id, .slice a1 L.length c1, .slice a3 (L.filter fun s => !has ll s).length c3, .slice a4 (L.filter (has lf)).length c4, .int .i64 (stOf n nd fr (has ll) (has lf) asked)]) ?_ rfl ?_
  · simp [results, Try.results19, go_sem, q0, q1, q2, q3, q4]
  · clear q0 q1 q2 q3 q4 qf
    have hz := HZ.out
    have hB : w.heap.size ≤ w.heap.size + 1 + 1 := by omega
    rw [EL.out]
    refine ⟨⟨_, rfl, a1, c1, a3, c3, a4, c4, rfl, ⟨strs_set5 S.out.1 ?_, strs_set5 S.out.2.1 ?_, strs_set5 S.out.2.2 ?_⟩, fun _ _ _ _ => Nat.zero_le _, fun _ _ _ _ => Nat.zero_le _, fun _ _ _ _ => Nat.zero_le _⟩, ?_⟩
    · intro k off ha hl
      have := FF.out.1 k off ha hl
      omega
    · intro k off ha hl
      have := FF.out.2.1 k off ha hl
      omega
    · intro k off ha hl
      have := FF.out.2.2 k off ha hl
      omega
    · exact ((((HB.out.setCell hB _).setCell hB _).setCell hB _).setCell hB _).setCell hB _

/-! ### the law's own helpers -/

/-- Two lists of strings, compared as the law does. -/
def eqL (l m : List ByteArray) : Bool := decide (l = m)

theorem toList_inj {x y : ByteArray} (h : x.toList = y.toList) : x = y := by
  rw [ByteArray.toList_eq, ByteArray.toList_eq] at h
  obtain ⟨⟨la⟩⟩ := x
  obtain ⟨⟨lb⟩⟩ := y
  simp at h
  rw [h]

set_option maxHeartbeats 800000 in
theorem eq15 (a b : Option Addr) (l m : List ByteArray) (c d : Nat) (w : World) (ha : Strs w a l) (hb : Strs w b m) (hn : l.length ≤ 131072) (hm : m.length ≤ 131072) :
    Calls Try.prog 15 #[.slice a l.length c, .slice b m.length d] w fun e w' => e = .returned (.bool (eqL l m)) ∧ Below w.heap.size w w' := by
  have HA := hide ha
  have HB := hide hb
  clear ha hb
  by_cases hlen : l.length = m.length
  · have e0 : ((l.length : Int) != (m.length : Int)) = false := by simp [hlen]
    have HE := hide hlen
    have hlm : m.length ≤ l.length := by omega
    clear hlen
    go_enter Try.func15, Try.ntmps15
    go_wp2
    go_loopw [5] (fun i wr => ∃ k : Nat, k ≤ l.length ∧ i = .int .i64 k ∧ Hid (l.take k = m.take k) ∧ Below w.heap.size w wr) (fun i _ => l.length - (intOf i).toNat)
    case atStart => exact ⟨0, Nat.zero_le _, rfl, rfl, Below.refl _ _⟩
    case round =>
      obtain ⟨k, hk, rfl, HK, hbw⟩ := hrel
      have HBW := hide hbw
      clear hbw
      by_cases hlt : k < l.length
      · have hltm : k < m.length := by have := HE.out; omega
        obtain hx | ⟨b1, o1, rfl, hb1, hc1⟩ := HA.out
        · subst hx; simp at hlt
        obtain hx | ⟨b2, o2, rfl, hb2, hc2⟩ := HB.out
        · subst hx; simp at hltm
        have c0 := (HBW.out.cell (p := ⟨b1, o1 + k, none⟩) hb1).trans (hc1 k hlt)
        have c1 := (HBW.out.cell (p := ⟨b2, o2 + k, none⟩) hb2).trans (hc2 k hltm)
        have ht1 : l.take (k + 1) = l.take k ++ [l.getD k ByteArray.empty] := by
          rw [List.take_succ_eq_append_getElem hlt]; simp [List.getD_eq_getElem?_getD, List.getElem?_eq_getElem hlt]
        have ht2 : m.take (k + 1) = m.take k ++ [m.getD k ByteArray.empty] := by
          rw [List.take_succ_eq_append_getElem hltm]; simp [List.getD_eq_getElem?_getD, List.getElem?_eq_getElem hltm]
        clear hc1 hc2
        generalize hx1 : l.getD k ByteArray.empty = x at c0 ht1
        generalize hy1 : m.getD k ByteArray.empty = y at c1 ht2
        have HX := hide hx1
        have HY := hide hy1
        have HT := hide (And.intro ht1 ht2)
        clear hx1 hy1 ht1 ht2
        by_cases e : x = y
        · subst e
          have e1 : (x.toList == x.toList) = true := by simp
          go_wp2
          go_region
          go_wp2
          go_roundw
          case rel => exact ⟨k + 1, by omega, by go_num, by show _ = _; rw [HT.out.1, HT.out.2, HK.out], HBW.out.drew⟩
          case measure => simp [intOf]; omega
        · have e1 : (x.toList == y.toList) = false := by rw [beq_eq_false_iff_ne]; exact fun h => e (toList_inj h)
          have HN := hide e
          clear e
          go_wp2
          go_region
          go_wp2
          go_ret
          exact ⟨ret_bool (by
            unfold eqL
            rw [decide_eq_false]
            intro h
            subst h
            exact HN.out (HX.out.symm.trans HY.out)), HBW.out.drew⟩
      · have hlm2 : l = m := by
          have h := HK.out
          have := HE.out
          rwa [List.take_of_length_le (by omega), List.take_of_length_le (by omega)] at h
        have HLM := hide hlm2
        clear hlm2 HK
        go_wp2
        go_ret
        exact ⟨ret_bool (by unfold eqL; rw [decide_eq_true HLM.out]), HBW.out⟩
  · have e0 : ((l.length : Int) != (m.length : Int)) = true := by rw [bne_iff_ne]; omega
    have HE := hide hlen
    clear hlen
    go_enter Try.func15, Try.ntmps15
    go_wp2
    go_ret
    exact ⟨ret_bool (by unfold eqL; rw [decide_eq_false]; intro h; exact HE.out (by rw [h])), Below.refl _ _⟩

/-- A row of strings that the call makes. -/
theorem strs_row {w : World} {b : Nat} {l : List ByteArray} (h : w.rowIs b 9 l.length (fun i => .string (l.getD i ByteArray.empty))) : Strs w (some ⟨b, 0, none⟩) l :=
  .inr ⟨b, 0, rfl, h.lt, fun i hi => by rw [Nat.zero_add]; exact h.cell hi⟩

set_option maxHeartbeats 800000 in
theorem clone10 (a : Option Addr) (l : List ByteArray) (c : Nat) (w : World) (h : Strs w a l) (hn : l.length ≤ 65536) :
    Calls Try.prog 10 #[.slice a l.length c] w fun e w' => (∃ a' c', e = .returned (.slice a' l.length c') ∧ Strs w' a' l) ∧ Below w.heap.size w w' := by
  have hnil := fun (w : World) (a : Option Addr) (n c n' c' : Nat) => Lib.run_eql_slice_nil (P := Try.prog) w 22 9 a n c n' c' Try.underlying22
  have hmk := run_make_row' (P := Try.prog) 22 9 (.string ByteArray.empty) 16 Try.underlying22 info9 rfl .i64 .i64 l.length (by omega) (by omega)
  have H := hide h
  clear h
  cases a with
  | none =>
    have hl : l = [] := by
      rcases H.out with h | ⟨b, off, h, _⟩
      · exact h
      · cases h
    subst hl
    go_enter Try.func10, Try.ntmps10
    go_wp2
    go_ret
    exact ⟨⟨_, _, rfl, .inl rfl⟩, Below.refl _ _⟩
  | some x =>
    go_enter Try.func10, Try.ntmps10
    go_wp2
    go_loopw [4] (fun i wr => ∃ k : Nat, k ≤ l.length ∧ i = .int .i64 k ∧ wr.rowIs w.heap.size 9 l.length (fun i => .string (if i < k then l.getD i ByteArray.empty else ByteArray.empty)) ∧ Below w.heap.size w wr) (fun i _ => l.length - (intOf i).toNat)
    case atStart => exact ⟨0, Nat.zero_le _, rfl, World.rowIs_made _ _ _ _, (Below.refl _ _).alloc (Nat.le_refl _) _⟩
    case round =>
      obtain ⟨k, hk, rfl, hr, hb⟩ := hrel
      have HR := hide hr
      have HB := hide hb
      clear hr hb
      by_cases hlt : k < l.length
      · obtain hx | ⟨b, off, e, hbl, hc⟩ := H.out
        · subst hx; simp at hlt
        obtain rfl : x = ⟨b, off, none⟩ := by simpa using e
        clear e
        have c0 := (HB.out.cell (p := ⟨b, off + k, none⟩) hbl).trans (hc k hlt)
        have c1 := World.rowIs.cell HR.out hlt
        have f1 := World.rowIs.frozen HR.out k
        clear hc
        generalize hy : l.getD k ByteArray.empty = y at c0
        have HY := hide hy
        clear hy
        go_wp2
        go_roundw
        case rel => exact ⟨k + 1, by omega, by go_num, (HR.out.set k _).congr (fun i hi => by
          by_cases e : i = k
          · subst e; rw [if_pos rfl, if_pos (by omega), HY.out]
          · rw [if_neg e]
            by_cases e2 : i < k
            · rw [if_pos e2, if_pos (by omega)]
            · rw [if_neg e2, if_neg (by omega)]), HB.out.setCell (Nat.le_refl _) _⟩
        case measure => simp [intOf]; omega
      · have HR2 := hide (strs_row (HR.out.congr (fun i hi => by rw [if_pos (by omega)])))
        clear HR
        go_wp2
        go_ret
        exact ⟨⟨_, _, rfl, HR2.out⟩, HB.out⟩

theorem info47 : (Try.prog.info? 47).map (fun i => (i.zero, i.size, i.bytes)) = some (some (.agg #[.string ByteArray.empty, .string ByteArray.empty, .string ByteArray.empty, .string ByteArray.empty]), 4, 64) := by kernel_rfl

/-- The cells of a row of replicas. -/
def rp (nd fr re th : Nat → ByteArray) (i : Nat) : Value := .string (if i % 4 = 0 then nd (i / 4) else if i % 4 = 1 then fr (i / 4) else if i % 4 = 2 then re (i / 4) else th (i / 4))
theorem rp0 (nd fr re th : Nat → ByteArray) (i : Nat) : rp nd fr re th (i * 4) = .string (nd i) := by
  unfold rp; rw [if_pos (by omega), show i * 4 / 4 = i from by omega]
theorem rp1 (nd fr re th : Nat → ByteArray) (i : Nat) : rp nd fr re th (i * 4 + 1) = .string (fr i) := by
  unfold rp; rw [if_neg (by omega), if_pos (by omega), show (i * 4 + 1) / 4 = i from by omega]
theorem rp2 (nd fr re th : Nat → ByteArray) (i : Nat) : rp nd fr re th (i * 4 + 2) = .string (re i) := by
  unfold rp; rw [if_neg (by omega), if_neg (by omega), if_pos (by omega), show (i * 4 + 2) / 4 = i from by omega]
theorem rp3 (nd fr re th : Nat → ByteArray) (i : Nat) : rp nd fr re th (i * 4 + 3) = .string (th i) := by
  unfold rp; rw [if_neg (by omega), if_neg (by omega), if_neg (by omega), show (i * 4 + 3) / 4 = i from by omega]

def cutAt (k : Nat) (f : Nat → ByteArray) (i : Nat) : ByteArray := if i < k then f i else ByteArray.empty
theorem cutAt_succ (k : Nat) (f : Nat → ByteArray) (i : Nat) (h : i ≠ k) : cutAt (k + 1) f i = cutAt k f i := by
  unfold cutAt
  by_cases e : i < k
  · rw [if_pos e, if_pos (by omega)]
  · rw [if_neg e, if_neg (by omega)]
theorem cutAt_self (k : Nat) (f : Nat → ByteArray) : cutAt (k + 1) f k = f k := if_pos (by omega)

theorem rp_set {w : World} {b n k : Nat} {nd fr re th : Nat → ByteArray} (h : w.rowIs b 47 (n * 4) (rp (cutAt k nd) (cutAt k fr) (cutAt k re) (cutAt k th))) :
    ((((w.setCell ⟨b, k * 4, none⟩ (.string (nd k))).setCell ⟨b, k * 4 + 1, none⟩ (.string (fr k))).setCell ⟨b, k * 4 + 2, none⟩ (.string (re k))).setCell ⟨b, k * 4 + 3, none⟩ (.string (th k))).rowIs b 47 (n * 4)
      (rp (cutAt (k + 1) nd) (cutAt (k + 1) fr) (cutAt (k + 1) re) (cutAt (k + 1) th)) := by
  refine World.rowIs.congr ((((h.set _ _).set _ _).set _ _).set _ _) fun i hi => ?_
  by_cases e3 : i = k * 4 + 3
  · subst e3; rw [if_pos rfl, rp3, cutAt_self]
  · rw [if_neg e3]
    by_cases e2 : i = k * 4 + 2
    · subst e2; rw [if_pos rfl, rp2, cutAt_self]
    · rw [if_neg e2]
      by_cases e1 : i = k * 4 + 1
      · subst e1; rw [if_pos rfl, rp1, cutAt_self]
      · rw [if_neg e1]
        by_cases e0 : i = k * 4
        · subst e0; rw [if_pos rfl, rp0, cutAt_self]
        · rw [if_neg e0]
          have hne : i / 4 ≠ k := by omega
          unfold rp
          rw [cutAt_succ k nd _ hne, cutAt_succ k fr _ hne, cutAt_succ k re _ hne, cutAt_succ k th _ hne]

theorem rp_made (w : World) (n : Nat) (nd fr re th : Nat → ByteArray) :
    (w.alloc (.cells (madeCells #[.string ByteArray.empty, .string ByteArray.empty, .string ByteArray.empty, .string ByteArray.empty] (n * 4)) 47)).rowIs w.heap.size 47 (n * 4) (rp (cutAt 0 nd) (cutAt 0 fr) (cutAt 0 re) (cutAt 0 th)) := by
  refine ⟨_, Deep.blk_alloc_new _ _, size_madeCells _ _, fun i hi => ?_⟩
  have e : ∀ f : Nat → ByteArray, ∀ j, cutAt 0 f j = ByteArray.empty := fun f j => if_neg (by omega)
  unfold rp
  simp only [e]
  have : i % 4 = 0 ∨ i % 4 = 1 ∨ i % 4 = 2 ∨ i % 4 = 3 := by omega
  rcases this with h | h | h | h <;> simp [madeCells, hi, h]

theorem reps_row {w : World} {b n : Nat} {nd fr re th : Nat → ByteArray} (h : w.rowIs b 47 (n * 4) (rp nd fr re th)) : Reps w (some ⟨b, 0, none⟩) n nd fr re th :=
  .inr ⟨b, 0, rfl, h.lt, fun i hi => ⟨by rw [Nat.zero_add, h.cell (by omega), rp0], by rw [Nat.zero_add, h.cell (by omega), rp1], by rw [Nat.zero_add, h.cell (by omega), rp2], by rw [Nat.zero_add, h.cell (by omega), rp3]⟩⟩

set_option maxHeartbeats 1000000 in
theorem sources18 (a0 a1 a2 a3 : Option Addr) (l0 l1 l2 l3 : List ByteArray) (n c0 c1 c2 c3 : Nat) (w : World) (h0 : Strs w a0 l0) (h1 : Strs w a1 l1) (h2 : Strs w a2 l2) (h3 : Strs w a3 l3) (e0 : n = l0.length) (e1 : n = l1.length) (e2 : n = l2.length) (e3 : n = l3.length) (hn : n ≤ 65536) :
    Calls Try.prog 18 #[.slice a0 n c0, .slice a1 n c1, .slice a2 n c2, .slice a3 n c3] w fun e w' => (∃ b, e = .returned (.slice (some ⟨b, 0, none⟩) n n) ∧ Reps w' (some ⟨b, 0, none⟩) n (fun i => l0.getD i ByteArray.empty) (fun i => l1.getD i ByteArray.empty) (fun i => l2.getD i ByteArray.empty) (fun i => l3.getD i ByteArray.empty)) ∧ Below w.heap.size w w' := by
  obtain ⟨i0, hi, hz0, hz1, hz2⟩ := info_parts info47
  have hmk : ∀ w : World, (Instr.makeSlice 36 (.int .i64 (n : Int)) (.int .i64 (n : Int))).run Try.prog w = .ok (.slice (some ⟨w.heap.size, 0, none⟩) n n) (w.alloc (.cells (madeCells #[.string ByteArray.empty, .string ByteArray.empty, .string ByteArray.empty, .string ByteArray.empty] (n * 4)) 47)) := by
    intro w
    have := run_make (P := Try.prog) w 36 47 i0 _ Try.underlying36 hi hz0 .i64 .i64 n n (by omega) (by omega) (by rw [hz2]; omega) (by omega)
    rw [hz1] at this
    simpa [Value.cells] using this
  have H0 := hide h0
  have H1 := hide h1
  have H2 := hide h2
  have H3 := hide h3
  have E := hide (And.intro e0 (And.intro e1 (And.intro e2 e3)))
  clear h0 h1 h2 h3 e0 e1 e2 e3 hi hz0 hz1 hz2
  go_enter Try.func18, Try.ntmps18
  go_wp2
  go_loopw [10] (fun i wr => ∃ k : Nat, k ≤ n ∧ i = .int .i64 k ∧ wr.rowIs w.heap.size 47 (n * 4) (rp (cutAt k fun i => l0.getD i ByteArray.empty) (cutAt k fun i => l1.getD i ByteArray.empty) (cutAt k fun i => l2.getD i ByteArray.empty) (cutAt k fun i => l3.getD i ByteArray.empty)) ∧ Below w.heap.size w wr) (fun i _ => n - (intOf i).toNat)
  case atStart => exact ⟨0, Nat.zero_le _, rfl, rp_made w n _ _ _ _, (Below.refl _ _).alloc (Nat.le_refl _) _⟩
  case round =>
    obtain ⟨k, hk, rfl, hr, hb⟩ := hrel
    have HR := hide hr
    have HB := hide hb
    clear hr hb
    by_cases hlt : k < n
    · obtain hx | ⟨b0, o0, rfl, hb0, hc0⟩ := H0.out
      · have := E.out.1; rw [hx] at this; simp at this; omega
      obtain hx | ⟨b1, o1, rfl, hb1, hc1⟩ := H1.out
      · have := E.out.2.1; rw [hx] at this; simp at this; omega
      obtain hx | ⟨b2, o2, rfl, hb2, hc2⟩ := H2.out
      · have := E.out.2.2.1; rw [hx] at this; simp at this; omega
      obtain hx | ⟨b3, o3, rfl, hb3, hc3⟩ := H3.out
      · have := E.out.2.2.2; rw [hx] at this; simp at this; omega
      have g0 := (HB.out.cell (p := ⟨b0, o0 + k, none⟩) hb0).trans (hc0 k (by have := E.out.1; omega))
      have g1 := (HB.out.cell (p := ⟨b1, o1 + k, none⟩) hb1).trans (hc1 k (by have := E.out.2.1; omega))
      have g2 := (HB.out.cell (p := ⟨b2, o2 + k, none⟩) hb2).trans (hc2 k (by have := E.out.2.2.1; omega))
      have g3 := (HB.out.cell (p := ⟨b3, o3 + k, none⟩) hb3).trans (hc3 k (by have := E.out.2.2.2; omega))
      have RS := hide (rp_set HR.out)
      have q0 := World.rowIs.cell HR.out (i := k * 4) (by omega)
      have q1 := World.rowIs.cell HR.out (i := k * 4 + 1) (by omega)
      have q2 := World.rowIs.cell HR.out (i := k * 4 + 2) (by omega)
      have q3 := World.rowIs.cell HR.out (i := k * 4 + 3) (by omega)
      rw [rp0] at q0
      rw [rp1] at q1
      rw [rp2] at q2
      rw [rp3] at q3
      have qf := World.rowIs.frozen HR.out
      clear hc0 hc1 hc2 hc3
      generalize l0.getD k ByteArray.empty = x0 at g0 RS
      generalize l1.getD k ByteArray.empty = x1 at g1 RS
      generalize l2.getD k ByteArray.empty = x2 at g2 RS
      generalize l3.getD k ByteArray.empty = x3 at g3 RS
      go_wp2
      go_region
      go_wp2
      go_roundw
      case rel => exact ⟨k + 1, by omega, by go_num, RS.out, ((((HB.out.setCell (Nat.le_refl _) _).setCell (Nat.le_refl _) _).setCell (Nat.le_refl _) _).setCell (Nat.le_refl _) _).drew⟩
      case measure => simp [intOf]; omega
    · have HR2 := hide (reps_row (HR.out.congr (g := rp (fun i => l0.getD i ByteArray.empty) (fun i => l1.getD i ByteArray.empty) (fun i => l2.getD i ByteArray.empty) (fun i => l3.getD i ByteArray.empty)) (fun i hi => by
        unfold rp cutAt
        have : i / 4 < k := by omega
        simp only [this, if_true])))
      clear HR
      go_wp2
      go_ret
      exact ⟨⟨_, rfl, HR2.out⟩, HB.out⟩

set_option maxHeartbeats 400000 in
theorem strs8 (z : Int) (a : Option Addr) (l : List ByteArray) (c : Nat) (w : World) (h : Strs w a l) (hn : l.length ≤ 65536) :
    Calls Try.prog 8 #[.int .i64 z, .slice a l.length c] w fun e w' => (∃ r : Int, e = .returned (.int .i64 r)) ∧ w = w' := by
  have H := hide h
  clear h
  go_enter Try.func8, Try.ntmps8
  go_wp2
  · go_ret
    exact ⟨⟨_, rfl⟩, rfl⟩
  · go_loop [0, 5] (fun t i => ∃ (k : Nat) (y : Int), k ≤ l.length ∧ i = .int .i64 k ∧ t = .int .i64 y) (fun _ i => l.length - (intOf i).toNat)
    case atStart => exact ⟨0, _, Nat.zero_le _, rfl, rfl⟩
    case round =>
      obtain ⟨k, y, hk, rfl, rfl⟩ := hrel
      by_cases hlt : k < l.length
      · obtain hx | ⟨b, off, rfl, hb, hc⟩ := H.out
        · subst hx; simp at hlt
        have c0 := hc k hlt
        clear hc
        generalize l.getD k ByteArray.empty = x at c0
        go_wp2
        · go_ret
          exact ⟨⟨_, rfl⟩, rfl⟩
        · go_round
          case rel => exact ⟨k + 1, _, by omega, by go_num, rfl⟩
          case measure => simp [intOf]; omega
      · go_wp2
        go_ret
        exact ⟨⟨_, rfl⟩, rfl⟩

end Go.Proofs.Qxb6612939a
