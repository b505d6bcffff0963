/-
  THE WALK OF FnCompareFindingsFileThenLineThenWeight (function 4).
-/
import Derived.Test.Qxb6612981aCmpWalks
import Derived.Deep.DeepCutAuto
namespace Go.Proofs.Qxb6612981a
open Go.RowKit

/-- A finding lies in a block of its own. -/
structure Has (W : World) (b : Nat) (f : ByteArray) (l v : Int) (m : ByteArray) : Prop where
  c0 : W.cell? ⟨b, 0, none⟩ = some (.string f)
  c1 : W.cell? ⟨b, 1, none⟩ = some (.int .i64 l)
  c2 : W.cell? ⟨b, 2, none⟩ = some (.int .i64 v)
  c3 : W.cell? ⟨b, 3, none⟩ = some (.string m)
  c4 : W.cell? ⟨b, 4, none⟩ = some (.pointer none)
  lt : b < W.heap.size

theorem undrew {B : Nat} {W W' : World} (h : Below B W.drew W') : Below B W W' := ⟨h.os, h.tape, h.output, h.size, h.block⟩

theorem Has.below {W W' : World} {B b : Nat} {f : ByteArray} {l v : Int} {m : ByteArray} (h : Has W b f l v m) (hb : Below B W W') (hB : b < B) : Has W' b f l v m :=
  ⟨(hb.cell (p := ⟨b, 0, none⟩) hB).trans h.c0, (hb.cell (p := ⟨b, 1, none⟩) hB).trans h.c1, (hb.cell (p := ⟨b, 2, none⟩) hB).trans h.c2, (hb.cell (p := ⟨b, 3, none⟩) hB).trans h.c3, (hb.cell (p := ⟨b, 4, none⟩) hB).trans h.c4,
    Nat.lt_of_lt_of_le h.lt hb.size⟩

theorem Has.new (W : World) (f : ByteArray) (l v : Int) (m : ByteArray) : Has (W.alloc (.cells #[.string f, .int .i64 l, .int .i64 v, .string m, .pointer none] 26)) W.heap.size f l v m :=
  ⟨by go_simp, by go_simp, by go_simp, by go_simp, by go_simp, by simp⟩

theorem Has.alloc {W : World} {b : Nat} {f : ByteArray} {l v : Int} {m : ByteArray} (h : Has W b f l v m) (o : Obj) : Has (W.alloc o) b f l v m :=
  h.below ((Below.refl _ _).alloc (Nat.le_refl _) o) h.lt

set_option maxHeartbeats 2000000 in
set_option maxRecDepth 100000 in
theorem walk4 (f1 f2 f3 : ByteArray) (l1 v1 l2 v2 l3 v3 : Int) (w : World) (h1 : f1.size ≤ maxLen) (h2 : f2.size ≤ maxLen) (h3 : f3.size ≤ maxLen) :
    Calls Try.prog 4 #[.string f1, .int .i64 l1, .int .i64 v1, .string f2, .int .i64 l2, .int .i64 v2, .string f3, .int .i64 l3, .int .i64 v3] w fun e w' => e = .returned (.bool true) ∧ Below w.heap.size w w' := by
  have H1 := hide h1
  have H2 := hide h2
  have H3 := hide h3
  unfold maxLen at h1 h2 h3
  go_enter Try.func4, Try.ntmps4
  go_wp2_with fail
  refine (bytes10 f1 f2 f3 l1 v1 l2 v2 l3 v3 _ H1.out H2.out H3.out).mono ?_
  rintro e w' ⟨⟨r, rfl⟩, rfl⟩
  cases r
  · go_wp2_with fail
    go_ret
    exact ⟨rfl, Below.refl _ _⟩
  go_wp2_with fail
  iterate 4
    · go_ret
      exact ⟨rfl, Below.refl _ _⟩
  clear H1 H2 H3
  refine (mk8 f1 _ l1 v1 _).mono ?_
  rintro e w1 ⟨rfl, hb1⟩
  have HA := hide (Has.new w1 f1 l1 v1 ⟨#[]⟩)
  have HB := hide (hb1.alloc hb1.size (.cells #[.string f1, .int .i64 l1, .int .i64 v1, .string ⟨#[]⟩, .pointer none] 26))
  clear hb1
  go_wp2_with fail
  refine (mk8 f2 _ l2 v2 _).mono ?_
  rintro e w2 ⟨rfl, hb2⟩
  have HA2 := hide ((HA.out.below hb2 HA.out.lt).alloc (.cells #[.string f2, .int .i64 l2, .int .i64 v2, .string ⟨#[]⟩, .pointer none] 26))
  have HBB := hide (Has.new w2 f2 l2 v2 ⟨#[]⟩)
  have HB2 := hide ((HB.out.trans (hb2.mono HB.out.size)).alloc (HB.out.trans (hb2.mono HB.out.size)).size (.cells #[.string f2, .int .i64 l2, .int .i64 v2, .string ⟨#[]⟩, .pointer none] 26))
  clear hb2 HA HB
  go_wp2_with fail
  refine (mk8 f3 _ l3 v3 _).mono ?_
  rintro e w3 ⟨rfl, hb3⟩
  have HA3 := hide ((HA2.out.below hb3 HA2.out.lt).alloc (.cells #[.string f3, .int .i64 l3, .int .i64 v3, .string ⟨#[]⟩, .pointer none] 26))
  have HBB3 := hide ((HBB.out.below hb3 HBB.out.lt).alloc (.cells #[.string f3, .int .i64 l3, .int .i64 v3, .string ⟨#[]⟩, .pointer none] 26))
  have HC3 := hide (Has.new w3 f3 l3 v3 ⟨#[]⟩)
  have HB3 := hide ((HB2.out.trans (hb3.mono HB2.out.size)).alloc (HB2.out.trans (hb3.mono HB2.out.size)).size (.cells #[.string f3, .int .i64 l3, .int .i64 v3, .string ⟨#[]⟩, .pointer none] 26))
  clear hb3 HA2 HBB HB2
  obtain ⟨a0, a1, a2, a3, a4, alt⟩ := HA3.out
  obtain ⟨b0, b1, b2, b3, b4, blt⟩ := HBB3.out
  obtain ⟨c0, c1, c2, c3, c4, clt⟩ := HC3.out
  go_wp2_with fail
  clear a0 a1 a2 a3 a4 alt b0 b1 b2 b3 b4 blt c0 c1 c2 c3 c4 clt
  refine (cmp9 f1 _ f2 _ l1 v1 l2 v2 _).mono ?_
  generalize (w3.alloc (.cells #[.string f3, .int .i64 l3, .int .i64 v3, .string ⟨#[]⟩, .pointer none] 26)) = X at HA3 HBB3 HC3 HB3 ⊢
  generalize w1.heap.size = ba at HA3 HBB3 HC3 HB3 ⊢
  generalize w2.heap.size = bb at HA3 HBB3 HC3 HB3 ⊢
  generalize w3.heap.size = bc at HA3 HBB3 HC3 HB3 ⊢
  clear w1 w2 w3
  rintro e w4 ⟨rfl, hb⟩
  have HA4 := hide (HA3.out.below hb HA3.out.lt)
  have HBB4 := hide (HBB3.out.below hb HBB3.out.lt)
  have HC4 := hide (HC3.out.below hb HC3.out.lt)
  have HB4 := hide (HB3.out.trans (hb.mono HB3.out.size))
  clear hb HA3 HBB3 HC3 HB3
  obtain ⟨b0, b1, b2, b3, b4, blt⟩ := HBB4.out
  obtain ⟨c0, c1, c2, c3, c4, clt⟩ := HC4.out
  go_wp2_with fail
  clear b0 b1 b2 b3 b4 blt c0 c1 c2 c3 c4 clt
  refine (cmp9 f2 _ f3 _ l2 v2 l3 v3 _).mono ?_
  rintro e w5 ⟨rfl, hb⟩
  have HA5 := hide (HA4.out.below hb HA4.out.lt)
  have HBB5 := hide (HBB4.out.below hb HBB4.out.lt)
  have HC5 := hide (HC4.out.below hb HC4.out.lt)
  have HB5 := hide (HB4.out.trans (hb.mono HB4.out.size))
  clear hb HA4 HBB4 HC4 HB4
  obtain ⟨a0, a1, a2, a3, a4, alt⟩ := HA5.out
  obtain ⟨c0, c1, c2, c3, c4, clt⟩ := HC5.out
  go_wp2_with fail
  clear a0 a1 a2 a3 a4 alt c0 c1 c2 c3 c4 clt HC5 HA5
  refine (cmp9 f1 _ f3 _ l1 v1 l3 v3 _).mono ?_
  rintro e w6 ⟨rfl, hb⟩
  have HBB6 := hide (HBB5.out.below hb HBB5.out.lt)
  have HB := hide (HB5.out.trans (hb.mono HB5.out.size))
  clear hb HBB5 HB5
  have ht := cF_trans f1.data.toList f2.data.toList f3.data.toList l1 v1 l2 v2 l3 v3
  have hfile := hide (cF_file f1.data.toList f2.data.toList l1 v1 l2 v2 l3 v3)
  generalize cF f1.data.toList l1 v1 f2.data.toList l2 v2 = p at ht hfile ⊢
  generalize cF f2.data.toList l2 v2 f3.data.toList l3 v3 = q at ht ⊢
  generalize cF f1.data.toList l1 v1 f3.data.toList l3 v3 = r at ht ⊢
  have t1 : 0 < p ∨ 0 < q ∨ r ≤ 0 := by
    by_cases hp : p ≤ 0
    · by_cases hq : q ≤ 0
      · exact .inr (.inr (ht hp hq).1)
      · omega
    · omega
  have t2 : 0 ≤ p ∨ 0 ≤ q ∨ r < 0 := by
    by_cases hp : p < 0
    · by_cases hq : q < 0
      · exact .inr (.inr ((ht (by omega) (by omega)).2 hp))
      · omega
    · omega
  clear ht
  go_upto_region 17 with fail
  go_cut [86] (fun s wx => s = .bool false ∧ w6 = wx)
  case first =>
    go_wp2_with fail
    all_goals
      go_meet
      exact ⟨by first | rfl | (simp; omega), rfl⟩
  case rest =>
    obtain ⟨rfl, rfl⟩ := hcut
    clear t1
    go_upto_region 19 with fail
    go_cut [96] (fun s wx => s = .bool false ∧ w6 = wx)
    case first =>
      go_wp2_with fail
      all_goals
        go_meet
        exact ⟨by first | rfl | (simp; omega), rfl⟩
    case rest =>
      obtain ⟨rfl, rfl⟩ := hcut
      clear t2
      have eE : (f1.toList != f1.toList) = false := by simp
      have hlin := hide (cF_line f3.data.toList l1 v2 l2 v1)
      have hlev := hide (cF_level f3.data.toList l3 v1 v2)
      have hl3 : l1 < l2 ∨ l1 = l2 ∨ l2 < l1 := by omega
      have hv3 : v1 < v2 ∨ v1 = v2 ∨ v2 < v1 := by omega
      have HL := hide hl3
      have HV := hide hv3
      clear hl3 hv3
      by_cases e1 : f1 = f2
      · subst e1
        clear hfile HBB6
        obtain hl | hl | hl := HL.out
        · have g1 : (l1 == l2) = false := by simp; omega
          have g2 : cF f3.data.toList l1 v2 f3.data.toList l2 v1 = -1 := by rw [hlin.out (by omega), if_pos hl]
          obtain hv | hv | hv := HV.out
          · have g3 : cF f3.data.toList l3 v1 f3.data.toList l3 v2 = 1 := by rw [hlev.out, if_neg (by omega), if_pos hv]
            go_wp2_with (first | (go_at_call 8; refine (mk8 _ _ _ _ _).mono ?_; rintro e wN ⟨rfl, hb⟩; have HB := hide (HB.out.trans (hb.mono HB.out.size)); clear hb) | (go_at_call 9; refine (cmp9 _ _ _ _ _ _ _ _ _).mono ?_; rintro e wN ⟨rfl, hb⟩; have HB := hide (HB.out.trans (hb.mono HB.out.size)); clear hb))
            go_ret
            exact ⟨rfl, HB.out⟩
          · have g3 : cF f3.data.toList l3 v1 f3.data.toList l3 v2 = 0 := by rw [hlev.out, if_neg (by omega), if_neg (by omega)]
            subst hv
            go_wp2_with (first | (go_at_call 8; refine (mk8 _ _ _ _ _).mono ?_; rintro e wN ⟨rfl, hb⟩; have HB := hide (HB.out.trans (hb.mono HB.out.size)); clear hb) | (go_at_call 9; refine (cmp9 _ _ _ _ _ _ _ _ _).mono ?_; rintro e wN ⟨rfl, hb⟩; have HB := hide (HB.out.trans (hb.mono HB.out.size)); clear hb))
            go_ret
            exact ⟨rfl, HB.out⟩
          · have g3 : cF f3.data.toList l3 v1 f3.data.toList l3 v2 = -1 := by rw [hlev.out, if_pos hv]
            go_wp2_with (first | (go_at_call 8; refine (mk8 _ _ _ _ _).mono ?_; rintro e wN ⟨rfl, hb⟩; have HB := hide (HB.out.trans (hb.mono HB.out.size)); clear hb) | (go_at_call 9; refine (cmp9 _ _ _ _ _ _ _ _ _).mono ?_; rintro e wN ⟨rfl, hb⟩; have HB := hide (HB.out.trans (hb.mono HB.out.size)); clear hb))
            go_ret
            exact ⟨rfl, HB.out⟩
        · subst hl
          obtain hv | hv | hv := HV.out
          · have g3 : cF f3.data.toList l3 v1 f3.data.toList l3 v2 = 1 := by rw [hlev.out, if_neg (by omega), if_pos hv]
            go_wp2_with (first | (go_at_call 8; refine (mk8 _ _ _ _ _).mono ?_; rintro e wN ⟨rfl, hb⟩; have HB := hide (HB.out.trans (hb.mono HB.out.size)); clear hb) | (go_at_call 9; refine (cmp9 _ _ _ _ _ _ _ _ _).mono ?_; rintro e wN ⟨rfl, hb⟩; have HB := hide (HB.out.trans (hb.mono HB.out.size)); clear hb))
            go_ret
            exact ⟨rfl, HB.out⟩
          · have g3 : cF f3.data.toList l3 v1 f3.data.toList l3 v2 = 0 := by rw [hlev.out, if_neg (by omega), if_neg (by omega)]
            subst hv
            go_wp2_with (first | (go_at_call 8; refine (mk8 _ _ _ _ _).mono ?_; rintro e wN ⟨rfl, hb⟩; have HB := hide (HB.out.trans (hb.mono HB.out.size)); clear hb) | (go_at_call 9; refine (cmp9 _ _ _ _ _ _ _ _ _).mono ?_; rintro e wN ⟨rfl, hb⟩; have HB := hide (HB.out.trans (hb.mono HB.out.size)); clear hb))
            go_ret
            exact ⟨rfl, HB.out⟩
          · have g3 : cF f3.data.toList l3 v1 f3.data.toList l3 v2 = -1 := by rw [hlev.out, if_pos hv]
            go_wp2_with (first | (go_at_call 8; refine (mk8 _ _ _ _ _).mono ?_; rintro e wN ⟨rfl, hb⟩; have HB := hide (HB.out.trans (hb.mono HB.out.size)); clear hb) | (go_at_call 9; refine (cmp9 _ _ _ _ _ _ _ _ _).mono ?_; rintro e wN ⟨rfl, hb⟩; have HB := hide (HB.out.trans (hb.mono HB.out.size)); clear hb))
            go_ret
            exact ⟨rfl, HB.out⟩
        · have g1 : (l1 == l2) = false := by simp; omega
          have g2 : cF f3.data.toList l1 v2 f3.data.toList l2 v1 = 1 := by rw [hlin.out (by omega), if_neg (by omega)]
          obtain hv | hv | hv := HV.out
          · have g3 : cF f3.data.toList l3 v1 f3.data.toList l3 v2 = 1 := by rw [hlev.out, if_neg (by omega), if_pos hv]
            go_wp2_with (first | (go_at_call 8; refine (mk8 _ _ _ _ _).mono ?_; rintro e wN ⟨rfl, hb⟩; have HB := hide (HB.out.trans (hb.mono HB.out.size)); clear hb) | (go_at_call 9; refine (cmp9 _ _ _ _ _ _ _ _ _).mono ?_; rintro e wN ⟨rfl, hb⟩; have HB := hide (HB.out.trans (hb.mono HB.out.size)); clear hb))
            go_ret
            exact ⟨rfl, HB.out⟩
          · have g3 : cF f3.data.toList l3 v1 f3.data.toList l3 v2 = 0 := by rw [hlev.out, if_neg (by omega), if_neg (by omega)]
            subst hv
            go_wp2_with (first | (go_at_call 8; refine (mk8 _ _ _ _ _).mono ?_; rintro e wN ⟨rfl, hb⟩; have HB := hide (HB.out.trans (hb.mono HB.out.size)); clear hb) | (go_at_call 9; refine (cmp9 _ _ _ _ _ _ _ _ _).mono ?_; rintro e wN ⟨rfl, hb⟩; have HB := hide (HB.out.trans (hb.mono HB.out.size)); clear hb))
            go_ret
            exact ⟨rfl, HB.out⟩
          · have g3 : cF f3.data.toList l3 v1 f3.data.toList l3 v2 = -1 := by rw [hlev.out, if_pos hv]
            go_wp2_with (first | (go_at_call 8; refine (mk8 _ _ _ _ _).mono ?_; rintro e wN ⟨rfl, hb⟩; have HB := hide (HB.out.trans (hb.mono HB.out.size)); clear hb) | (go_at_call 9; refine (cmp9 _ _ _ _ _ _ _ _ _).mono ?_; rintro e wN ⟨rfl, hb⟩; have HB := hide (HB.out.trans (hb.mono HB.out.size)); clear hb))
            go_ret
            exact ⟨rfl, HB.out⟩
      · have e1' : (f1.toList == f2.toList) = false := by rw [beq_eq_false_iff_ne]; intro h; rw [ByteArray.toList_eq, ByteArray.toList_eq] at h; exact e1 (bytes_ext h)
        have hf := (hfile.out (fun h => e1 (bytes_ext h))).symm
        have HF := hide hf
        obtain ⟨b0, b1, b2, b3, b4, blt⟩ := HBB6.out
        clear hfile e1
        go_wp2_with fail
        go_region_with (first
          | (go_at_call 8; refine (mk8 _ _ _ _ _).mono ?_; rintro e wN ⟨rfl, hb⟩; replace hb := undrew hb; obtain ⟨c0, c1, c2, c3, c4, clt⟩ := HBB6.out.below hb HBB6.out.lt; have HB := hide (HB.out.trans (hb.mono HB.out.size)); clear hb)
          | (go_at_call 9; refine (cmp9 _ _ _ _ _ _ _ _ _).mono ?_; rintro e wM ⟨rfl, hb⟩; have HB := hide (HB.out.trans (hb.mono HB.out.size)); clear hb))
        all_goals
          clear c0 c1 c2 c3 c4 clt b0 b1 b2 b3 b4 blt HBB6
          obtain hl | hl | hl := HL.out
          · have g1 : (l1 == l2) = false := by simp; omega
            have g2 : cF f3.data.toList l1 v2 f3.data.toList l2 v1 = -1 := by rw [hlin.out (by omega), if_pos hl]
            obtain hv | hv | hv := HV.out
            · have g3 : cF f3.data.toList l3 v1 f3.data.toList l3 v2 = 1 := by rw [hlev.out, if_neg (by omega), if_pos hv]
              go_wp2_with (first | (go_at_call 8; refine (mk8 _ _ _ _ _).mono ?_; rintro e wN ⟨rfl, hb⟩; have HB := hide (HB.out.trans (hb.mono HB.out.size)); clear hb) | (go_at_call 9; refine (cmp9 _ _ _ _ _ _ _ _ _).mono ?_; rintro e wN ⟨rfl, hb⟩; have HB := hide (HB.out.trans (hb.mono HB.out.size)); clear hb))
              go_ret
              exact ⟨rfl, HB.out⟩
            · have g3 : cF f3.data.toList l3 v1 f3.data.toList l3 v2 = 0 := by rw [hlev.out, if_neg (by omega), if_neg (by omega)]
              subst hv
              go_wp2_with (first | (go_at_call 8; refine (mk8 _ _ _ _ _).mono ?_; rintro e wN ⟨rfl, hb⟩; have HB := hide (HB.out.trans (hb.mono HB.out.size)); clear hb) | (go_at_call 9; refine (cmp9 _ _ _ _ _ _ _ _ _).mono ?_; rintro e wN ⟨rfl, hb⟩; have HB := hide (HB.out.trans (hb.mono HB.out.size)); clear hb))
              go_ret
              exact ⟨rfl, HB.out⟩
            · have g3 : cF f3.data.toList l3 v1 f3.data.toList l3 v2 = -1 := by rw [hlev.out, if_pos hv]
              go_wp2_with (first | (go_at_call 8; refine (mk8 _ _ _ _ _).mono ?_; rintro e wN ⟨rfl, hb⟩; have HB := hide (HB.out.trans (hb.mono HB.out.size)); clear hb) | (go_at_call 9; refine (cmp9 _ _ _ _ _ _ _ _ _).mono ?_; rintro e wN ⟨rfl, hb⟩; have HB := hide (HB.out.trans (hb.mono HB.out.size)); clear hb))
              go_ret
              exact ⟨rfl, HB.out⟩
          · subst hl
            obtain hv | hv | hv := HV.out
            · have g3 : cF f3.data.toList l3 v1 f3.data.toList l3 v2 = 1 := by rw [hlev.out, if_neg (by omega), if_pos hv]
              go_wp2_with (first | (go_at_call 8; refine (mk8 _ _ _ _ _).mono ?_; rintro e wN ⟨rfl, hb⟩; have HB := hide (HB.out.trans (hb.mono HB.out.size)); clear hb) | (go_at_call 9; refine (cmp9 _ _ _ _ _ _ _ _ _).mono ?_; rintro e wN ⟨rfl, hb⟩; have HB := hide (HB.out.trans (hb.mono HB.out.size)); clear hb))
              go_ret
              exact ⟨rfl, HB.out⟩
            · have g3 : cF f3.data.toList l3 v1 f3.data.toList l3 v2 = 0 := by rw [hlev.out, if_neg (by omega), if_neg (by omega)]
              subst hv
              go_wp2_with (first | (go_at_call 8; refine (mk8 _ _ _ _ _).mono ?_; rintro e wN ⟨rfl, hb⟩; have HB := hide (HB.out.trans (hb.mono HB.out.size)); clear hb) | (go_at_call 9; refine (cmp9 _ _ _ _ _ _ _ _ _).mono ?_; rintro e wN ⟨rfl, hb⟩; have HB := hide (HB.out.trans (hb.mono HB.out.size)); clear hb))
              go_ret
              exact ⟨rfl, HB.out⟩
            · have g3 : cF f3.data.toList l3 v1 f3.data.toList l3 v2 = -1 := by rw [hlev.out, if_pos hv]
              go_wp2_with (first | (go_at_call 8; refine (mk8 _ _ _ _ _).mono ?_; rintro e wN ⟨rfl, hb⟩; have HB := hide (HB.out.trans (hb.mono HB.out.size)); clear hb) | (go_at_call 9; refine (cmp9 _ _ _ _ _ _ _ _ _).mono ?_; rintro e wN ⟨rfl, hb⟩; have HB := hide (HB.out.trans (hb.mono HB.out.size)); clear hb))
              go_ret
              exact ⟨rfl, HB.out⟩
          · have g1 : (l1 == l2) = false := by simp; omega
            have g2 : cF f3.data.toList l1 v2 f3.data.toList l2 v1 = 1 := by rw [hlin.out (by omega), if_neg (by omega)]
            obtain hv | hv | hv := HV.out
            · have g3 : cF f3.data.toList l3 v1 f3.data.toList l3 v2 = 1 := by rw [hlev.out, if_neg (by omega), if_pos hv]
              go_wp2_with (first | (go_at_call 8; refine (mk8 _ _ _ _ _).mono ?_; rintro e wN ⟨rfl, hb⟩; have HB := hide (HB.out.trans (hb.mono HB.out.size)); clear hb) | (go_at_call 9; refine (cmp9 _ _ _ _ _ _ _ _ _).mono ?_; rintro e wN ⟨rfl, hb⟩; have HB := hide (HB.out.trans (hb.mono HB.out.size)); clear hb))
              go_ret
              exact ⟨rfl, HB.out⟩
            · have g3 : cF f3.data.toList l3 v1 f3.data.toList l3 v2 = 0 := by rw [hlev.out, if_neg (by omega), if_neg (by omega)]
              subst hv
              go_wp2_with (first | (go_at_call 8; refine (mk8 _ _ _ _ _).mono ?_; rintro e wN ⟨rfl, hb⟩; have HB := hide (HB.out.trans (hb.mono HB.out.size)); clear hb) | (go_at_call 9; refine (cmp9 _ _ _ _ _ _ _ _ _).mono ?_; rintro e wN ⟨rfl, hb⟩; have HB := hide (HB.out.trans (hb.mono HB.out.size)); clear hb))
              go_ret
              exact ⟨rfl, HB.out⟩
            · have g3 : cF f3.data.toList l3 v1 f3.data.toList l3 v2 = -1 := by rw [hlev.out, if_pos hv]
              go_wp2_with (first | (go_at_call 8; refine (mk8 _ _ _ _ _).mono ?_; rintro e wN ⟨rfl, hb⟩; have HB := hide (HB.out.trans (hb.mono HB.out.size)); clear hb) | (go_at_call 9; refine (cmp9 _ _ _ _ _ _ _ _ _).mono ?_; rintro e wN ⟨rfl, hb⟩; have HB := hide (HB.out.trans (hb.mono HB.out.size)); clear hb))
              go_ret
              exact ⟨rfl, HB.out⟩
end Go.Proofs.Qxb6612981a
