/-
  THE WALK OF FnSwapScriptMovesEachMatchWhereItsTrackSays (function 3).
-/
import Derived.Test.Qxb6612898aSwapWalks
import Derived.BigQuiet
import Derived.WalkSmall
import Derived.Deep.QuietTactic
import Derived.Deep.RegionWith
namespace Go.Proofs.Qxb6612898a
open Go.RowKit

theorem Ints.below {B : Nat} {w w1 : World} (hb : Below B w w1) (hB : w.heap.size ≤ B) {a : Option Addr} {n : Nat} {f : Nat → Int} (h : Ints w a n f) : Ints w1 a n f := by
  rcases h with h | ⟨b, off, ha, hlt, hc⟩
  · exact .inl h
  · exact .inr ⟨b, off, ha, Nat.lt_of_lt_of_le hlt hb.size, fun i hi => (hb.cell (p := ⟨b, off + i, none⟩) (Nat.lt_of_lt_of_le hlt hB)).trans (hc i hi)⟩

theorem Ints.congr {w : World} {a : Option Addr} {n : Nat} {f g : Nat → Int} (h : Ints w a n f) (e : ∀ i, i < n → f i = g i) : Ints w a n g := by
  rcases h with h | ⟨b, off, ha, hlt, hc⟩
  · exact .inl h
  · exact .inr ⟨b, off, ha, hlt, fun i hi => by rw [hc i hi, e i hi]⟩

theorem Pl.c (w : World) {b n : Nat} {f : Nat → Nat} (h : Pl w b n f) {i : Nat} (hi : i < n) : w.cell? ⟨b, i, none⟩ = some (.int .i64 (f i : Nat)) := World.rowIs.cell h hi
theorem Pl.set {w : World} {b n : Nat} {f : Nat → Nat} (h : Pl w b n f) (i x : Nat) : Pl (w.setCell ⟨b, i, none⟩ (.int .i64 (x : Nat))) b n (fun j => if j = i then x else f j) := by
  refine World.rowIs.congr (World.rowIs.set h _ _) fun k hk => ?_
  by_cases e : k = i
  · subst e; simp
  · simp [e]
theorem Pl.congr {w : World} {b n : Nat} {f g : Nat → Nat} (h : Pl w b n f) (e : ∀ k, k < n → f k = g k) : Pl w b n g :=
  World.rowIs.congr h fun k hk => by rw [e k hk]

/-- The world in the midst of the script. -/
structure St (w W : World) (bm bo bp n : Nat) (p d P D : Nat → Int) (pl : Nat → Nat) : Prop where
  m : Pr W bm n P D
  old : Pr W bo n p d
  pl : Pl W bp n pl
  bel : Below w.heap.size w W
  hm : w.heap.size ≤ bm
  ho : bm < bo
  hp : bo < bp

namespace St
variable {w W W' : World} {bm bo bp n : Nat} {p d P D : Nat → Int} {pl : Nat → Nat}
theorem put (h : St w W bm bo bp n p d P D pl) (i x : Nat) : St w (W.setCell ⟨bp, i, none⟩ (.int .i64 (x : Nat))) bm bo bp n p d P D (fun j => if j = i then x else pl j) :=
  have := h.hm; have := h.ho; have := h.hp
  ⟨World.rowIs.setOther h.m (by simp; omega) _, World.rowIs.setOther h.old (by simp; omega) _, h.pl.set i x, h.bel.setCell (by simp; omega) _, h.hm, h.ho, h.hp⟩
theorem places {pl' : Nat → Nat} (h : St w W bm bo bp n p d P D pl) (e : ∀ k, k < n → pl k = pl' k) : St w W bm bo bp n p d P D pl' :=
  ⟨h.m, h.old, h.pl.congr e, h.bel, h.hm, h.ho, h.hp⟩
theorem swap {P' D' : Nat → Int} (h : St w W bm bo bp n p d P D pl) (hm : Pr W' bm n P' D') (ho : Only bm W W') : St w W' bm bo bp n p d P' D' pl :=
  have := h.hm; have := h.ho; have := h.hp
  ⟨hm, ho.row (by omega) h.old, ho.row (by omega) h.pl, h.bel.trans (ho.below h.hm), h.hm, h.ho, h.hp⟩
theorem drew (h : St w W bm bo bp n p d P D pl) : St w W.drew bm bo bp n p d P D pl := ⟨h.m, h.old, h.pl, h.bel.drew, h.hm, h.ho, h.hp⟩
theorem drewN (h : St w W bm bo bp n p d P D pl) (k : Nat) : St w (W.drewN k) bm bo bp n p d P D pl := ⟨h.m, h.old, h.pl, below_drewN h.bel k, h.hm, h.ho, h.hp⟩
end St

theorem fill_lt (k n : Nat) : ∀ j, j < n → (if j = k then k else if j < k then j else 0) = if j < k + 1 then j else 0 := by
  intro j _
  by_cases h : j = k
  · subst h; simp
  · rw [if_neg h]
    by_cases h2 : j < k
    · rw [if_pos h2, if_pos (by omega)]
    · rw [if_neg h2, if_neg (by omega)]

theorem trk_lt_step (q : Nat → Nat) (t g k n x : Nat) (e : x = go (q t) (q (t + 1)) (trk q k g)) : ∀ j, j < n →
    (if j = k then x else if j < k then go (q t) (q (t + 1)) (trk q j g) else trk q j g) = if j < k + 1 then go (q t) (q (t + 1)) (trk q j g) else trk q j g := by
  intro j _
  by_cases h : j = k
  · subst h; rw [if_pos rfl, if_pos (by omega), e]
  · rw [if_neg h]
    by_cases h2 : j < k
    · rw [if_pos h2, if_pos (by omega)]
    · rw [if_neg h2, if_neg (by omega)]
theorem trk_lt_skip (q : Nat → Nat) (t g k n : Nat) (e : trk q k g = go (q t) (q (t + 1)) (trk q k g)) : ∀ j, j < n →
    (if j < k then go (q t) (q (t + 1)) (trk q j g) else trk q j g) = if j < k + 1 then go (q t) (q (t + 1)) (trk q j g) else trk q j g := by
  intro j _
  by_cases h : j = k
  · subst h; rw [if_neg (by omega), if_pos (by omega), ← e]
  · by_cases h2 : j < k
    · rw [if_pos h2, if_pos (by omega)]
    · rw [if_neg h2, if_neg (by omega)]

theorem st_start {w w1 w2 : World} {n : Nat} {p d : Nat → Int} (h1 : Pr w1 w.heap.size n p d) (b1 : Below w.heap.size w w1) (s1 : w1.heap.size = w.heap.size + 1)
    (h2 : Pr w2 w1.heap.size n p d) (b2 : Below w1.heap.size w1 w2) (s2 : w2.heap.size = w1.heap.size + 1) :
    St w (w2.alloc (.cells (madeCells #[.int .i64 0] n) 3)) w.heap.size w1.heap.size w2.heap.size n p d p d (fun _ => 0) :=
  ⟨World.rowIs.alloc (World.rowIs.of_block h1 (b2.block _ (by omega))) _, World.rowIs.alloc h2 _, World.rowIs_made _ _ _ _, (b1.trans (b2.mono (by omega))).alloc (by omega) _, Nat.le_refl _, by omega, by omega⟩

set_option maxRecDepth 100000 in
set_option maxHeartbeats 1000000 in
theorem walk3 (a0 a1 a2 : Option Addr) (n n2 k0 k1 k2 : Nat) (p d o : Nat → Int) (w : World) (h0 : Ints w a0 n p) (h1 : Ints w a1 n d) (h2 : Ints w a2 n2 o) (hn : n ≤ 4096) (hn2 : n2 ≤ 4096) :
    Calls Try.prog 3 #[.slice a0 n k0, .slice a1 n k1, .slice a2 n2 k2] w fun e w' => e = .returned (.bool true) ∧ Below w.heap.size w w' := by
  have H0 := hide h0
  have H1 := hide h1
  have H2 := hide h2
  clear h0 h1 h2
  have eN : ((n : Int) != (n : Int)) = false := by simp
  have hmk := run_make_row' (P := Try.prog) 22 3 (.int .i64 0) 8 Try.underlying22 Try.info3 rfl .i64 .i64 n (by omega) (by omega)
  go_enter Try.func3, Try.ntmps3
  go_wp2_with fail
  refine (bytes6 a0 a1 a2 n n n2 k0 k1 k2 _ (by unfold maxLen; omega) (by unfold maxLen; omega) (by unfold maxLen; omega)).mono ?_
  rintro e w' ⟨⟨r, rfl⟩, rfl⟩
  cases r
  · go_wp2_with fail
    go_ret
    exact ⟨rfl, Below.refl _ _⟩
  go_wp2_with fail
  go_loop [8] (fun i => ∃ k : Nat, k ≤ n2 ∧ i = .int .i64 k ∧ Hid (∀ j, j < k → 0 ≤ o j ∧ o j < n)) (fun i => n2 - (intOf i).toNat)
  case atStart => exact ⟨0, Nat.zero_le _, rfl, fun j hj => by omega⟩
  case round =>
    obtain ⟨t, ht, rfl, HO⟩ := hrel
    by_cases hlt : t < n2
    · obtain hx | ⟨b2, o2, rfl, hb2, hc2⟩ := H2.out
      · omega
      have g := hc2 t hlt
      clear hc2
      by_cases hneg : o t < 0
      · go_wp2_with fail
        go_ret
        exact ⟨rfl, Below.refl _ _⟩
      · by_cases hge : (n : Int) ≤ o t
        · go_wp2_with fail
          go_ret
          exact ⟨rfl, Below.refl _ _⟩
        · go_wp2_with fail
          go_round
          case rel => exact ⟨t + 1, by omega, by go_num, fun j hj => by
            by_cases e : j = t
            · subst e; omega
            · exact HO.out j (by omega)⟩
          case measure => simp [intOf]; omega
    · obtain rfl : n2 = t := by omega
      obtain ⟨q, HI⟩ : ∃ q : Nat → Nat, Hid (Ints w a2 n2 (fun j => ((q j : Nat) : Int)) ∧ ∀ j, j < n2 → q j < n) :=
        ⟨fun j => (o j).toNat, H2.out.congr (fun j hj => by have := HO.out j hj; dsimp only; omega), fun j hj => by have := HO.out j hj; dsimp only; omega⟩
      clear H2 HO hlt ht
      go_wp2_with fail
      refine (matches7 a0 a1 n k0 k1 p d _ H0.out H1.out hn).mono ?_
      rintro e w1 ⟨rfl, hP1, hB1, hS1⟩
      have HP1 := hide hP1
      have HB1 := hide hB1
      have HS1 := hide hS1
      clear hP1 hB1 hS1
      go_wp2_with fail
      refine (matches7 a0 a1 n k0 k1 p d _ (H0.out.below HB1.out (Nat.le_refl _)) (H1.out.below HB1.out (Nat.le_refl _)) hn).mono ?_
      rintro e w2 ⟨rfl, hP2, hB2, hS2⟩
      have HST := hide (st_start HP1.out HB1.out HS1.out hP2 hB2 hS2)
      clear hP2 hB2 hS2 HP1 HB1 HS1
      go_wp2_with fail
      generalize w2.alloc (.cells (madeCells #[.int .i64 0] n) 3) = W at HST ⊢
      generalize w1.heap.size = bo at HST ⊢
      generalize w2.heap.size = bp at HST ⊢
      clear H0 H1 hmk
      go_loopw [12] (fun i wr => ∃ k : Nat, k ≤ n ∧ i = .int .i64 k ∧ St w wr w.heap.size bo bp n p d p d (fun j => if j < k then j else 0)) (fun i _ => n - (intOf i).toNat)
      case atStart => exact ⟨0, Nat.zero_le _, rfl, HST.out.places fun k _ => rfl⟩
      case round =>
        obtain ⟨k, hk, rfl, hst⟩ := hrel
        by_cases hlt : k < n
        · have c0 := hst.pl.c _ hlt
          have f0 := World.rowIs.frozen hst.pl k
          have HS := hide hst
          clear hst
          go_wp2_with fail
          go_roundw
          case rel => exact ⟨k + 1, by omega, by go_num, (HS.out.put k k).places (fill_lt k n)⟩
          case measure => simp [intOf]; omega
        · have HS := hide (hst.places (pl' := fun j => j) (fun j hj => if_pos (by omega)))
          clear hst hk HST
          go_wp2_with fail
          generalize hwr : wr = W1 at HS ⊢
          clear hwr
          go_loopw [13] (fun i wr => ∃ t g : Nat, Hid (t = 2 * g) ∧ t ≤ n2 ∧ i = .int .i64 t ∧ St w wr w.heap.size bo bp n p d (fwd q p g) (fwd q d g) (fun k => trk q k g)) (fun i _ => n2 - (intOf i).toNat)
          case atStart => exact ⟨0, 0, rfl, Nat.zero_le _, rfl, HS.out⟩
          case round =>
            obtain ⟨t, g, HT, ht, rfl, hst⟩ := hrel
            have HS2 := hide hst
            clear hst HS
            by_cases hlt2 : t + 1 < n2
            · obtain hx | ⟨b2, o2, rfl, hb2, hc2⟩ := HI.out.1
              · omega
              have g0 := (HS2.out.bel.cell (p := ⟨b2, o2 + t, none⟩) hb2).trans (hc2 t (by omega))
              have g1 := (HS2.out.bel.cell (p := ⟨b2, o2 + (t + 1), none⟩) hb2).trans (hc2 (t + 1) (by omega))
              have q0 := HI.out.2 t (by omega)
              have q1 := HI.out.2 (t + 1) (by omega)
              clear hc2
              go_wp2_with fail
              refine (swap8 w.heap.size n n (q t) (q (t + 1)) _ _ _ HS2.out.m q0 q1).mono ?_
              rintro e w3 ⟨rfl, hm3, ho3⟩
              have HS3 := hide (HS2.out.swap hm3 ho3)
              clear hm3 ho3 HS2 g0 g1
              go_wp2_with fail
              go_loopw [16] (fun i wr => ∃ k : Nat, k ≤ n ∧ i = .int .i64 k ∧ St w wr w.heap.size bo bp n p d (swp (q t) (q (t + 1)) (fwd q p g)) (swp (q t) (q (t + 1)) (fwd q d g)) (fun j => if j < k then go (q t) (q (t + 1)) (trk q j g) else trk q j g)) (fun i _ => n - (intOf i).toNat)
              case atStart => exact ⟨0, Nat.zero_le _, rfl, HS3.out⟩
              case round =>
                obtain ⟨j, hj, rfl, hst⟩ := hrel
                have HS4 := hide hst
                clear hst HS3
                by_cases hjn : j < n
                · have c0 : wr.cell? ⟨bp, j, none⟩ = some (.int .i64 ((trk q j g : Nat) : Int)) := by rw [HS4.out.pl.c _ hjn, if_neg (by omega)]
                  have f0 := World.rowIs.frozen HS4.out.pl j
                  by_cases ha : trk q j g = q t
                  · have ha' : (((trk q j g : Nat) : Int) == ((q t : Nat) : Int)) = true := by simp [ha]
                    have HA := hide ha
                    clear ha
                    go_wp2_with fail
                    go_roundw
                    case rel => exact ⟨j + 1, by omega, by go_num, (HS4.out.put j (q (t + 1))).places (trk_lt_step q t g j n _ (by rw [go, if_pos HA.out]))⟩
                    case measure => simp [intOf]; omega
                  · have ha' : (((trk q j g : Nat) : Int) == ((q t : Nat) : Int)) = false := by simp; omega
                    by_cases hb : trk q j g = q (t + 1)
                    · have hb' : (((trk q j g : Nat) : Int) == ((q (t + 1) : Nat) : Int)) = true := by simp [hb]
                      have HA := hide ha
                      have HB := hide hb
                      clear ha hb
                      go_wp2_with fail
                      go_roundw
                      case rel => exact ⟨j + 1, by omega, by go_num, (HS4.out.put j (q t)).places (trk_lt_step q t g j n _ (by rw [go, if_neg HA.out, if_pos HB.out]))⟩
                      case measure => simp [intOf]; omega
                    · have hb' : (((trk q j g : Nat) : Int) == ((q (t + 1) : Nat) : Int)) = false := by simp; omega
                      have HA := hide ha
                      have HB := hide hb
                      clear ha hb
                      go_wp2_with fail
                      go_roundw
                      case rel => exact ⟨j + 1, by omega, by go_num, HS4.out.places (trk_lt_skip q t g j n (by rw [go, if_neg HA.out, if_neg HB.out]))⟩
                      case measure => simp [intOf]; omega
                · have HS5 := hide (HS4.out.places (pl' := fun j => go (q t) (q (t + 1)) (trk q j g)) (fun k hk => if_pos (by omega)))
                  clear HS4
                  go_wp2_with fail
                  go_roundw
                  case rel => exact ⟨t + 2, g + 1, by have := HT.out; show t + 2 = 2 * (g + 1); omega, by omega, by go_num, by
                    have e := HT.out
                    subst e
                    exact HS5.out⟩
                  case measure => simp [intOf]; omega
            · have hg : g = n2 / 2 := by have := HT.out; omega
              subst hg
              clear HT
              go_wp2_with fail
              go_loopw [17] (fun i wr => ∃ k : Nat, k ≤ n ∧ i = .int .i64 k ∧ St w wr w.heap.size bo bp n p d (fwd q p (n2 / 2)) (fwd q d (n2 / 2)) (fun k => trk q k (n2 / 2))) (fun i _ => n - (intOf i).toNat)
              case atStart => exact ⟨0, Nat.zero_le _, rfl, HS2.out⟩
              case round =>
                obtain ⟨j, hj, rfl, hst⟩ := hrel
                have HS4 := hide hst
                clear hst HS2
                by_cases hjn : j < n
                · have hx : trk q j (n2 / 2) < n := trk_lt q n j n2 HI.out.2 hjn _ (by omega)
                  have c0 := HS4.out.pl.c _ hjn
                  have c1 := HS4.out.m.c0 hx
                  have c2 := HS4.out.m.c1 hx
                  rw [fwd_trk] at c1 c2
                  have c3 := HS4.out.old.c0 hjn
                  have c4 := HS4.out.old.c1 hjn
                  generalize trk q j (n2 / 2) = x at hx c0 c1 c2
                  go_wp2_with fail
                  go_region
                  go_wp2_with fail
                  go_roundw
                  case rel => exact ⟨j + 1, by omega, by go_num, HS4.out.drew⟩
                  case measure => simp [intOf]; omega
                · go_wp2_with fail
                  go_loopw [19] (fun i wr => ∃ (z : Int) (g : Nat), Hid (z = 2 * g - 2) ∧ -2 ≤ z ∧ z + 1 < n2 ∧ i = .int .i64 z ∧ St w wr w.heap.size bo bp n p d (fwd q p g) (fwd q d g) (fun k => trk q k (n2 / 2))) (fun i _ => (intOf i + 2).toNat)
                  case atStart => exact ⟨_, n2 / 2, by show _ = _; omega, by omega, by omega, rfl, HS4.out⟩
                  case round =>
                    obtain ⟨z, g, HZ, hz1, hz2, rfl, hst⟩ := hrel
                    have HS5 := hide hst
                    clear hst HS4
                    by_cases hz : 0 ≤ z
                    · obtain ⟨t2, rfl⟩ := Int.eq_ofNat_of_zero_le hz
                      obtain hx | ⟨b2, o2, rfl, hb2, hc2⟩ := HI.out.1
                      · omega
                      have g0 := (HS5.out.bel.cell (p := ⟨b2, o2 + t2, none⟩) hb2).trans (hc2 t2 (by omega))
                      have g1 := (HS5.out.bel.cell (p := ⟨b2, o2 + (t2 + 1), none⟩) hb2).trans (hc2 (t2 + 1) (by omega))
                      have q0 := HI.out.2 t2 (by omega)
                      have q1 := HI.out.2 (t2 + 1) (by omega)
                      have b0 : (t2 : Int) < (n2 : Int) := by omega
                      have e0 : IntKind.i64.wrap ((t2 : Int) + 1) = (t2 : Int) + 1 := by rw [IntKind.wrap_i64]; omega
                      have e1 : ((t2 : Int) + 1).toNat = t2 + 1 := by omega
                      have e2 : ¬ ((t2 : Int) + 1 < 0) := by omega
                      clear hc2
                      go_wp2_with fail
                      go_region_with (go_at_call 8; refine (swap8 w.heap.size n n (q t2) (q (t2 + 1)) (fwd q p g) (fwd q d g) _ HS5.out.drew.m q0 q1).mono ?_; rintro e w3 ⟨rfl, hm3, ho3⟩)
                      all_goals
                        have HS6 := hide (HS5.out.drew.swap hm3 ho3)
                        clear hm3 ho3 HS5 g0 g1
                        go_wp2_with fail
                        go_roundw
                        case rel =>
                          obtain ⟨g', rfl⟩ : ∃ g', g = g' + 1 := ⟨g - 1, by have := HZ.out; omega⟩
                          have e := HZ.out
                          obtain rfl : t2 = 2 * g' := by omega
                          refine ⟨_, g', ?_, ?_, ?_, rfl, ?_⟩
                          · show _ = _; omega
                          · omega
                          · omega
                          · have h := HS6.out
                            rw [fwd_back, fwd_back] at h
                            exact h
                        case measure => simp [intOf]; omega
                    · have hg : g = 0 := by have := HZ.out; omega
                      subst hg
                      go_wp2_with fail
                      go_loopw [20] (fun i wr => ∃ k : Nat, k ≤ n ∧ i = .int .i64 k ∧ St w wr w.heap.size bo bp n p d p d (fun k => trk q k (n2 / 2))) (fun i _ => n - (intOf i).toNat)
                      case atStart => exact ⟨0, Nat.zero_le _, rfl, HS5.out⟩
                      case round =>
                        obtain ⟨i, hi, rfl, hst⟩ := hrel
                        have HS6 := hide hst
                        clear hst HS5
                        by_cases hin : i < n
                        · have c1 := HS6.out.m.c0 hin
                          have c2 := HS6.out.m.c1 hin
                          have c3 := HS6.out.old.c0 hin
                          have c4 := HS6.out.old.c1 hin
                          go_wp2_with fail
                          go_region
                          go_wp2_with fail
                          go_roundw
                          case rel => exact ⟨i + 1, by omega, by go_num, HS6.out.drew⟩
                          case measure => simp [intOf]; omega
                        · go_wp2_with fail
                          go_ret
                          exact ⟨rfl, HS6.out.bel⟩
set_option maxRecDepth 100000 in
set_option maxHeartbeats 1000000 in
theorem walk3_early (a0 a1 a2 : Option Addr) (n0 n1 n2 k0 k1 k2 : Nat) (w : World) (h0 : n0 ≤ maxLen) (h1 : n1 ≤ maxLen) (h2 : n2 ≤ maxLen) (hx : ¬ (n1 = n0 ∧ n0 ≤ 4096 ∧ n2 ≤ 4096)) :
    Calls Try.prog 3 #[.slice a0 n0 k0, .slice a1 n1 k1, .slice a2 n2 k2] w fun e w' => e = .returned (.bool true) ∧ Below w.heap.size w w' := by
  by_cases b0 : (4096 : Int) < n0
  · go_enter Try.func3, Try.ntmps3
    go_wp2_with fail
    refine (bytes6 a0 a1 a2 n0 n1 n2 k0 k1 k2 _ h0 h1 h2).mono ?_
    rintro e w' ⟨⟨r, rfl⟩, rfl⟩
    cases r
    all_goals
      go_wp2_with fail
      go_ret
      exact ⟨rfl, Below.refl _ _⟩
  · by_cases b1 : (4096 : Int) < n1
    · go_enter Try.func3, Try.ntmps3
      go_wp2_with fail
      refine (bytes6 a0 a1 a2 n0 n1 n2 k0 k1 k2 _ h0 h1 h2).mono ?_
      rintro e w' ⟨⟨r, rfl⟩, rfl⟩
      cases r
      all_goals
        go_wp2_with fail
        go_ret
        exact ⟨rfl, Below.refl _ _⟩
    · by_cases b2 : (4096 : Int) < n2
      · go_enter Try.func3, Try.ntmps3
        go_wp2_with fail
        refine (bytes6 a0 a1 a2 n0 n1 n2 k0 k1 k2 _ h0 h1 h2).mono ?_
        rintro e w' ⟨⟨r, rfl⟩, rfl⟩
        cases r
        all_goals
          go_wp2_with fail
          go_ret
          exact ⟨rfl, Below.refl _ _⟩
      · have b3 : ((n1 : Int) != (n0 : Int)) = true := by rw [bne_iff_ne]; omega
        go_enter Try.func3, Try.ntmps3
        go_wp2_with fail
        refine (bytes6 a0 a1 a2 n0 n1 n2 k0 k1 k2 _ h0 h1 h2).mono ?_
        rintro e w' ⟨⟨r, rfl⟩, rfl⟩
        cases r
        all_goals
          go_wp2_with fail
          go_ret
          exact ⟨rfl, Below.refl _ _⟩

end Go.Proofs.Qxb6612898a
