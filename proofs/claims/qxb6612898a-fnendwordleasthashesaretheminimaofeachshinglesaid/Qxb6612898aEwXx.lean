/-
  WALKS (EndWord): XXH64 of a slice of bytes, as a function of the bytes.
-/
import Derived.Test.Qxb6612898aEwLeaf
import Derived.Deep.RegionHeld3
namespace Go.Proofs.Qxb6612898a.EW
open Go.RowKit
/-- A slice of bytes reads as the list l. -/
def Bs (w : World) (a : Option Addr) (l : List Int) : Prop :=
  l = [] ∨ ∃ b off, a = some ⟨b, off, none⟩ ∧ b < w.heap.size ∧ ∀ i, i < l.length → w.cell? ⟨b, off + i, none⟩ = some (.int .u8 (l.getD i 0))
theorem Bs.below {w w1 : World} {a : Option Addr} {l : List Int} (h : Bs w a l) (hb : Below w.heap.size w w1) : Bs w1 a l := by
  rcases h with h | ⟨b, off, ha, hlt, hc⟩
  · exact .inl h
  · exact .inr ⟨b, off, ha, Nat.lt_of_lt_of_le hlt hb.size, fun i hi => (hb.cell (p := ⟨b, off + i, none⟩) hlt).trans (hc i hi)⟩

/-- From place p on, m bytes of l. -/
def Bt (w : World) (a : Option Addr) (l : List Int) (p m : Nat) : Prop :=
  m = 0 ∨ ∃ b off, a = some ⟨b, off, none⟩ ∧ b < w.heap.size ∧ ∀ i, i < m → w.cell? ⟨b, off + i, none⟩ = some (.int .u8 (l.getD (p + i) 0))
theorem Bt.below {w w1 : World} {a : Option Addr} {l : List Int} {p m : Nat} (h : Bt w a l p m) (hb : Below w.heap.size w w1) : Bt w1 a l p m := by
  rcases h with h | ⟨b, off, ha, hlt, hc⟩
  · exact .inl h
  · exact .inr ⟨b, off, ha, Nat.lt_of_lt_of_le hlt hb.size, fun i hi => (hb.cell (p := ⟨b, off + i, none⟩) hlt).trans (hc i hi)⟩
theorem Bs.bt {w : World} {a : Option Addr} {l : List Int} (h : Bs w a l) : Bt w a l 0 l.length := by
  rcases h with h | ⟨b, off, ha, hlt, hc⟩
  · exact .inl (by rw [h]; rfl)
  · exact .inr ⟨b, off, ha, hlt, fun i hi => by rw [Nat.zero_add]; exact hc i hi⟩
/-- The address behind a cut at s: where the cut stands at the capacity's end the address stays. -/
theorem Bt.cut {w : World} {b off : Nat} {l : List Int} {p m s : Nat} {A : Option Addr} (h : Bt w (some ⟨b, off, none⟩) l p m) (hs : s ≤ m) (hA : s < m → A = some ⟨b, off + s, none⟩) : Bt w A l (p + s) (m - s) := by
  by_cases e : s < m
  · rw [hA e]
    rcases h with h | ⟨b', off', ha, hlt, hc⟩
    · omega
    · simp at ha
      obtain ⟨rfl, rfl⟩ := ha
      refine .inr ⟨b, off + s, rfl, hlt, fun i hi => ?_⟩
      have := hc (s + i) (by omega)
      rw [← Nat.add_assoc, ← Nat.add_assoc] at this
      exact this
  · exact .inl (by omega)

theorem bcell {w w1 : World} {b off m s i p q : Nat} {l : List Int} (h : ∀ i, i < m → w.cell? ⟨b, off + i, none⟩ = some (.int .u8 (l.getD (p + i) 0))) (hb : b < w.heap.size) (hq : s + q ≤ m) (hB : Below w.heap.size w w1) (hi : i < q) :
    w1.cell? ⟨b, off + s + i, none⟩ = some (.int .u8 (l.getD (p + s + i) 0)) := by
  rw [(hB.cell (p := ⟨b, off + s + i, none⟩) hb), Nat.add_assoc, Nat.add_assoc]
  exact h (s + i) (by omega)
/-- The lane at place p. -/
def ln8 (l : List Int) (p : Nat) : Int := le8 fun j => l.getD (p + j) 0
/-- The four accumulators behind k blocks. -/
def vs (l : List Int) : Nat → Int × Int × Int × Int
  | 0 => (IntKind.u64.wrap 25430182151971714518, 14029467366897019727, 0, IntKind.u64.wrap (-11400714785074694791))
  | k + 1 => (rnd (vs l k).1 (ln8 l (32 * k)), rnd (vs l k).2.1 (ln8 l (32 * k + 8)), rnd (vs l k).2.2.1 (ln8 l (32 * k + 16)), rnd (vs l k).2.2.2 (ln8 l (32 * k + 24)))
def pick4 (q : Int × Int × Int × Int) : Nat → Int
  | 0 => q.1
  | 1 => q.2.1
  | 2 => q.2.2.1
  | _ => q.2.2.2
def mx (q : Int × Int × Int × Int) (a0 : Int) : Nat → Int
  | 0 => a0
  | j + 1 => IntKind.u64.wrap (IntKind.u64.wrap (bits .xor .u64 (mx q a0 j) (rnd 0 (pick4 q j)) * 11400714785074694791) + 9650029242287828579)
def sum4 (q : Int × Int × Int × Int) : Int := IntKind.u64.wrap (IntKind.u64.wrap (IntKind.u64.wrap (rotl 1 q.1 + rotl 7 q.2.1) + rotl 12 q.2.2.1) + rotl 18 q.2.2.2)
def t8 (l : List Int) (p : Nat) (a0 : Int) : Nat → Int
  | 0 => a0
  | j + 1 => IntKind.u64.wrap (IntKind.u64.wrap (rotl 27 (bits .xor .u64 (t8 l p a0 j) (rnd 0 (ln8 l (p + 8 * j)))) * 11400714785074694791) + 9650029242287828579)
def ln4 (l : List Int) (p : Nat) : Int := le4 fun j => l.getD (p + j) 0
def t4 (l : List Int) (p : Nat) (a : Int) : Int := IntKind.u64.wrap (IntKind.u64.wrap (rotl 23 (bits .xor .u64 a (IntKind.u64.wrap (IntKind.u64.wrap (ln4 l p) * 11400714785074694791))) * 14029467366897019727) + 1609587929392839161)
def t1 (l : List Int) (p : Nat) (a0 : Int) : Nat → Int
  | 0 => a0
  | j + 1 => IntKind.u64.wrap (rotl 11 (bits .xor .u64 (t1 l p a0 j) (IntKind.u64.wrap (IntKind.u64.wrap (l.getD (p + j) 0) * 2870177450012600261))) * 11400714785074694791)
/-- From the place p with the accumulator a on. -/
def fin (l : List Int) (p : Nat) (a : Int) : Int :=
  let j := (l.length - p) / 8
  let a2 := t8 l p a j
  let p2 := p + 8 * j
  if 4 ≤ l.length - p2 then av (t1 l (p2 + 4) (t4 l p2 a2) (l.length - (p2 + 4))) else av (t1 l p2 a2 (l.length - p2))
/-- XXH64. -/
def xx (l : List Int) : Int :=
  if 32 ≤ l.length then fin l (32 * (l.length / 32)) (IntKind.u64.wrap (mx (vs l (l.length / 32)) (sum4 (vs l (l.length / 32))) 4 + l.length)) else fin l 0 (2870177450012600261 + l.length)

theorem le35x (b off n c p : Nat) (l : List Int) (w : World) (hb : b < w.heap.size) (hn : 8 ≤ n) (hc : ∀ i, i < 8 → w.cell? ⟨b, off + i, none⟩ = some (.int .u8 (l.getD (p + i) 0))) :
    Calls Try.prog 35 #[.agg #[], .slice (some ⟨b, off, none⟩) n c] w fun e w' => e = .returned (.int .u64 (ln8 l p)) ∧ Below w.heap.size w w' :=
  le35 b off n c (fun j => l.getD (p + j) 0) w hb hn hc
theorem le37x (b off n c p : Nat) (l : List Int) (w : World) (hb : b < w.heap.size) (hn : 4 ≤ n) (hc : ∀ i, i < 4 → w.cell? ⟨b, off + i, none⟩ = some (.int .u8 (l.getD (p + i) 0))) :
    Calls Try.prog 37 #[.agg #[], .slice (some ⟨b, off, none⟩) n c] w fun e w' => e = .returned (.int .u32 (ln4 l p)) ∧ Below w.heap.size w w' :=
  le37 b off n c (fun j => l.getD (p + j) 0) w hb hn hc
theorem vs_succ (l : List Int) (k : Nat) : vs l (k + 1) = (rnd (vs l k).1 (ln8 l (32 * k)), rnd (vs l k).2.1 (ln8 l (32 * k + 8)), rnd (vs l k).2.2.1 (ln8 l (32 * k + 16)), rnd (vs l k).2.2.2 (ln8 l (32 * k + 24))) := rfl

def sliceLen : Value → Nat
  | .slice _ m _ => m
  | _ => 0

set_option maxHeartbeats 4000000 in
set_option maxRecDepth 100000 in
theorem xxh28 (a : Option Addr) (l : List Int) (n c : Nat) (w : World) (hl : n = l.length) (h : Bs w a l) (hn : n ≤ 1000000) (hc : n ≤ c) :
    Calls Try.prog 28 #[.slice a n c] w fun e w' => e = .returned (.int .u64 (xx l)) ∧ Below w.heap.size w w' := by
  have H := hide (show Bt w a l 0 n from by rw [hl]; exact h.bt)
  have HL := hide hl
  clear h hl
  by_cases h32 : 32 ≤ n
  · have i32 : (32 : Int) ≤ n := by omega
    have HX := hide (show xx l = fin l (32 * (n / 32)) (IntKind.u64.wrap (mx (vs l (n / 32)) (sum4 (vs l (n / 32))) 4 + n)) from by rw [HL.out]; unfold xx; rw [if_pos (by have := HL.out; omega)])
    go_enter Try.func28, Try.ntmps28
    go_wp2
    go_loopw [0, 6, 7, 8, 9] (fun b v1 v2 v3 v4 wr => ∃ (k : Nat) (A : Option Addr) (C m : Nat), m = n - 32 * k ∧ 32 * k ≤ n ∧ m ≤ C ∧ b = .slice A m C ∧ Hid (Bt wr A l (32 * k) m) ∧ v1 = .int .u64 (vs l k).1 ∧ v2 = .int .u64 (vs l k).2.1 ∧ v3 = .int .u64 (vs l k).2.2.1 ∧ v4 = .int .u64 (vs l k).2.2.2 ∧ Below w.heap.size w wr) (fun b _ _ _ _ _ => sliceLen b)
    case atStart => exact ⟨0, a, c, n, by omega, by omega, hc, rfl, H.out, rfl, rfl, rfl, rfl, Below.refl _ _⟩
    case round =>
      obtain ⟨k, A, C, m, hm, hk, hC, rfl, HB, rfl, rfl, rfl, rfl, hb⟩ := hrel
      have HW := hide hb
      clear hb
      have hmn : m ≤ n := by omega
      by_cases hge : 32 ≤ m
      · have hgI : (32 : Int) ≤ m := by omega
        obtain hx | ⟨b, off, rfl, hbl, hcs⟩ := HB.out
        · omega
        have HCS := hide hcs
        have HBL := hide hbl
        clear hcs hbl
        have f0 : (C = 0) = False := by simp; omega
        have f8 : (C = 8) = False := by simp; omega
        have f16 : (C = 16) = False := by simp; omega
        have f24 : (C = 24) = False := by simp; omega
        have g8 : (8 : Int) ≤ C := by omega
        have g16 : (16 : Int) ≤ C := by omega
        have g24 : (24 : Int) ≤ C := by omega
        have g32 : (32 : Int) ≤ C := by omega
        have f32 : (C = 32) = True ∨ (C = 32) = False := by by_cases h : C = 32 <;> simp [h]
        have HM := hide (And.intro hm (And.intro hk (And.intro hC hge)))
        clear hm hk hC hge
        rcases f32 with f32 | f32
        all_goals
          have B0 := hide (Below.refl wr.heap.size wr)
          go_wp2_with fail
          go_region_held3 (fun _ => True) (trivial)
            (first
            | (go_at_call 35; refine (le35x b off 8 _ (32 * k) l _ (by exact Nat.lt_of_lt_of_le HBL.out (below_trans B0.out (by repeat (first | exact Below.refl _ _ | apply Below.drew | refine Below.alloc ?_ (by simp) _))).size) (Nat.le_refl _) (by exact fun i hi => bcell (s := 0) (q := 8) HCS.out HBL.out (by have := HM.out.2.2.2; omega) (below_trans B0.out (by repeat (first | exact Below.refl _ _ | apply Below.drew | refine Below.alloc ?_ (by simp) _))) hi)).mono ?_; rintro e y1 ⟨rfl, hb2⟩
               have HBy1 := hide (show Below wr.heap.size wr y1 from below_trans B0.out (below_trans (by repeat (first | exact Below.refl _ _ | apply Below.drew | refine Below.alloc ?_ (by simp) _)) hb2))
               clear hb2)
            | (go_at_call 34; refine (rnd34 _ _ _).mono ?_; rintro e w' ⟨rfl, rfl⟩))
          go_wp2_with fail
          go_region_held3 (fun _ => True) (trivial)
            (first
            | (go_at_call 35; refine (le35x b (off + 8) 8 _ (32 * k + 8) l _ (by exact Nat.lt_of_lt_of_le HBL.out (below_trans HBy1.out (by repeat (first | exact Below.refl _ _ | apply Below.drew | refine Below.alloc ?_ (by simp) _))).size) (Nat.le_refl _) (by exact fun i hi => bcell (s := 8) (q := 8) HCS.out HBL.out (by have := HM.out.2.2.2; omega) (below_trans HBy1.out (by repeat (first | exact Below.refl _ _ | apply Below.drew | refine Below.alloc ?_ (by simp) _))) hi)).mono ?_; rintro e y2 ⟨rfl, hb2⟩
               have HBy2 := hide (show Below wr.heap.size wr y2 from below_trans HBy1.out (below_trans (by repeat (first | exact Below.refl _ _ | apply Below.drew | refine Below.alloc ?_ (by simp) _)) hb2))
               clear hb2)
            | (go_at_call 34; refine (rnd34 _ _ _).mono ?_; rintro e w' ⟨rfl, rfl⟩))
          go_wp2_with fail
          go_region_held3 (fun _ => True) (trivial)
            (first
            | (go_at_call 35; refine (le35x b (off + 16) 8 _ (32 * k + 16) l _ (by exact Nat.lt_of_lt_of_le HBL.out (below_trans HBy2.out (by repeat (first | exact Below.refl _ _ | apply Below.drew | refine Below.alloc ?_ (by simp) _))).size) (Nat.le_refl _) (by exact fun i hi => bcell (s := 16) (q := 8) HCS.out HBL.out (by have := HM.out.2.2.2; omega) (below_trans HBy2.out (by repeat (first | exact Below.refl _ _ | apply Below.drew | refine Below.alloc ?_ (by simp) _))) hi)).mono ?_; rintro e y3 ⟨rfl, hb2⟩
               have HBy3 := hide (show Below wr.heap.size wr y3 from below_trans HBy2.out (below_trans (by repeat (first | exact Below.refl _ _ | apply Below.drew | refine Below.alloc ?_ (by simp) _)) hb2))
               clear hb2)
            | (go_at_call 34; refine (rnd34 _ _ _).mono ?_; rintro e w' ⟨rfl, rfl⟩))
          go_wp2_with fail
          go_region_held3 (fun _ => True) (trivial)
            (first
            | (go_at_call 35; refine (le35x b (off + 24) 8 _ (32 * k + 24) l _ (by exact Nat.lt_of_lt_of_le HBL.out (below_trans HBy3.out (by repeat (first | exact Below.refl _ _ | apply Below.drew | refine Below.alloc ?_ (by simp) _))).size) (Nat.le_refl _) (by exact fun i hi => bcell (s := 24) (q := 8) HCS.out HBL.out (by have := HM.out.2.2.2; omega) (below_trans HBy3.out (by repeat (first | exact Below.refl _ _ | apply Below.drew | refine Below.alloc ?_ (by simp) _))) hi)).mono ?_; rintro e y4 ⟨rfl, hb2⟩
               have HBy4 := hide (show Below wr.heap.size wr y4 from below_trans HBy3.out (below_trans (by repeat (first | exact Below.refl _ _ | apply Below.drew | refine Below.alloc ?_ (by simp) _)) hb2))
               clear hb2)
            | (go_at_call 34; refine (rnd34 _ _ _).mono ?_; rintro e w' ⟨rfl, rfl⟩))
          go_wp2_with fail
          go_roundw
          case rel => exact ⟨k + 1, _, C - 32, m - 32, by have := HM.out; omega, by have := HM.out; omega, by have := HM.out; omega, rfl, by
            refine Bt.cut (s := 32) (Bt.below HB.out HBy4.out) (by have := HM.out; omega) (by intro h; first | rfl | exact absurd (of_eq_true f32) (by have := HM.out; omega)), rfl, rfl, rfl, rfl, below_trans HW.out HBy4.out⟩
          case measure => simp [sliceLen]; have := HM.out; omega
      · have ek : k = n / 32 := by omega
        have EK := hide ek
        have HM := hide (And.intro hm (And.intro hk hC))
        clear hm hk ek
        generalize hq : vs l k = q
        have HQ := hide hq
        clear hq
        obtain ⟨v1, v2, v3, v4⟩ := q
        simp only
        go_wp2_with fail
        refine (rot36_1 _ _).mono ?_
        rintro e w' ⟨rfl, rfl⟩
        go_wp2_with fail
        refine (rot36_7 _ _).mono ?_
        rintro e w' ⟨rfl, rfl⟩
        go_wp2_with fail
        refine (rot36_12 _ _).mono ?_
        rintro e w' ⟨rfl, rfl⟩
        go_wp2_with fail
        refine (rot36_18 _ _).mono ?_
        rintro e w' ⟨rfl, rfl⟩
        go_wp2_with fail
        go_loop [5, 75] (fun v i => ∃ j : Nat, j ≤ 4 ∧ i = .int .i64 j ∧ v = .int .u64 (mx (v1, v2, v3, v4) (sum4 (v1, v2, v3, v4)) j)) (fun _ i => 4 - (intOf i).toNat)
        case atStart => exact ⟨0, by omega, rfl, rfl⟩
        case round =>
          obtain ⟨j, hj, rfl, rfl⟩ := hrel
          by_cases hlt : j < 4
          · have hjj : j = 0 ∨ j = 1 ∨ j = 2 ∨ j = 3 := by omega
            clear hlt hj
            have x0 : ∀ w, (Instr.index 71 (.agg #[.int .u64 v1, .int .u64 v2, .int .u64 v3, .int .u64 v4]) (.int .i64 0)).run Try.prog w = .ok (.int .u64 v1) w := fun w => by kernel_rfl
            have x1 : ∀ w, (Instr.index 71 (.agg #[.int .u64 v1, .int .u64 v2, .int .u64 v3, .int .u64 v4]) (.int .i64 1)).run Try.prog w = .ok (.int .u64 v2) w := fun w => by kernel_rfl
            have x2 : ∀ w, (Instr.index 71 (.agg #[.int .u64 v1, .int .u64 v2, .int .u64 v3, .int .u64 v4]) (.int .i64 2)).run Try.prog w = .ok (.int .u64 v3) w := fun w => by kernel_rfl
            have x3 : ∀ w, (Instr.index 71 (.agg #[.int .u64 v1, .int .u64 v2, .int .u64 v3, .int .u64 v4]) (.int .i64 3)).run Try.prog w = .ok (.int .u64 v4) w := fun w => by kernel_rfl
            rcases hjj with rfl | rfl | rfl | rfl
            all_goals
              go_wp2_with fail
              refine (rnd34 _ _ _).mono ?_
              rintro e w' ⟨rfl, rfl⟩
              go_wp2_with fail
              go_round
              case rel => exact ⟨_, by decide, rfl, rfl⟩
              case measure => simp [intOf]
          · obtain rfl : j = 4 := by omega
            clear hlt hj
            have HFin := hide (show fin l (32 * k) (IntKind.u64.wrap (mx (v1, v2, v3, v4) (sum4 (v1, v2, v3, v4)) 4 + n)) = xx l from by rw [HX.out, ← HQ.out, EK.out])
            have HPM := hide (show 32 * k + m = l.length from by have := HM.out; have := HL.out; omega)
            have HMC := hide HM.out.2.2
            generalize 32 * k = P at HFin HPM HB
            generalize m = M at *
            generalize hac : IntKind.u64.wrap (mx (v1, v2, v3, v4) (sum4 (v1, v2, v3, v4)) 4 + n) = ac at HFin
            have HAC := hide hac
            clear hac
            go_wp2_with fail
            rw [HAC.out]
            have HBt := hide HB.out
            clear HM HB
            go_loopw [0, 5] (fun b v wr => ∃ (j : Nat) (A : Option Addr) (C m : Nat), m = M - 8 * j ∧ 8 * j ≤ M ∧ m ≤ C ∧ b = .slice A m C ∧ Hid (Bt wr A l (P + 8 * j) m) ∧ v = .int .u64 (t8 l P ac j) ∧ Below w.heap.size w wr) (fun b _ _ => sliceLen b)
            case atStart => exact ⟨0, _, _, M, by omega, by omega, HMC.out, rfl, HBt.out, rfl, HW.out⟩
            case round =>
              obtain ⟨j, A, C, m, hm, hk, hC, rfl, HB, rfl, hb⟩ := hrel
              have HW := hide hb
              clear hb
              have hmn : m ≤ 1000000 := by omega
              by_cases hge : 8 ≤ m
              · have hgI : (8 : Int) ≤ m := by omega
                obtain hx | ⟨b, off, rfl, hbl, hcs⟩ := HB.out
                · omega
                have HCS := hide hcs
                have HBL := hide hbl
                clear hcs hbl
                have g8 : (8 : Int) ≤ C := by omega
                have f8 : (C = 8) = True ∨ (C = 8) = False := by by_cases h : C = 8 <;> simp [h]
                have HM := hide (And.intro hm (And.intro hk (And.intro hC hge)))
                clear hm hk hC hge
                rcases f8 with f8 | f8
                all_goals
                  go_wp2_with fail
                  refine (le35x b off m _ (P + 8 * j) l _ HBL.out (by have := HM.out.2.2.2; omega) (fun i hi => bcell (s := 0) (q := 8) HCS.out HBL.out (by have := HM.out.2.2.2; omega) (Below.refl _ _) hi)).mono ?_
                  rintro e y1 ⟨rfl, hb⟩
                  have HY := hide hb
                  clear hb
                  go_wp2_with fail
                  refine (rnd34 _ _ _).mono ?_
                  rintro e w' ⟨rfl, rfl⟩
                  go_wp2_with fail
                  refine (rot36_27 _ _).mono ?_
                  rintro e w' ⟨rfl, rfl⟩
                  go_wp2_with fail
                  go_roundw
                  case rel => exact ⟨j + 1, _, C - 8, m - 8, by have := HM.out; omega, by have := HM.out; omega, by have := HM.out; omega, rfl, by
                    refine Bt.cut (s := 8) (Bt.below HB.out HY.out) (by have := HM.out; omega) (by intro h; first | rfl | exact absurd (of_eq_true f8) (by have := HM.out; omega)), rfl, below_trans HW.out HY.out⟩
                  case measure => simp [sliceLen]; have := HM.out; omega
              · have ej : j = M / 8 := by omega
                have EJ := hide ej
                have EM := hide hm
                have HC2 := hide hC
                clear hm hk ej
                have HF2 := hide (show (if 4 ≤ m then av (t1 l (P + 8 * j + 4) (t4 l (P + 8 * j) (t8 l P ac j)) (m - 4)) else av (t1 l (P + 8 * j) (t8 l P ac j) m)) = xx l from by
                  rw [← HFin.out, EJ.out]
                  unfold fin
                  have e1 := EM.out
                  have e2 := HPM.out
                  have e3 := EJ.out
                  simp only [show (l.length - P) = M by omega]
                  rw [show l.length - (P + 8 * (M / 8)) = m by omega, show l.length - (P + 8 * (M / 8) + 4) = m - 4 by omega])
                generalize hac2 : t8 l P ac j = ac2 at HF2 ⊢
                generalize hPQ : P + 8 * j = PQ at HF2 HB ⊢
                clear hac2 hPQ
                by_cases h4 : 4 ≤ m
                · have h4I : (4 : Int) ≤ m := by omega
                  obtain hx | ⟨b, off, rfl, hbl, hcs⟩ := HB.out
                  · omega
                  have HCS := hide hcs
                  have HBL := hide hbl
                  clear hcs hbl
                  have g4 : (4 : Int) ≤ C := by have := HC2.out; omega
                  have f4 : (C = 4) = True ∨ (C = 4) = False := by by_cases h : C = 4 <;> simp [h]
                  have H4 := hide h4
                  rcases f4 with f4 | f4
                  all_goals
                    go_wp2_with fail
                    refine (le37x b off m _ PQ l _ HBL.out (by have := H4.out; omega) (fun i hi => bcell (s := 0) (q := 4) HCS.out HBL.out (by have := H4.out; omega) (Below.refl _ _) hi)).mono ?_
                    rintro e y1 ⟨rfl, hb⟩
                    have HW9 := hide (below_trans HW.out hb)
                    have HZ := hide (Bt.cut (s := 4) (A := if C = 4 then some ⟨b, off, none⟩ else some ⟨b, off + 4, none⟩) (Bt.below HB.out hb) (by have := H4.out; omega) (by intro h; rw [if_neg (by have := HC2.out; omega)]))
                    have HF3 := hide (show av (t1 l (PQ + 4) (t4 l PQ ac2) (m - 4)) = xx l from by have h := HF2.out; rw [if_pos H4.out] at h; exact h)
                    clear hb HF2
                    simp only [f4, if_true, if_false] at HZ
                    go_wp2_with fail
                    refine (rot36_23 _ _).mono ?_
                    rintro e w' ⟨rfl, rfl⟩
                    change Hid (av (t1 l (PQ + 4) (IntKind.u64.wrap (IntKind.u64.wrap (rotl 23 (bits .xor .u64 ac2 (IntKind.u64.wrap (IntKind.u64.wrap (ln4 l PQ) * 11400714785074694791))) * 14029467366897019727) + 1609587929392839161)) (m - 4)) = xx l) at HF3
                    generalize hPZ : PQ + 4 = PZ at HZ HF3
                    clear hPZ
                    go_wp2_with fail
                    generalize hMZ : m - 4 = MZ at HZ HF3 ⊢
                    have hMZ' : MZ ≤ 1000000 := by omega
                    clear hMZ h4 h4I g4
                    generalize ha3 : IntKind.u64.wrap (IntKind.u64.wrap (rotl 23 (bits .xor .u64 ac2 (IntKind.u64.wrap (IntKind.u64.wrap (ln4 l PQ) * 11400714785074694791))) * 14029467366897019727) + 1609587929392839161) = a3 at HF3 ⊢
                    clear ha3
                    go_loop [5, 123] (fun v i => ∃ q : Nat, q ≤ MZ ∧ i = .int .i64 q ∧ v = .int .u64 (t1 l PZ a3 q)) (fun _ i => MZ - (intOf i).toNat)
                    case atStart => exact ⟨0, Nat.zero_le _, rfl, rfl⟩
                    case round =>
                      obtain ⟨q, hq, rfl, rfl⟩ := hrel
                      by_cases hlt : q < MZ
                      · obtain hx | ⟨b9, off9, hA9, hbl, hcs⟩ := HZ.out
                        · omega
                        have c0 := hcs q hlt
                        clear hcs hbl
                        have HT := hide (show t1 l PZ a3 (q + 1) = IntKind.u64.wrap (rotl 11 (bits .xor .u64 (t1 l PZ a3 q) (IntKind.u64.wrap (IntKind.u64.wrap (l.getD (PZ + q) 0) * 2870177450012600261))) * 11400714785074694791) from rfl)
                        generalize l.getD (PZ + q) 0 = x at c0 HT
                        simp only [Option.some.injEq, Addr.mk.injEq, and_true] at hA9
                        obtain ⟨rfl, rfl⟩ := hA9
                        go_wp2_with fail
                        refine (rot36_11 _ _).mono ?_
                        rintro e w' ⟨rfl, rfl⟩
                        go_wp2_with fail
                        go_round
                        case rel => exact ⟨q + 1, by omega, by go_num, by rw [HT.out]⟩
                        case measure => simp [intOf]; omega
                      · obtain rfl : q = MZ := by omega
                        go_wp2_with fail
                        refine (av30 _ _).mono ?_
                        rintro e w' ⟨rfl, rfl⟩
                        go_wp2_with fail
                        go_ret
                        exact ⟨ret_u64 HF3.out, HW9.out⟩
                · have HF3 := hide (show av (t1 l PQ ac2 m) = xx l from by have h := HF2.out; rw [if_neg h4] at h; exact h)
                  have HZ := hide HB.out
                  have HW9 := hide HW.out
                  clear HF2 HB
                  go_wp2_with fail
                  generalize PQ = PZ at HZ HF3
                  generalize m = MZ at *
                  generalize ac2 = a3 at *
                  go_loop [5, 123] (fun v i => ∃ q : Nat, q ≤ MZ ∧ i = .int .i64 q ∧ v = .int .u64 (t1 l PZ a3 q)) (fun _ i => MZ - (intOf i).toNat)
                  case atStart => exact ⟨0, Nat.zero_le _, rfl, rfl⟩
                  case round =>
                    obtain ⟨q, hq, rfl, rfl⟩ := hrel
                    by_cases hlt : q < MZ
                    · obtain hx | ⟨b9, off9, hA9, hbl, hcs⟩ := HZ.out
                      · omega
                      have c0 := hcs q hlt
                      clear hcs hbl
                      have HT := hide (show t1 l PZ a3 (q + 1) = IntKind.u64.wrap (rotl 11 (bits .xor .u64 (t1 l PZ a3 q) (IntKind.u64.wrap (IntKind.u64.wrap (l.getD (PZ + q) 0) * 2870177450012600261))) * 11400714785074694791) from rfl)
                      generalize l.getD (PZ + q) 0 = x at c0 HT
                      subst hA9
                      go_wp2_with fail
                      refine (rot36_11 _ _).mono ?_
                      rintro e w' ⟨rfl, rfl⟩
                      go_wp2_with fail
                      go_round
                      case rel => exact ⟨q + 1, by omega, by go_num, by rw [HT.out]⟩
                      case measure => simp [intOf]; omega
                    · obtain rfl : q = MZ := by omega
                      go_wp2_with fail
                      refine (av30 _ _).mono ?_
                      rintro e w' ⟨rfl, rfl⟩
                      go_wp2_with fail
                      go_ret
                      exact ⟨ret_u64 HF3.out, HW9.out⟩
  · have HFin := hide (show fin l 0 (2870177450012600261 + n) = xx l from by rw [HL.out]; unfold xx; rw [if_neg (by have := HL.out; omega)])
    have HPM := hide (show 0 + n = l.length from by have := HL.out; omega)
    have HMC := hide hc
    have HB := hide H.out
    have HW := hide (Below.refl w.heap.size w)
    have HM := hide True.intro
    generalize hP0 : (0 : Nat) = P at HB HFin HPM
    clear hP0 H HL
    generalize n = M at *
    generalize hac : (2870177450012600261 : Int) + M = ac at HFin
    have HAC := hide hac
    clear hac
    go_enter Try.func28, Try.ntmps28
    go_wp2_with fail
    rw [HAC.out]
    have HBt := hide HB.out
    clear HM HB
    go_loopw [0, 5] (fun b v wr => ∃ (j : Nat) (A : Option Addr) (C m : Nat), m = M - 8 * j ∧ 8 * j ≤ M ∧ m ≤ C ∧ b = .slice A m C ∧ Hid (Bt wr A l (P + 8 * j) m) ∧ v = .int .u64 (t8 l P ac j) ∧ Below w.heap.size w wr) (fun b _ _ => sliceLen b)
    case atStart => exact ⟨0, _, _, M, by omega, by omega, HMC.out, rfl, HBt.out, rfl, HW.out⟩
    case round =>
      obtain ⟨j, A, C, m, hm, hk, hC, rfl, HB, rfl, hb⟩ := hrel
      have HW := hide hb
      clear hb
      have hmn : m ≤ 1000000 := by omega
      by_cases hge : 8 ≤ m
      · have hgI : (8 : Int) ≤ m := by omega
        obtain hx | ⟨b, off, rfl, hbl, hcs⟩ := HB.out
        · omega
        have HCS := hide hcs
        have HBL := hide hbl
        clear hcs hbl
        have g8 : (8 : Int) ≤ C := by omega
        have f8 : (C = 8) = True ∨ (C = 8) = False := by by_cases h : C = 8 <;> simp [h]
        have HM := hide (And.intro hm (And.intro hk (And.intro hC hge)))
        clear hm hk hC hge
        rcases f8 with f8 | f8
        all_goals
          go_wp2_with fail
          refine (le35x b off m _ (P + 8 * j) l _ HBL.out (by have := HM.out.2.2.2; omega) (fun i hi => bcell (s := 0) (q := 8) HCS.out HBL.out (by have := HM.out.2.2.2; omega) (Below.refl _ _) hi)).mono ?_
          rintro e y1 ⟨rfl, hb⟩
          have HY := hide hb
          clear hb
          go_wp2_with fail
          refine (rnd34 _ _ _).mono ?_
          rintro e w' ⟨rfl, rfl⟩
          go_wp2_with fail
          refine (rot36_27 _ _).mono ?_
          rintro e w' ⟨rfl, rfl⟩
          go_wp2_with fail
          go_roundw
          case rel => exact ⟨j + 1, _, C - 8, m - 8, by have := HM.out; omega, by have := HM.out; omega, by have := HM.out; omega, rfl, by
            refine Bt.cut (s := 8) (Bt.below HB.out HY.out) (by have := HM.out; omega) (by intro h; first | rfl | exact absurd (of_eq_true f8) (by have := HM.out; omega)), rfl, below_trans HW.out HY.out⟩
          case measure => simp [sliceLen]; have := HM.out; omega
      · have ej : j = M / 8 := by omega
        have EJ := hide ej
        have EM := hide hm
        have HC2 := hide hC
        clear hm hk ej
        have HF2 := hide (show (if 4 ≤ m then av (t1 l (P + 8 * j + 4) (t4 l (P + 8 * j) (t8 l P ac j)) (m - 4)) else av (t1 l (P + 8 * j) (t8 l P ac j) m)) = xx l from by
          rw [← HFin.out, EJ.out]
          unfold fin
          have e1 := EM.out
          have e2 := HPM.out
          have e3 := EJ.out
          simp only [show (l.length - P) = M by omega]
          rw [show l.length - (P + 8 * (M / 8)) = m by omega, show l.length - (P + 8 * (M / 8) + 4) = m - 4 by omega])
        generalize hac2 : t8 l P ac j = ac2 at HF2 ⊢
        generalize hPQ : P + 8 * j = PQ at HF2 HB ⊢
        clear hac2 hPQ
        by_cases h4 : 4 ≤ m
        · have h4I : (4 : Int) ≤ m := by omega
          obtain hx | ⟨b, off, rfl, hbl, hcs⟩ := HB.out
          · omega
          have HCS := hide hcs
          have HBL := hide hbl
          clear hcs hbl
          have g4 : (4 : Int) ≤ C := by have := HC2.out; omega
          have f4 : (C = 4) = True ∨ (C = 4) = False := by by_cases h : C = 4 <;> simp [h]
          have H4 := hide h4
          rcases f4 with f4 | f4
          all_goals
            go_wp2_with fail
            refine (le37x b off m _ PQ l _ HBL.out (by have := H4.out; omega) (fun i hi => bcell (s := 0) (q := 4) HCS.out HBL.out (by have := H4.out; omega) (Below.refl _ _) hi)).mono ?_
            rintro e y1 ⟨rfl, hb⟩
            have HW9 := hide (below_trans HW.out hb)
            have HZ := hide (Bt.cut (s := 4) (A := if C = 4 then some ⟨b, off, none⟩ else some ⟨b, off + 4, none⟩) (Bt.below HB.out hb) (by have := H4.out; omega) (by intro h; rw [if_neg (by have := HC2.out; omega)]))
            have HF3 := hide (show av (t1 l (PQ + 4) (t4 l PQ ac2) (m - 4)) = xx l from by have h := HF2.out; rw [if_pos H4.out] at h; exact h)
            clear hb HF2
            simp only [f4, if_true, if_false] at HZ
            go_wp2_with fail
            refine (rot36_23 _ _).mono ?_
            rintro e w' ⟨rfl, rfl⟩
            change Hid (av (t1 l (PQ + 4) (IntKind.u64.wrap (IntKind.u64.wrap (rotl 23 (bits .xor .u64 ac2 (IntKind.u64.wrap (IntKind.u64.wrap (ln4 l PQ) * 11400714785074694791))) * 14029467366897019727) + 1609587929392839161)) (m - 4)) = xx l) at HF3
            generalize hPZ : PQ + 4 = PZ at HZ HF3
            clear hPZ
            go_wp2_with fail
            generalize hMZ : m - 4 = MZ at HZ HF3 ⊢
            have hMZ' : MZ ≤ 1000000 := by omega
            clear hMZ h4 h4I g4
            generalize ha3 : IntKind.u64.wrap (IntKind.u64.wrap (rotl 23 (bits .xor .u64 ac2 (IntKind.u64.wrap (IntKind.u64.wrap (ln4 l PQ) * 11400714785074694791))) * 14029467366897019727) + 1609587929392839161) = a3 at HF3 ⊢
            clear ha3
            go_loop [5, 123] (fun v i => ∃ q : Nat, q ≤ MZ ∧ i = .int .i64 q ∧ v = .int .u64 (t1 l PZ a3 q)) (fun _ i => MZ - (intOf i).toNat)
            case atStart => exact ⟨0, Nat.zero_le _, rfl, rfl⟩
            case round =>
              obtain ⟨q, hq, rfl, rfl⟩ := hrel
              by_cases hlt : q < MZ
              · obtain hx | ⟨b9, off9, hA9, hbl, hcs⟩ := HZ.out
                · omega
                have c0 := hcs q hlt
                clear hcs hbl
                have HT := hide (show t1 l PZ a3 (q + 1) = IntKind.u64.wrap (rotl 11 (bits .xor .u64 (t1 l PZ a3 q) (IntKind.u64.wrap (IntKind.u64.wrap (l.getD (PZ + q) 0) * 2870177450012600261))) * 11400714785074694791) from rfl)
                generalize l.getD (PZ + q) 0 = x at c0 HT
                simp only [Option.some.injEq, Addr.mk.injEq, and_true] at hA9
                obtain ⟨rfl, rfl⟩ := hA9
                go_wp2_with fail
                refine (rot36_11 _ _).mono ?_
                rintro e w' ⟨rfl, rfl⟩
                go_wp2_with fail
                go_round
                case rel => exact ⟨q + 1, by omega, by go_num, by rw [HT.out]⟩
                case measure => simp [intOf]; omega
              · obtain rfl : q = MZ := by omega
                go_wp2_with fail
                refine (av30 _ _).mono ?_
                rintro e w' ⟨rfl, rfl⟩
                go_wp2_with fail
                go_ret
                exact ⟨ret_u64 HF3.out, HW9.out⟩
        · have HF3 := hide (show av (t1 l PQ ac2 m) = xx l from by have h := HF2.out; rw [if_neg h4] at h; exact h)
          have HZ := hide HB.out
          have HW9 := hide HW.out
          clear HF2 HB
          go_wp2_with fail
          generalize PQ = PZ at HZ HF3
          generalize m = MZ at *
          generalize ac2 = a3 at *
          go_loop [5, 123] (fun v i => ∃ q : Nat, q ≤ MZ ∧ i = .int .i64 q ∧ v = .int .u64 (t1 l PZ a3 q)) (fun _ i => MZ - (intOf i).toNat)
          case atStart => exact ⟨0, Nat.zero_le _, rfl, rfl⟩
          case round =>
            obtain ⟨q, hq, rfl, rfl⟩ := hrel
            by_cases hlt : q < MZ
            · obtain hx | ⟨b9, off9, hA9, hbl, hcs⟩ := HZ.out
              · omega
              have c0 := hcs q hlt
              clear hcs hbl
              have HT := hide (show t1 l PZ a3 (q + 1) = IntKind.u64.wrap (rotl 11 (bits .xor .u64 (t1 l PZ a3 q) (IntKind.u64.wrap (IntKind.u64.wrap (l.getD (PZ + q) 0) * 2870177450012600261))) * 11400714785074694791) from rfl)
              generalize l.getD (PZ + q) 0 = x at c0 HT
              subst hA9
              go_wp2_with fail
              refine (rot36_11 _ _).mono ?_
              rintro e w' ⟨rfl, rfl⟩
              go_wp2_with fail
              go_round
              case rel => exact ⟨q + 1, by omega, by go_num, by rw [HT.out]⟩
              case measure => simp [intOf]; omega
            · obtain rfl : q = MZ := by omega
              go_wp2_with fail
              refine (av30 _ _).mono ?_
              rintro e w' ⟨rfl, rfl⟩
              go_wp2_with fail
              go_ret
              exact ⟨ret_u64 HF3.out, HW9.out⟩
end Go.Proofs.Qxb6612898a.EW
