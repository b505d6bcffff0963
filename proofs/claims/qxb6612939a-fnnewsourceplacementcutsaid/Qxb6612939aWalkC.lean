/-
  WALKS (C): replicaNodes, zzFilter, NotTakenOver, AwaitingHandoff, stateOf.
-/
import Derived.Test.Qxb6612939aWalkB
namespace Go.Proofs.Qxb6612939a
open Go.RowKit

set_option maxHeartbeats 1000000 in
theorem nodes31 (a : Option Addr) (n c : Nat) (nd fr re th : Nat → ByteArray) (w : World) (h : Reps w a n nd fr re th) (hn : n ≤ 65536) :
    Calls Try.prog 31 #[.slice a n c] w fun e w' => (∃ a' c', e = .returned (.slice a' n c') ∧ (∀ k off, a' = some ⟨k, off, none⟩ → w.heap.size ≤ k) ∧ Strs w' a' ((List.range n).map nd)) ∧ Below w.heap.size w w' := by
  obtain ⟨i0, hi, hz0, hz1, hz2⟩ := info_parts info9
  have H := hide h
  clear h
  go_enter Try.func31, Try.ntmps31
  go_wp2
  go_loopw [3, 8] (fun v i wr => ∃ k : Nat, k ≤ n ∧ i = .int .i64 k ∧ wr.ownsRow w.heap.size 9 1 v k (((List.range k).map nd).map Value.string) ∧ Below w.heap.size w wr) (fun _ i _ => n - (intOf i).toNat)
  case atStart => exact ⟨0, Nat.zero_le _, rfl, World.ownsRow_nil _ _ _ _, Below.refl _ _⟩
  case round =>
    obtain ⟨k, hk, rfl, hown, hb⟩ := hrel
    have HO := hide hown
    have HB := hide hb
    clear hown hb
    by_cases hlt : k < n
    · obtain hx | ⟨b, off, rfl, hbl, hc⟩ := H.out
      · omega
      obtain ⟨c0, c1, c2, c3⟩ := hc k hlt
      replace c0 := (HB.out.cell (p := ⟨b, off + k * 4, none⟩) hbl).trans c0
      replace c1 := (HB.out.cell (p := ⟨b, off + k * 4 + 1, none⟩) hbl).trans c1
      replace c2 := (HB.out.cell (p := ⟨b, off + k * 4 + 2, none⟩) hbl).trans c2
      replace c3 := (HB.out.cell (p := ⟨b, off + k * 4 + 3, none⟩) hbl).trans c3
      clear hc
      go_wp2_with (at_builtin; refine wpList_append_own _ rfl _ _ 22 rfl w.heap.size 9 i0 (.string ByteArray.empty) 1 16 Try.underlying22 hi hz0 hz1 hz2 rfl (by decide) _ _ _ rfl ((HO.out.alloc _).alloc _) ⟨wr.heap.size + 1, 0, none⟩ 1 1 [.string (nd k)] rfl rfl ?qc1 ?qc2 ?qc3 ?qc4 ?qc5 ?_)
      case qc1 => intro j u hj; match j, hj with | 0, hj => simp at hj; subst hj; simp only [Addr.add]; go_simp
      case qc2 => intro u hu; simp at hu; subst hu; rfl
      case qc3 => unfold maxLen; omega
      case qc4 => omega
      case qc5 => have := HB.out.size; simp; omega
      intro v' w2 hown2 hgrow _
      have HO2 := hide hown2
      have HB2 := hide (app_below (HB.out.alloc HB.out.size _) (HO.out.alloc _) hgrow)
      clear hown2 hgrow HO HB
      go_wp2_with fail
      go_roundw
      case rel => exact ⟨k + 1, by omega, by go_num, by
        rw [List.range_succ, List.map_append, List.map_append, List.map_map]
        exact HO2.out, HB2.out⟩
      case measure => simp [intOf]; omega
    · obtain rfl : k = n := by omega
      obtain ⟨a', c', hv, hcap, hs⟩ := Strs.owned HO.out
      have HS := hide hs
      have HC := hide hcap.2
      clear hs HO hcap
      simp only [List.length_map, List.length_range] at hv
      subst hv
      go_wp2
      go_ret
      exact ⟨⟨_, _, rfl, HC.out, HS.out⟩, HB.out⟩

set_option maxHeartbeats 1000000 in
/-- zzFilter. -/
theorem filter13 (a a2 : Option Addr) (l l2 : List ByteArray) (c c2 : Nat) (inn : Bool) (w : World) (h : Strs w a l) (h2 : Strs w a2 l2) (hn : l.length ≤ 65536) (hn2 : l2.length ≤ 65536) :
    Calls Try.prog 13 #[.slice a l.length c, .slice a2 l2.length c2, .bool inn] w fun e w' => (∃ a' c', e = .returned (.slice a' (l.filter fun x => has l2 x == inn).length c') ∧ Strs w' a' (l.filter fun x => has l2 x == inn)) ∧ Below w.heap.size w w' := by
  obtain ⟨i0, hi, hz0, hz1, hz2⟩ := info_parts info9
  have H := hide h
  have H2 := hide h2
  clear h h2
  go_enter Try.func13, Try.ntmps13
  go_wp2
  go_loopw [7, 8] (fun v i wr => ∃ k : Nat, k ≤ l.length ∧ i = .int .i64 k ∧ wr.ownsRow w.heap.size 9 1 v ((l.take k).filter fun x => has l2 x == inn).length (((l.take k).filter fun x => has l2 x == inn).map Value.string) ∧ Below w.heap.size w wr) (fun _ i _ => l.length - (intOf i).toNat)
  case atStart => exact ⟨0, Nat.zero_le _, rfl, World.ownsRow_nil _ _ _ _, Below.refl _ _⟩
  case round =>
    obtain ⟨k, hk, rfl, hown, hb⟩ := hrel
    have HO := hide hown
    have HB := hide hb
    clear hown hb
    by_cases hlt : k < l.length
    · obtain hx | ⟨b, off, rfl, hbl, hc⟩ := H.out
      · subst hx; simp at hlt
      have c0 := (HB.out.cell (p := ⟨b, off + k, none⟩) hbl).trans (hc k hlt)
      have hts : l.take (k + 1) = l.take k ++ [l.getD k ByteArray.empty] := by
        rw [List.take_succ_eq_append_getElem hlt]; simp [List.getD_eq_getElem?_getD, List.getElem?_eq_getElem hlt]
      clear hc
      generalize l.getD k ByteArray.empty = x at c0 hts
      have HT := hide hts
      clear hts
      go_wp2_with fail
      refine (has9 a2 l2 c2 x _ (H2.out.below HB.out) hn2).mono ?_
      rintro e w1 ⟨rfl, rfl⟩
      cases hpx : (has l2 x == inn)
      · go_wp2_with fail
        go_roundw
        case rel => exact ⟨k + 1, by omega, by go_num, by
          rw [HT.out, List.filter_append]
          simp only [List.filter_cons, hpx, List.filter_nil, Bool.false_eq_true, if_false, List.append_nil]
          exact HO.out, HB.out⟩
        case measure => simp [intOf]; omega
      · have hlen : ((l.take k).filter fun x => has l2 x == inn).length ≤ 65536 := Nat.le_trans (List.length_filter_le _ _) (by rw [List.length_take]; omega)
        go_wp2_with (at_builtin; refine wpList_append_own _ rfl _ _ 22 rfl w.heap.size 9 i0 (.string ByteArray.empty) 1 16 Try.underlying22 hi hz0 hz1 hz2 rfl (by decide) _ _ _ rfl (HO.out.alloc _) ⟨wr.heap.size, 0, none⟩ 1 1 [.string x] rfl rfl (cell_one_new _ _ _) ?qc2 ?qc3 ?qc4 ?qc5 ?_)
        case qc2 => intro u hu; simp at hu; subst hu; rfl
        case qc3 => unfold maxLen; omega
        case qc4 => omega
        case qc5 => have := HB.out.size; simp; omega
        intro v' w2 hown2 hgrow _
        have HO2 := hide hown2
        have HB2 := hide (app_below HB.out HO.out hgrow)
        clear hown2 hgrow HO HB
        go_wp2_with fail
        go_roundw
        case rel => exact ⟨k + 1, by omega, by go_num, by
          rw [HT.out, List.filter_append]
          simp only [List.filter_cons, hpx, List.filter_nil, if_true, List.length_append, List.map_append, List.length_cons, List.length_nil, List.map_cons, List.map_nil]
          exact HO2.out, HB2.out⟩
        case measure => simp [intOf]; omega
    · have ht : l.take k = l := List.take_of_length_le (by omega)
      obtain ⟨a', c', hv, hcap, hs⟩ := Strs.owned HO.out
      rw [ht] at hv hs
      have HS := hide hs
      clear hs HO ht
      subst hv
      go_wp2
      go_ret
      exact ⟨⟨_, _, rfl, HS.out⟩, HB.out⟩

/-- Does some replica come from x? -/
def anyFr (n : Nat) (fr : Nat → ByteArray) (x : ByteArray) : Bool := (List.range n).any fun i => (fr i).toList == x.toList
theorem anyFr_succ (n : Nat) (fr : Nat → ByteArray) (x : ByteArray) : anyFr (n + 1) fr x = (anyFr n fr x || ((fr n).toList == x.toList)) := by
  unfold anyFr
  rw [List.range_succ, List.any_append]
  simp
theorem anyFr_at {n k : Nat} {fr : Nat → ByteArray} {x : ByteArray} (hk : k < n) (h : ((fr k).toList == x.toList) = true) : anyFr n fr x = true := by
  unfold anyFr
  rw [List.any_eq_true]
  exact ⟨k, List.mem_range.2 hk, h⟩

set_option maxHeartbeats 400000 in
theorem from38 (o0 o1 o2 o3 x : ByteArray) (br : Nat) (w : World) (hb : br < w.heap.size) (hc : w.cell? ⟨br, 0, none⟩ = some (.string x)) :
    Calls Try.prog 38 #[.agg #[.string o0, .string o1, .string o2, .string o3], .pointer (some ⟨br, 0, none⟩)] w fun e w' => e = .returned (.bool (o1.toList == x.toList)) ∧ Below w.heap.size w w' := by
  go_enter Try.func38, Try.ntmps38
  go_wp2
  go_ret
  exact ⟨rfl, (Below.refl _ _).alloc (Nat.le_refl _) _⟩

set_option maxHeartbeats 1000000 in
theorem index39 (a : Option Addr) (n c : Nat) (nd fr re th : Nat → ByteArray) (x : ByteArray) (br : Nat) (w : World) (h : Reps w a n nd fr re th) (hn : n ≤ 65536) (hb : br < w.heap.size) (hc : w.cell? ⟨br, 0, none⟩ = some (.string x)) :
    Calls Try.prog 39 #[.slice a n c, .func (.func 38) #[] #[.pointer (some ⟨br, 0, none⟩)]] w fun e w' => (∃ r : Int, e = .returned (.int .i64 r) ∧ decide (0 ≤ r) = anyFr n fr x) ∧ Below w.heap.size w w' := by
  have H := hide h
  have HC := hide hc
  clear h hc
  go_enter Try.func39, Try.ntmps39
  go_wp2
  go_loopw [8] (fun i wr => ∃ k : Nat, k ≤ n ∧ i = .int .i64 k ∧ Hid (anyFr k fr x = false) ∧ Below w.heap.size w wr) (fun i _ => n - (intOf i).toNat)
  case atStart => exact ⟨0, Nat.zero_le _, rfl, rfl, Below.refl _ _⟩
  case round =>
    obtain ⟨k, hk, rfl, HK, hbw⟩ := hrel
    have HB := hide hbw
    clear hbw
    by_cases hlt : k < n
    · obtain hx | ⟨b, off, rfl, hbl, hcs⟩ := H.out
      · omega
      obtain ⟨c0, c1, c2, c3⟩ := hcs k hlt
      replace c0 := (HB.out.cell (p := ⟨b, off + k * 4, none⟩) hbl).trans c0
      replace c1 := (HB.out.cell (p := ⟨b, off + k * 4 + 1, none⟩) hbl).trans c1
      replace c2 := (HB.out.cell (p := ⟨b, off + k * 4 + 2, none⟩) hbl).trans c2
      replace c3 := (HB.out.cell (p := ⟨b, off + k * 4 + 3, none⟩) hbl).trans c3
      clear hcs
      go_wp2_with fail
      refine (from38 (nd k) (fr k) (re k) (th k) x br _ (Nat.lt_of_lt_of_le hb HB.out.size) ((HB.out.cell (p := ⟨br, 0, none⟩) hb).trans HC.out)).mono ?_
      rintro e w1 ⟨rfl, hb1⟩
      have HB1 := hide (below_trans HB.out hb1)
      clear hb1 HB c0 c1 c2 c3
      cases e : ((fr k).toList == x.toList)
      · go_wp2_with fail
        go_roundw
        case rel => exact ⟨k + 1, by omega, by go_num, by show _ = false; rw [anyFr_succ, HK.out, e]; rfl, HB1.out⟩
        case measure => simp [intOf]; omega
      · go_wp2_with fail
        go_ret
        exact ⟨⟨_, rfl, by rw [anyFr_at hlt e]; simp⟩, HB1.out⟩
    · obtain rfl : k = n := by omega
      go_wp2
      go_ret
      exact ⟨⟨_, rfl, by rw [HK.out]; rfl⟩, HB.out⟩

set_option maxHeartbeats 400000 in
theorem cont37 (a : Option Addr) (n c : Nat) (nd fr re th : Nat → ByteArray) (x : ByteArray) (br : Nat) (w : World) (h : Reps w a n nd fr re th) (hn : n ≤ 65536) (hb : br < w.heap.size) (hc : w.cell? ⟨br, 0, none⟩ = some (.string x)) :
    Calls Try.prog 37 #[.slice a n c, .func (.func 38) #[] #[.pointer (some ⟨br, 0, none⟩)]] w fun e w' => e = .returned (.bool (anyFr n fr x)) ∧ Below w.heap.size w w' := by
  have H := hide h
  have HC := hide hc
  clear h hc
  go_enter Try.func37, Try.ntmps37
  go_wp2_with fail
  refine (index39 a n c nd fr re th x br _ H.out hn hb HC.out).mono ?_
  rintro e w1 ⟨⟨r, rfl, hr⟩, hb1⟩
  have HR := hide hr
  have HB := hide hb1
  clear hr hb1
  go_wp2_with fail
  go_ret
  exact ⟨ret_bool HR.out, HB.out⟩

/-- Of the replicas' indices those whose node is frozen and not taken over. -/
def unt (fz : ByteArray → Bool) (n : Nat) (nd fr : Nat → ByteArray) (i : Nat) : Bool := fz (nd i) && !anyFr n fr (nd i)

set_option maxHeartbeats 1000000 in
theorem taken36 (a : Option Addr) (n c : Nat) (nd fr re th : Nat → ByteArray) (g : Nat) (caps : Array Value) (fz : ByteArray → Bool) (w : World) (h : Reps w a n nd fr re th) (hn : n ≤ 65536) (hp : Pred w g caps fz) :
    Calls Try.prog 36 #[.slice a n c, .func (.func g) #[] caps] w fun e w' => (∃ a' c', e = .returned (.slice a' (keptI (unt fz n nd fr) nd n).length c') ∧ (keptI (unt fz n nd fr) nd n).length ≤ c') ∧ Below w.heap.size w w' := by
  obtain ⟨i0, hi, hz0, hz1, hz2⟩ := info_parts info9
  have H := hide h
  have HP := hide hp
  have he : ∀ args w, (callFunc g args).run Try.prog w = .ok (.enter g args) w := hp.1
  clear h hp
  go_enter Try.func36, Try.ntmps36
  go_wp2
  go_loopw [5, 10] (fun v i wr => ∃ k : Nat, k ≤ n ∧ i = .int .i64 k ∧ wr.ownsRow w.heap.size 9 1 v (keptI (unt fz n nd fr) nd k).length ((keptI (unt fz n nd fr) nd k).map Value.string) ∧ Below w.heap.size w wr) (fun _ i _ => n - (intOf i).toNat)
  case atStart => exact ⟨0, Nat.zero_le _, rfl, World.ownsRow_nil _ _ _ _, Below.refl _ _⟩
  case round =>
    obtain ⟨k, hk, rfl, hown, hb⟩ := hrel
    have HO := hide hown
    have HB := hide hb
    clear hown hb
    by_cases hlt : k < n
    · obtain hx | ⟨b, off, rfl, hbl, hc⟩ := H.out
      · omega
      obtain ⟨c0, c1, c2, c3⟩ := hc k hlt
      replace c0 := (HB.out.cell (p := ⟨b, off + k * 4, none⟩) hbl).trans c0
      replace c1 := (HB.out.cell (p := ⟨b, off + k * 4 + 1, none⟩) hbl).trans c1
      replace c2 := (HB.out.cell (p := ⟨b, off + k * 4 + 2, none⟩) hbl).trans c2
      replace c3 := (HB.out.cell (p := ⟨b, off + k * 4 + 3, none⟩) hbl).trans c3
      clear hc
      have HBa := hide (HB.out.alloc HB.out.size (.cells #[.string (nd k), .string (fr k), .string (re k), .string (th k)] 47))
      have HOa := hide (HO.out.alloc (.cells #[.string (nd k), .string (fr k), .string (re k), .string (th k)] 47))
      clear HO
      go_wp2_with fail
      refine (HP.out.2 (nd k) _ HBa.out).mono ?_
      rintro e w1 ⟨rfl, hb1⟩
      have HB1 := hide (below_trans HBa.out hb1)
      have HO1 := hide (own_below HOa.out hb1)
      have hz : wr.heap.size < w1.heap.size := by have := hb1.size; simp at this; omega
      have d0 : w1.cell? ⟨wr.heap.size, 0, none⟩ = some (.string (nd k)) := (hb1.cell (p := ⟨wr.heap.size, 0, none⟩) (by simp)).trans (by go_simp)
      clear hb1 HBa HOa c0 c1 c2 c3
      cases hf : fz (nd k)
      · go_wp2_with fail
        go_roundw
        case rel => exact ⟨k + 1, by omega, by go_num, by
          rw [keptI_succ, show unt fz n nd fr k = false from by unfold unt; rw [hf]; rfl]
          simpa using HO1.out, HB1.out⟩
        case measure => simp [intOf]; omega
      · go_wp2_with fail
        refine (cont37 _ n c nd fr re th (nd k) wr.heap.size _ (H.out.below HB1.out) hn hz d0).mono ?_
        rintro e w2 ⟨rfl, hb2⟩
        have HB2 := hide (below_trans HB1.out hb2)
        have HO2 := hide (own_below HO1.out hb2)
        have d2 : w2.cell? ⟨wr.heap.size, 0, none⟩ = some (.string (nd k)) := (hb2.cell (p := ⟨wr.heap.size, 0, none⟩) hz).trans d0
        clear hb2 HB1 HO1 d0
        cases ha : anyFr n fr (nd k)
        · have hlen := keptI_len (unt fz n nd fr) nd k
          go_wp2_with (at_builtin; refine wpList_append_own _ rfl _ _ 22 rfl w.heap.size 9 i0 (.string ByteArray.empty) 1 16 Try.underlying22 hi hz0 hz1 hz2 rfl (by decide) _ _ _ rfl (HO2.out.alloc _) ⟨w2.heap.size, 0, none⟩ 1 1 [.string (nd k)] rfl rfl (cell_one_new _ _ _) ?qc2 ?qc3 ?qc4 ?qc5 ?_)
          case qc2 => intro u hu; simp at hu; subst hu; rfl
          case qc3 => unfold maxLen; omega
          case qc4 => omega
          case qc5 => have := HB2.out.size; simp; omega
          intro v' w3 hown3 hgrow _
          have HO3 := hide hown3
          have HB3 := hide (app_below HB2.out HO2.out hgrow)
          clear hown3 hgrow HO2 HB2
          go_wp2_with fail
          go_roundw
          case rel => exact ⟨k + 1, by omega, by go_num, by
            rw [keptI_succ, show unt fz n nd fr k = true from by unfold unt; rw [hf, ha]; rfl]
            simpa using HO3.out, HB3.out⟩
          case measure => simp [intOf]; omega
        · go_wp2_with fail
          go_roundw
          case rel => exact ⟨k + 1, by omega, by go_num, by
            rw [keptI_succ, show unt fz n nd fr k = false from by unfold unt; rw [hf, ha]; rfl]
            simpa using HO2.out, HB2.out⟩
          case measure => simp [intOf]; omega
    · obtain rfl : k = n := by omega
      obtain ⟨a', c', hv, hcap, hs⟩ := Strs.owned HO.out
      have HS := hide hcap.1
      clear hs HO hcap
      subst hv
      go_wp2
      go_ret
      exact ⟨⟨_, _, rfl, HS.out⟩, HB.out⟩

/-- How many of the first k replicas are not frozen. -/
def free (fz : ByteArray → Bool) (nd : Nat → ByteArray) (k : Nat) : Nat := ((List.range k).filter fun i => !fz (nd i)).length
theorem free_succ (fz : ByteArray → Bool) (nd : Nat → ByteArray) (k : Nat) : free fz nd (k + 1) = free fz nd k + if fz (nd k) then 0 else 1 := by
  unfold free
  rw [List.range_succ, List.filter_append, List.length_append]
  by_cases h : fz (nd k) <;> simp [h]
theorem free_le (fz : ByteArray → Bool) (nd : Nat → ByteArray) (k : Nat) : free fz nd k ≤ k := by
  unfold free
  exact Nat.le_trans (List.length_filter_le _ _) (by simp)

set_option maxHeartbeats 1000000 in
theorem await33 (a : Option Addr) (n c : Nat) (nd fr re th : Nat → ByteArray) (asked : Int) (g : Nat) (caps : Array Value) (fz : ByteArray → Bool) (w : World) (h : Reps w a n nd fr re th) (hn : n ≤ 65536) (hp : Pred w g caps fz)
    (h1 : -1073741824 ≤ asked) (h2 : asked ≤ 9223372036854775807) :
    Calls Try.prog 33 #[.slice a n c, .int .i64 asked, .func (.func g) #[] caps] w fun e w' => (∃ m : Nat, (∃ a' c', e = .returned (.slice a' m c')) ∧ m ≤ n ∧ (0 < m ↔ (free fz nd n : Int) < asked ∧ 0 < (keptI (unt fz n nd fr) nd n).length)) ∧ Below w.heap.size w w' := by
  have H := hide h
  have HP := hide hp
  have he : ∀ args w, (callFunc g args).run Try.prog w = .ok (.enter g args) w := hp.1
  clear h hp
  go_enter Try.func33, Try.ntmps33
  go_wp2
  go_loopw [7, 14] (fun z i wr => ∃ k : Nat, k ≤ n ∧ i = .int .i64 k ∧ z = .int .i64 (asked - free fz nd k) ∧ Below w.heap.size w wr) (fun _ i _ => n - (intOf i).toNat)
  case atStart => exact ⟨0, Nat.zero_le _, rfl, by simp [free], Below.refl _ _⟩
  case round =>
    obtain ⟨k, hk, rfl, rfl, hb⟩ := hrel
    have HB := hide hb
    clear hb
    have hfl := free_le fz nd k
    by_cases hlt : k < n
    · obtain hx | ⟨b, off, rfl, hbl, hc⟩ := H.out
      · omega
      obtain ⟨c0, c1, c2, c3⟩ := hc k hlt
      replace c0 := (HB.out.cell (p := ⟨b, off + k * 4, none⟩) hbl).trans c0
      replace c1 := (HB.out.cell (p := ⟨b, off + k * 4 + 1, none⟩) hbl).trans c1
      replace c2 := (HB.out.cell (p := ⟨b, off + k * 4 + 2, none⟩) hbl).trans c2
      replace c3 := (HB.out.cell (p := ⟨b, off + k * 4 + 3, none⟩) hbl).trans c3
      clear hc
      have HBa := hide (HB.out.alloc HB.out.size (.cells #[.string (nd k), .string (fr k), .string (re k), .string (th k)] 47))
      go_wp2_with fail
      refine (HP.out.2 (nd k) _ HBa.out).mono ?_
      rintro e w1 ⟨rfl, hb1⟩
      have HB1 := hide (below_trans HBa.out hb1)
      clear hb1 HBa c0 c1 c2 c3
      have hfs := hide (free_succ fz nd k)
      generalize free fz nd k = m at hfl hfs ⊢
      cases hf : fz (nd k)
      · go_wp2_with fail
        go_roundw
        case rel => exact ⟨k + 1, by omega, by go_num, by
          have := hfs.out
          rw [hf] at this
          rw [this]
          simp; omega, HB1.out⟩
        case measure => simp [intOf]; omega
      · go_wp2_with fail
        go_roundw
        case rel => exact ⟨k + 1, by omega, by go_num, by
          have := hfs.out
          rw [hf] at this
          rw [this]
          simp, HB1.out⟩
        case measure => simp [intOf]; omega
    · obtain rfl : k = n := by omega
      go_wp2_with fail
      refine (taken36 a k c nd fr re th g caps fz _ (H.out.below HB.out) hn (HP.out.below HB.out)).mono ?_
      rintro e w1 ⟨⟨a', c', rfl, hs⟩, hb1⟩
      have HB1 := hide (below_trans HB.out hb1)
      clear hb1 HB
      have hlen := keptI_len (unt fz k nd fr) nd k
      generalize hu : (keptI (unt fz k nd fr) nd k).length = u at hlen hs ⊢
      generalize hm : free fz nd k = m at hfl ⊢
      have HU := hide hu
      have HM := hide hm
      clear hu hm
      by_cases q1 : asked - m ≤ 0
      · go_wp2_with fail
        all_goals
          go_ret
          exact ⟨⟨_, ⟨_, _, rfl⟩, by omega, by rw [HU.out, HM.out]; omega⟩, HB1.out⟩
      · by_cases q2 : asked - m ≤ u
        · go_wp2_with fail
          all_goals
            go_ret
            exact ⟨⟨_, ⟨_, _, rfl⟩, by omega, by rw [HU.out, HM.out]; omega⟩, HB1.out⟩
        · go_wp2_with fail
          all_goals
            go_ret
            exact ⟨⟨_, ⟨_, _, rfl⟩, by omega, by rw [HU.out, HM.out]; omega⟩, HB1.out⟩

/-- The state: 1 online, 2 under-replicated, 3 offline, 4 handoff pending. -/
def stt (held counted : Nat) (asked : Int) (served awaiting : Bool) : Int :=
  if held = 0 then 2 else if awaiting then 4 else if served then (if (counted : Int) < asked then 2 else 1) else 3

set_option maxHeartbeats 400000 in
theorem state34 (held counted : Nat) (asked : Int) (served awaiting : Bool) (w : World) :
    Calls Try.prog 34 #[.int .i64 held, .int .i64 counted, .int .i64 asked, .bool served, .bool awaiting] w fun e w' => e = .returned (.int .i64 (stt held counted asked served awaiting)) ∧ w = w' := by
  unfold stt
  by_cases h0 : held = 0
  · subst h0
    go_enter Try.func34, Try.ntmps34
    go_wp2
    go_ret
    exact ⟨rfl, rfl⟩
  · have h0' : ((held : Int) == 0) = false := by simp; omega
    rw [if_neg h0]
    clear h0
    cases awaiting
    · cases served
      · go_enter Try.func34, Try.ntmps34
        go_wp2
        go_ret
        exact ⟨rfl, rfl⟩
      · by_cases h1 : (counted : Int) < asked
        · simp only [Bool.false_eq_true, if_false, if_true, if_pos h1]
          go_enter Try.func34, Try.ntmps34
          go_wp2
          go_ret
          exact ⟨rfl, rfl⟩
        · simp only [Bool.false_eq_true, if_false, if_true, if_neg h1]
          go_enter Try.func34, Try.ntmps34
          go_wp2
          go_ret
          exact ⟨rfl, rfl⟩
    · go_enter Try.func34, Try.ntmps34
      go_wp2
      go_ret
      exact ⟨rfl, rfl⟩

end Go.Proofs.Qxb6612939a
