/-
  WALKS (I): zzSourceState.
-/
import Derived.Test.Qxb6612939aLaws
namespace Go.Proofs.Qxb6612939a
open Go.RowKit

/-- Of the list those that are not frozen. -/
def nfz (l : List ByteArray) (fz : ByteArray → Bool) : Nat := (l.filter fun s => !fz s).length
/-- Is one frozen and named by no From? -/
def untk (l : List ByteArray) (fz fr : ByteArray → Bool) : Bool := l.any fun s => fz s && !fr s
/-- zzSourceState as a function. -/
def srcState (l : List ByteArray) (fr lv fz : ByteArray → Bool) (asked : Int) : Int :=
  if l.length = 0 then 2 else if (nfz l fz : Int) < asked ∧ untk l fz fr = true then 4 else if srv l lv fz = 0 then 3 else if (srv l lv fz : Int) < asked then 2 else 1

theorem ret_int {a b : Int} (h : a = b) : Ending.returned (.int .i64 a) = .returned (.int .i64 b) := by rw [h]

theorem take_snoc (l : List ByteArray) (k : Nat) (hlt : k < l.length) : l.take (k + 1) = l.take k ++ [l.getD k ByteArray.empty] := by
  rw [List.take_succ_eq_append_getElem hlt]; simp [List.getD_eq_getElem?_getD, List.getElem?_eq_getElem hlt]

theorem nfz_snoc (l : List ByteArray) (x : ByteArray) (fz : ByteArray → Bool) : nfz (l ++ [x]) fz = nfz l fz + if fz x then 0 else 1 := by
  unfold nfz
  rw [List.filter_append, List.length_append]
  by_cases h : fz x <;> simp [h]
theorem srv_snoc (l : List ByteArray) (x : ByteArray) (lv fz : ByteArray → Bool) : srv (l ++ [x]) lv fz = srv l lv fz + if lv x && !fz x then 1 else 0 := by
  unfold srv
  rw [List.filter_append, List.length_append]
  by_cases h : lv x && !fz x <;> simp [h]
theorem untk_snoc (l : List ByteArray) (x : ByteArray) (fz fr : ByteArray → Bool) : untk (l ++ [x]) fz fr = (untk l fz fr || (fz x && !fr x)) := by
  unfold untk
  rw [List.any_append]
  simp

set_option maxHeartbeats 1000000 in
set_option maxRecDepth 100000 in
theorem state20 (an af av az : Option Addr) (ln lf lv lz : List ByteArray) (cn cf cv cz : Nat) (asked : Int) (w : World) (hn : Strs w an ln) (hf : Strs w af lf) (hv : Strs w av lv) (hz : Strs w az lz) (mn : ln.length ≤ 65536) (mf : lf.length ≤ 65536) (mv : lv.length ≤ 65536) (mz : lz.length ≤ 65536) :
    Calls Try.prog 20 #[.slice an ln.length cn, .slice af lf.length cf, .int .i64 asked, .slice av lv.length cv, .slice az lz.length cz] w fun e w' => e = .returned (.int .i64 (srcState ln (has lf) (has lv) (has lz) asked)) ∧ w = w' := by
  have Hn := hide hn
  have Hf := hide hf
  have Hv := hide hv
  have Hz := hide hz
  clear hn hf hv hz
  by_cases h0 : ln.length = 0
  · have h0' : ((ln.length : Int) == 0) = true := by simp [h0]
    have H0 := hide h0
    clear h0
    go_enter Try.func20, Try.ntmps20
    go_wp2_with fail
    go_ret
    exact ⟨ret_int (by unfold srcState; rw [if_pos H0.out]), rfl⟩
  have h0' : ((ln.length : Int) == 0) = false := by simp; exact fun h => h0 (by simp [h])
  have H0 := hide h0
  clear h0
  go_enter Try.func20, Try.ntmps20
  go_wp2_with fail
  go_loop [11, 12, 13, 14] (fun a b u i => ∃ k : Nat, k ≤ ln.length ∧ i = .int .i64 k ∧ a = .int .i64 (nfz (ln.take k) (has lz)) ∧ b = .int .i64 (srv (ln.take k) (has lv) (has lz)) ∧ u = .bool (untk (ln.take k) (has lz) (has lf))) (fun _ _ _ i => ln.length - (intOf i).toNat)
  case atStart => exact ⟨0, Nat.zero_le _, rfl, rfl, rfl, rfl⟩
  case round =>
    obtain ⟨k, hk, rfl, rfl, rfl, rfl⟩ := hrel
    have hsl : srv (ln.take k) (has lv) (has lz) ≤ 65536 := Nat.le_trans (List.length_filter_le _ _) (by rw [List.length_take]; omega)
    have hnl : nfz (ln.take k) (has lz) ≤ 65536 := Nat.le_trans (List.length_filter_le _ _) (by rw [List.length_take]; omega)
    by_cases hlt : k < ln.length
    · obtain hx | ⟨b, off, rfl, hb, hc⟩ := Hn.out
      · subst hx; simp at hlt
      have c0 := hc k hlt
      have hts := take_snoc ln k hlt
      clear hc
      generalize ln.getD k ByteArray.empty = x at c0 hts
      have T1 := hide (show nfz (ln.take (k + 1)) (has lz) = _ from by rw [hts, nfz_snoc])
      have T2 := hide (show srv (ln.take (k + 1)) (has lv) (has lz) = _ from by rw [hts, srv_snoc])
      have T3 := hide (show untk (ln.take (k + 1)) (has lz) (has lf) = _ from by rw [hts, untk_snoc])
      clear hts
      generalize nfz (ln.take k) (has lz) = m1 at T1 hnl ⊢
      generalize srv (ln.take k) (has lv) (has lz) = m2 at T2 hsl ⊢
      generalize untk (ln.take k) (has lz) (has lf) = u at T3 ⊢
      go_wp2_with fail
      refine (has9 az lz cz x _ Hz.out mz).mono ?_
      rintro e w' ⟨rfl, rfl⟩
      cases h1 : has lz x
      · go_wp2_with fail
        refine (has9 av lv cv x _ Hv.out mv).mono ?_
        rintro e w' ⟨rfl, rfl⟩
        cases h2 : has lv x
        · go_wp2_with fail
          go_round
          case rel => exact ⟨k + 1, by omega, by go_num, by rw [T1.out, h1]; simp, by rw [T2.out, h1, h2]; simp, by rw [T3.out, h1]; simp⟩
          case measure => simp [intOf]; omega
        · go_wp2_with fail
          go_round
          case rel => exact ⟨k + 1, by omega, by go_num, by rw [T1.out, h1]; simp, by rw [T2.out, h1, h2]; simp, by rw [T3.out, h1]; simp⟩
          case measure => simp [intOf]; omega
      · go_wp2_with fail
        refine (has9 af lf cf x _ Hf.out mf).mono ?_
        rintro e w' ⟨rfl, rfl⟩
        cases h2 : has lf x
        · go_wp2_with fail
          go_round
          case rel => exact ⟨k + 1, by omega, by go_num, by rw [T1.out, h1]; simp, by rw [T2.out, h1]; simp, by rw [T3.out, h1, h2]; simp⟩
          case measure => simp [intOf]; omega
        · go_wp2_with fail
          go_round
          case rel => exact ⟨k + 1, by omega, by go_num, by rw [T1.out, h1]; simp, by rw [T2.out, h1]; simp, by rw [T3.out, h1, h2]; simp⟩
          case measure => simp [intOf]; omega
    · have ht : ln.take k = ln := List.take_of_length_le (by omega)
      rw [ht] at hsl hnl ⊢
      have HE : Hid (∀ r, (if (nfz ln (has lz) : Int) < asked ∧ untk ln (has lz) (has lf) = true then (4 : Int) else if srv ln (has lv) (has lz) = 0 then 3 else if (srv ln (has lv) (has lz) : Int) < asked then 2 else 1) = r → srcState ln (has lf) (has lv) (has lz) asked = r) := fun r h => by
        unfold srcState; rw [if_neg H0.out]; exact h
      generalize nfz ln (has lz) = m1 at HE hnl ⊢
      generalize srv ln (has lv) (has lz) = m2 at HE hsl ⊢
      generalize untk ln (has lz) (has lf) = u at HE ⊢
      clear ht hk
      cases u
      · by_cases q2 : m2 = 0
        · have q2' : ((m2 : Int) == 0) = true := by simp [q2]
          have Q2 := hide q2
          clear q2
          by_cases q1 : (m1 : Int) < asked
          all_goals
            go_wp2_with fail
            go_ret
            exact ⟨ret_int (HE.out 3 (by simp [Q2.out])).symm, rfl⟩
        · have q2' : ((m2 : Int) == 0) = false := by simp; exact q2
          have Q2 := hide q2
          clear q2
          by_cases q3 : (m2 : Int) < asked
          · have Q3 := hide q3
            by_cases q1 : (m1 : Int) < asked
            all_goals
              go_wp2_with fail
              go_ret
              exact ⟨ret_int (HE.out 2 (by simp [Q2.out, Q3.out])).symm, rfl⟩
          · have Q3 := hide q3
            by_cases q1 : (m1 : Int) < asked
            all_goals
              go_wp2_with fail
              go_ret
              exact ⟨ret_int (HE.out 1 (by rw [if_neg (by simp), if_neg (by have := Q2.out; omega), if_neg (by have := Q3.out; omega)])).symm, rfl⟩
      · by_cases q1 : (m1 : Int) < asked
        · have Q1 := hide q1
          go_wp2_with fail
          go_ret
          exact ⟨ret_int (HE.out 4 (by simp [Q1.out])).symm, rfl⟩
        · have Q1 := hide q1
          by_cases q2 : m2 = 0
          · have q2' : ((m2 : Int) == 0) = true := by simp [q2]
            have Q2 := hide q2
            clear q2
            go_wp2_with fail
            go_ret
            exact ⟨ret_int (HE.out 3 (by rw [if_neg (by have := Q1.out; omega), if_pos (by have := Q2.out; omega)])).symm, rfl⟩
          · have q2' : ((m2 : Int) == 0) = false := by simp; exact q2
            have Q2 := hide q2
            clear q2
            by_cases q3 : (m2 : Int) < asked
            · have Q3 := hide q3
              go_wp2_with fail
              go_ret
              exact ⟨ret_int (HE.out 2 (by rw [if_neg (by have := Q1.out; omega), if_neg (by have := Q2.out; omega), if_pos (by have := Q3.out; omega)])).symm, rfl⟩
            · have Q3 := hide q3
              go_wp2_with fail
              go_ret
              exact ⟨ret_int (HE.out 1 (by rw [if_neg (by have := Q1.out; omega), if_neg (by have := Q2.out; omega), if_neg (by have := Q3.out; omega)])).symm, rfl⟩

/-- The library's state is the law's. -/
theorem st_is (ln lf : List ByteArray) (lv fz : ByteArray → Bool) (asked : Int) (hfl : lf.length = ln.length) :
    stOf ln.length (fun i => ln.getD i ByteArray.empty) (fun i => lf.getD i ByteArray.empty) lv fz asked = srcState ln (has lf) lv fz asked := by
  have e1 : free fz (fun i => ln.getD i ByteArray.empty) ln.length = nfz ln fz := by
    have h := map_filter_len ln.length (fun i => ln.getD i ByteArray.empty) (fun s => !fz s)
    rw [map_getD] at h
    unfold free nfz
    exact h.symm
  have e2 : ∀ x, anyFr ln.length (fun i => lf.getD i ByteArray.empty) x = has lf x := by
    intro x
    unfold anyFr has
    rw [← hfl]
    conv => rhs; rw [← map_getD lf]
    rw [List.any_map]
    rfl
  have e3 : decide (0 < (keptI (unt fz ln.length (fun i => ln.getD i ByteArray.empty) (fun i => lf.getD i ByteArray.empty)) (fun i => ln.getD i ByteArray.empty) ln.length).length) = untk ln fz (has lf) := by
    unfold keptI
    rw [List.length_map]
    unfold untk
    conv => rhs; rw [← map_getD ln]
    rw [List.any_map, Bool.eq_iff_iff]
    simp only [decide_eq_true_eq, List.length_pos_iff_exists_mem, List.mem_filter, List.any_eq_true, Function.comp, unt, e2]
  unfold stOf stt srcState
  rw [map_getD]
  change (if ln.length = 0 then (2 : Int) else if decide (_ ∧ _) = true then 4 else if decide (0 < srv ln lv fz) = true then if (srv ln lv fz : Int) < asked then 2 else 1 else 3) = _
  rw [e1]
  by_cases h0 : ln.length = 0
  · rw [if_pos h0, if_pos h0]
  · rw [if_neg h0, if_neg h0]
    have e4 : (decide ((nfz ln fz : Int) < asked ∧ 0 < (keptI (unt fz ln.length (fun i => ln.getD i ByteArray.empty) (fun i => lf.getD i ByteArray.empty)) (fun i => ln.getD i ByteArray.empty) ln.length).length) = true) ↔ ((nfz ln fz : Int) < asked ∧ untk ln fz (has lf) = true) := by
      rw [← e3]; simp
    simp only [e4]
    by_cases h1 : (nfz ln fz : Int) < asked ∧ untk ln fz (has lf) = true
    · rw [if_pos h1, if_pos h1]
    · rw [if_neg h1, if_neg h1]
      by_cases h2 : srv ln lv fz = 0
      · rw [if_pos h2, if_neg (by simp; omega)]
      · rw [if_neg h2, if_pos (by simp; omega)]
end Go.Proofs.Qxb6612939a
