/-
  WALKS (B): the loops that gather by append.
-/
import Derived.Test.Qxb6612939aWalkA
import Derived.Outline
namespace Go.Proofs.Qxb6612939a
open Go.RowKit

theorem info9 : (Try.prog.info? 9).map (fun i => (i.zero, i.size, i.bytes)) = some (some (.string ByteArray.empty), 1, 16) := by kernel_rfl

theorem own_below {w w1 : World} {base e size n : Nat} {v : Value} {xs : List Value} (h : w.ownsRow base e size v n xs) (hb : Below w.heap.size w w1) : w1.ownsRow base e size v n xs :=
  h.kept (row := none) ⟨hb.os, hb.tape, hb.output, hb.size, fun j hj _ => hb.block j hj⟩ (by cases hv : v.ownBlock <;> simp)
theorem app_below {w w1 w2 : World} {o : Obj} {e size n : Nat} {v : Value} {xs : List Value} (hB : Below w.heap.size w w1) (hO : w1.ownsRow w.heap.size e size v n xs) (hg : (w1.alloc o).grownBy w2 v.ownBlock) : Below w.heap.size w w2 :=
  (hB.alloc hB.size o).grown hg (by have := hB.size; simp; omega) (fun j hj => (hO.lt j hj).1)

set_option maxHeartbeats 1000000 in
/-- those(ids, keep). -/
theorem those28 (a : Option Addr) (l : List ByteArray) (c g : Nat) (caps : Array Value) (p : ByteArray → Bool) (w : World) (h : Strs w a l) (hn : l.length ≤ 65536) (hp : Pred w g caps p) :
    Calls Try.prog 28 #[.slice a l.length c, .func (.func g) #[] caps] w fun e w' => (∃ a' c', e = .returned (.slice a' (l.filter p).length c') ∧ (∀ k off, a' = some ⟨k, off, none⟩ → w.heap.size ≤ k) ∧ Strs w' a' (l.filter p)) ∧ Below w.heap.size w w' := by
  obtain ⟨i0, hi, hz0, hz1, hz2⟩ := info_parts info9
  have H := hide h
  have HP := hide hp
  have he : ∀ args w, (callFunc g args).run Try.prog w = .ok (.enter g args) w := hp.1
  clear h hp
  go_enter Try.func28, Try.ntmps28
  go_wp2
  go_loopw [5, 10] (fun v i wr => ∃ k : Nat, k ≤ l.length ∧ i = .int .i64 k ∧ wr.ownsRow w.heap.size 9 1 v ((l.take k).filter p).length (((l.take k).filter p).map Value.string) ∧ Below w.heap.size w wr) (fun _ i _ => l.length - (intOf i).toNat)
  case atStart => exact ⟨0, Nat.zero_le _, rfl, World.ownsRow_nil _ _ _ _, Below.refl _ _⟩
  case round =>
    obtain ⟨k, hk, rfl, hown, hb⟩ := hrel
    have HO := hide hown
    have HB := hide hb
    clear hown hb
    by_cases hlt : k < l.length
    · obtain hx | ⟨b, off, rfl, hbl, hc⟩ := H.out
      · subst hx; simp at hlt
      have c0 := (HB.out.cell (p := ⟨b, off + k, none⟩) hbl).trans (hc k hlt)
      have hts : l.take (k + 1) = l.take k ++ [l.getD k ByteArray.empty] := by
        rw [List.take_succ_eq_append_getElem hlt]; simp [List.getD_eq_getElem?_getD, List.getElem?_eq_getElem hlt]
      clear hc
      generalize l.getD k ByteArray.empty = x at c0 hts
      have HT := hide hts
      clear hts
      go_wp2_with fail
      refine (HP.out.2 x _ HB.out).mono ?_
      rintro e w1 ⟨rfl, hb1⟩
      have HB1 := hide (below_trans HB.out hb1)
      have HO1 := hide (own_below HO.out hb1)
      clear hb1 HO HB c0
      cases hpx : p x
      · go_wp2_with fail
        go_roundw
        case rel => exact ⟨k + 1, by omega, by go_num, by
          rw [HT.out, List.filter_append]
          simp only [List.filter_cons, hpx, List.filter_nil, Bool.false_eq_true, if_false, List.append_nil]
          exact HO1.out, HB1.out⟩
        case measure => simp [intOf]; omega
      · have hlen : ((l.take k).filter p).length ≤ 65536 := Nat.le_trans (List.length_filter_le _ _) (by rw [List.length_take]; omega)
        go_wp2_with (at_builtin; refine wpList_append_own _ rfl _ _ 22 rfl w.heap.size 9 i0 (.string ByteArray.empty) 1 16 Try.underlying22 hi hz0 hz1 hz2 rfl (by decide) _ _ _ rfl (HO1.out.alloc _) ⟨w1.heap.size, 0, none⟩ 1 1 [.string x] rfl rfl (cell_one_new _ _ _) ?qc2 ?qc3 ?qc4 ?qc5 ?_)
        case qc2 => intro u hu; simp at hu; subst hu; rfl
        case qc3 => unfold maxLen; omega
        case qc4 => omega
        case qc5 => have := HB1.out.size; simp; omega
        intro v' w2 hown2 hgrow _
        have HO2 := hide hown2
        have HB2 := hide (app_below HB1.out HO1.out hgrow)
        clear hown2 hgrow HO1 HB1
        go_wp2_with fail
        go_roundw
        case rel => exact ⟨k + 1, by omega, by go_num, by
          rw [HT.out, List.filter_append]
          simp only [List.filter_cons, hpx, List.filter_nil, if_true, List.length_append, List.map_append, List.length_cons, List.length_nil, List.map_cons, List.map_nil]
          exact HO2.out, HB2.out⟩
        case measure => simp [intOf]; omega
    · have ht : l.take k = l := List.take_of_length_le (by omega)
      obtain ⟨a', c', hv, hcap, hs⟩ := Strs.owned HO.out
      rw [ht] at hv hs
      have HS := hide hs
      have HC := hide hcap.2
      clear hs HO ht hcap
      subst hv
      go_wp2
      go_ret
      exact ⟨⟨_, _, rfl, HC.out, HS.out⟩, HB.out⟩

end Go.Proofs.Qxb6612939a
