/-
  WALKS (G): zzCat.
-/
import Derived.Test.Qxb6612939aWalkE
import Derived.OwnWalk
namespace Go.Proofs.Qxb6612939a
open Go.RowKit

/-- append of nothing, the source nil, whatever its capacity. -/
theorem run_append_none_c {w : World} (base : Nat) (t ty e : TypeId) (i : TypeInfo) (size c : Nat) (ht : Try.prog.underlying t = some (.slice e)) (hi : Try.prog.info? e = some i)
    (v : Value) (n : Nat) (xs : List Value) (hown : w.ownsRow base e size v n xs) :
    (Builtin.append_ #[t, t] ty #[v, .slice none 0 c]).run Try.prog w = .ok v w := by
  rcases hown.2 with ⟨rfl, rfl⟩ | ⟨g, cap, cur, rfl, _, _, hnc, _⟩
  · simp [Builtin.append_, run_underlying ht, sizeOf, typeInfo, hi, Builtin.lenOf, Builtin.firstCells]
  · simp [Builtin.append_, run_underlying ht, sizeOf, typeInfo, hi, Builtin.lenOf, Builtin.firstCells, hnc, storeCells]

/-- append of a slice of strings within the capacity. -/
theorem wpList_append_strs (w : World) {ops : Array Oper} {rest : List Oper} {o : Oper} {a : Act} {Q : Exit → Act → World → Prop}
    (hg : o.guard = none) (s x : Operand) (hop : o.op = Op.call { callee := Callee.builtin Builtin.append, args := #[s, x], argTypes := #[22, 22] })
    (base : Nat) (i : TypeInfo) (h2 : Try.prog.info? 9 = some i) (h4 : i.size = 1)
    (g k cap : Nat) (xs : List Value) (hs : a.eval s = .slice (some ⟨g, 0, none⟩) k cap) (hown : w.ownsRow base 9 1 (.slice (some ⟨g, 0, none⟩) k cap) k xs) (ao : Option Addr) (c : Nat) (l : List ByteArray) (hx : a.eval x = .slice ao l.length c)
    (hS : Strs w ao l) (b1 : k + l.length ≤ cap)
    (hK : ∀ w', w'.ownsRow base 9 1 (.slice (some ⟨g, 0, none⟩) (k + l.length) cap) (k + l.length) (xs ++ l.map Value.string) → w.grownBy w' (some g) → wpList Try.prog ops Q rest (a.put o.dst (.slice (some ⟨g, 0, none⟩) (k + l.length) cap)) w') :
    wpList Try.prog ops Q (o :: rest) a w := by
  cases ao with
  | none =>
    have hl : l = [] := by
      rcases hS with h | ⟨b, off, h, _⟩
      · exact h
      · cases h
    subst hl
    refine wpList_plain hg fun K hK' => ?_
    have hrun := run_append_none_c (w := w) base 22 o.type 9 i 1 c Try.underlying22 h2 _ k xs hown
    unfold Oper.wp
    simp at hx
    simp [execOp, hop, resolve, invoke, builtin, hs, hx, hrun, Result.andThen]
    exact hK' _ _ (by simpa using hK w (by simpa using hown) (World.grownBy.refl _ _))
  | some ad =>
    refine wpList_append_fits w hg s x 22 hop base 9 i 1 Try.underlying22 h2 h4 g k cap xs hs hown ad l.length c (l.map Value.string) hx (by simp) ?_ ?_ b1 hK
    · intro j u hu
      have hj : j < l.length := by simpa using (List.getElem?_eq_some_iff.1 hu).1
      rcases hS with h | ⟨b, off, h, _, hc⟩
      · subst h; simp at hj
      · obtain rfl := Option.some.inj h
        rw [Addr.add_lit, hc j hj]
        simp [List.getElem?_eq_getElem hj] at hu
        simp [List.getD_eq_getElem?_getD, List.getElem?_eq_getElem hj, hu]
    · intro u hu
      obtain ⟨_, _, rfl⟩ := List.mem_map.1 hu
      rfl

set_option maxHeartbeats 800000 in
/-- zzCat. -/
theorem cat11 (a b : Option Addr) (l m : List ByteArray) (c d : Nat) (w : World) (ha : Strs w a l) (hb : Strs w b m) (hn : l.length ≤ 65536) (hm : m.length ≤ 65536) :
    Calls Try.prog 11 #[.slice a l.length c, .slice b m.length d] w fun e w' => (∃ a' c', e = .returned (.slice a' (l ++ m).length c') ∧ Strs w' a' (l ++ m)) ∧ Below w.heap.size w w' := by
  obtain ⟨i0, hi, hz0, hz1, hz2⟩ := info_parts info9
  have HA := hide ha
  have HB := hide hb
  clear ha hb
  go_enter Try.func11, Try.ntmps11
  go_wp2_with (at_make; refine wpList_make_own _ rfl _ _ 22 rfl w.heap.size 9 i0 (.string ByteArray.empty) 1 Try.underlying22 hi hz0 hz1 .i64 .i64 _ (l.length + m.length) rfl rfl (by omega) (by rw [hz2]; omega) (by unfold maxLen; omega) (Nat.le_refl _) ?_)
  intro w1 hown hgrow
  have HO := hide hown
  have BW := hide (show Below w.heap.size w w1 from (Below.refl _ _).grown hgrow (Nat.le_refl _) (fun j hj => by cases hj))
  clear hown hgrow
  go_wp2_with (at_builtin; refine wpList_append_strs _ rfl _ _ rfl w.heap.size i0 hi hz1 w.heap.size 0 (l.length + m.length) [] rfl HO.out a c l rfl (HA.out.below BW.out) (by omega) ?_)
  intro w2 hown hgrow
  have BW2 := hide (show Below w.heap.size w w2 from BW.out.grown hgrow BW.out.size (fun j hj => by simp at hj; omega))
  have HO2 := hide hown
  clear hown hgrow HO
  go_wp2_with (at_builtin; refine wpList_append_strs _ rfl _ _ rfl w.heap.size i0 hi hz1 w.heap.size l.length (l.length + m.length) (l.map Value.string) rfl HO2.out b d m rfl (HB.out.below BW2.out) (by omega) ?_)
  intro w3 hown hgrow
  have BW3 := hide (show Below w.heap.size w w3 from BW2.out.grown hgrow BW2.out.size (fun j hj => by simp at hj; omega))
  rw [← List.map_append, show l.length + m.length = (l ++ m).length by simp] at hown
  have HO3 := hide (Strs.owned hown)
  clear hown hgrow HO2
  go_wp2_with fail
  go_ret
  obtain ⟨a', c', hv, _, hs⟩ := HO3.out
  refine ⟨⟨a', c', ?_, hs⟩, BW3.out⟩
  rw [← hv]
  simp
end Go.Proofs.Qxb6612939a
