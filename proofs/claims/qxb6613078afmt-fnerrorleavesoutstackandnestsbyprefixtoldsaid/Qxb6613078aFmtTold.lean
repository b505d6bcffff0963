/-
  THE TOLD CARD OF 'zzlaws_root_b1.FnErrorLeavesOutStackAndNestsByPrefix': fmt's two texts, the row, the card.
-/
import Derived.Test.Qxb6613078aFmtCards
import Derived.Test.Qxb6613078aFmtWalk
import Derived.ProofKit
import Derived.OpenShut
import Derived.ShutString
import Derived.ChangeOld
import Derived.Below
import Derived.Stop.JoinedAt
import Derived.Stop.Texts
import Derived.Stop.JoinedTold
import Derived.Stop.FmtTextKit
import Derived.Stop.FmtTextVerbs
import Derived.SevenToldRow
namespace Go.Proofs.Qxb6613078aFmt
open Go.ChangeShapes Go.WideShapes Go.ChangeAt Go.RowKit Go.Kit
open Go.ChangeMaps (open_string shut_string)
open Go.Extern.Stop Go.Stop Go.Extern

theorem own : ownKnob Tryf.prog.godebug = none := by kernel_rfl
theorem laidOut : laidOutB Tryf.prog = true := by kernel_rfl

theorem t_parse : (FmtText.parse fmtBytes).map FmtText.glue = some [.lit preBytes, .verb {} 118] := by rfl

theorem textS (s : List UInt8) (hs : s.length < 2 ^ 64) : FmtText.text "fmt.Sprintf" (readS s) = some (preBytes ++ s) := by
  rw [readS, FmtText.text_sprintf_glued t_parse (FmtText.operands_cons (FmtText.operand_str_at (sh := shape9) rfl rfl s hs) FmtText.operands_nil)]
  simp [FmtText.render, FmtText.printArg_v_str]

theorem textE (said : List UInt8) : FmtText.text "fmt.Sprintf" (readE said) = some (preBytes ++ said) := by
  rw [readE, FmtText.text_sprintf_glued t_parse (FmtText.operands_cons (FmtText.operand_error_at rfl (FmtText.unpack_pack _ (by decide)) said) FmtText.operands_nil)]
  simp [FmtText.render, FmtText.printArg_v_said]

theorem bytes_ext {a b : ByteArray} (h : a.data.toList = b.data.toList) : a = b := by
  obtain ⟨⟨la⟩⟩ := a
  obtain ⟨⟨lb⟩⟩ := b
  simp at h
  rw [h]
theorem data_add (a b : ByteArray) : (a ++ b).data.toList = a.data.toList ++ b.data.toList := by
  rw [ByteArray.data_append]
  simp

theorem told_S (F : Interp) (s : ByteArray) (h : s.size ≤ 65536) : txS F.told s = preS ++ s := by
  have hl : s.data.toList.length = s.size := by rw [Array.length_toList]; rfl
  have ht := told_string F (textS s.data.toList (by omega)) (by simp; omega)
  apply bytes_ext
  rw [data_add, txS, textOf_list, ht]

theorem told_E (F : Interp) (s : ByteArray) (h : s.size ≤ 65536) : txE F.told s = preS ++ (preS ++ s) := by
  have hl : s.data.toList.length = s.size := by rw [Array.length_toList]; rfl
  have ht := told_string F (textE (preS ++ s).data.toList) (by rw [data_add]; simp; omega)
  apply bytes_ext
  rw [data_add, txE, told_S F s h, textOf_list, ht]

/-- WHAT THE WALK IS TOLD OF A SLICE OF BYTES THAT CAME IN. -/
theorem bts_of {H : Type} {enc : TypeId × Value → H} {W : World} {a : Option Addr} {len cap : Nat} {d : DataW H} {p : List MemPlace}
    (h : DataW.Trod enc Tryf.prog W 0 (fun _ => true) true 22 (.slice a len cap) d p) : Bts W a len cap ∧ len ≤ maxLen := by
  obtain ⟨fuel, hf⟩ := h
  rcases open_ints Tryf.underlying22 Tryf.underlying5 (by kernel_rfl) hf with ⟨hcs, _⟩ | ⟨x, l, c, zs, hcs, _, hl, hm, hz, _, hcell, hwz⟩
  · simp [Value.cells] at hcs
    obtain ⟨rfl, rfl, rfl⟩ := hcs
    exact ⟨.inl ⟨rfl, rfl, rfl⟩, Nat.zero_le _⟩
  · simp [Value.cells] at hcs
    obtain ⟨rfl, rfl, rfl⟩ := hcs
    refine ⟨?_, Nat.le_trans hl hm⟩
    by_cases h0 : len = 0
    · exact .inr (.inl ⟨x, rfl, h0⟩)
    · simp at hz
      obtain ⟨b, off, spot⟩ := x
      have hspot : spot = none := by simpa [Addr.add] using World.cell?_spot (hcell 0 (by omega))
      subst hspot
      refine .inr (.inr ⟨b, off, fun i => zs.getD i 0, rfl, ?_, fun i hi => by rw [← hcell i (by omega), add_plain]⟩)
      have h1 := hcell 0 (by omega)
      rw [add_plain] at h1
      exact block_lt_of_cell h1

set_option maxRecDepth 100000 in
theorem t_lifted (os : Os) (started : os.Started) (H : Type) (enc : TypeId × Value → H) :
    ReturnsInTold none {} Tryf.checked os 3 .any Input.okWide ((OpenSpec.ofChange Rows.fnErrorLeavesOutStackAndNestsByPrefixSpec).preRow enc Tryf.prog Tryf.f3 [] false []) (fun F => ((OpenSpec.ofChange Rows.fnErrorLeavesOutStackAndNestsByPrefixSpec).at F).post enc Tryf.prog Tryf.f3 false true false false) (aloneAtReturn Tryf.prog) nothingAlways := by
  refine returnsInTold_of_row (C := Tryf.checked) (s := OpenSpec.ofChange Rows.fnErrorLeavesOutStackAndNestsByPrefixSpec) (by kernel_rfl) own started (by kernel_rfl) Tryf.func3
    (OpenSpec.witness_stopped (enc := enc) (C := Tryf.checked) false ⟨#[], #[.string ByteArray.empty, .slice none 0 0], []⟩ 8 (by kernel_rfl) (by kernel_rfl) (by kernel_rfl) (by kernel_rfl)) ?_
  intro F W base args ds gs before _ hF hval0 hW _ _ _ _ _
  have hval : ∀ (j : Nat) t v, Tryf.f3.params[j]? = some t → args[j]? = some v → Value.okWide Tryf.prog W .any base t v := hval0
  have hW' := hW
  obtain ⟨p, q, hA0, hV, rfl, hfz, hnd⟩ := hW
  have hA : DataW.TrodAll enc Tryf.prog W 0 (fun _ => true) true Tryf.f3.params.toList args.toList ds p := hA0
  rw [Tryf.params3] at hA hval
  obtain ⟨v0, vs0, d0, ds0, p0, q0, hargs, rfl, rfl, h0, r0⟩ := trodAll_cons hA
  obtain ⟨v1, vs1, d1, ds1, p1, q1, rfl, rfl, rfl, h1, r1⟩ := trodAll_cons r0
  obtain ⟨rfl, rfl, rfl⟩ := trodAll_nil r1
  obtain rfl : args = #[v0, v1] := by cases args; simp_all
  obtain ⟨rfl, rfl⟩ := trodVars_none hV
  obtain ⟨s, rfl, rfl, rfl, ws⟩ := open_string Tryf.underlying9 (hval 0 9 v0 rfl rfl) h0
  obtain ⟨a1, len1, cap1, rfl⟩ := okWide_slice Tryf.underlying22 (hval 1 22 v1 rfl rfl)
  have k1 := h1
  have lt1 : ∀ x ∈ p1, x.block < W.heap.size := by obtain ⟨m, hm⟩ := k1; exact DataW.trod_lt m _ _ _ hm
  obtain ⟨hB, hlen⟩ := bts_of h1
  clear hA0 hval0
  refine (walk3 F.told s a1 len1 cap1 W hF ws hlen hB (told_S F s) (told_E F s)).mono fun e W' ⟨he, bel⟩ => ?_
  subst he
  exact ⟨_, rfl, _, _, _, [], _, [], hW', trodAll_mk1 (shut_bool Tryf.underlying4 _), (trodAll_cons_mk (shut_string Tryf.underlying9 ws) (trodAll_cons_mk (Below.trod laidOut (by kernel_rfl) (of_decide_eq_true (by kernel_rfl)) k1 bel lt1) trodAll_mk0)), rfl, bel.frame _, fun h => by cases h⟩

theorem laidOutP : laidOutB Tryf.pinned.checked.prog = true := by kernel_rfl
theorem stops : Tryf.pinned.checked.prog.stops = Rows.fnErrorLeavesOutStackAndNestsByPrefixRow.stops := by kernel_rfl
theorem stopKnobs : Tryf.pinned.checked.prog.stopKnobs = [] := by kernel_rfl
theorem quiet (os : Os) : Stop.quiet Tryf.pinned.checked.prog os := by
  intro k hk
  rw [stopKnobs] at hk
  cases hk

/-- THE STATEMENT. -/
theorem proved : Rows.FnErrorLeavesOutStackAndNestsByPrefixToldSaid :=
  Claim7.holds_of_told_any 3 Tryf.f3 _ [] [] Rows.fnErrorLeavesOutStackAndNestsByPrefixCard.stood.harness false false (by kernel_rfl) rfl rfl rfl laidOutP (by kernel_rfl) rfl ⟨rfl, rfl, rfl, rfl, rfl, rfl, rfl⟩ rfl rfl (by kernel_rfl) (by kernel_rfl) Tryf.func3 (by kernel_rfl)
    (of_decide_eq_true (by kernel_rfl)) (by unfold Func.isWrapper; first | (rw [if_pos (by decide +kernel)]; kernel_rfl) | (rw [if_neg (by decide +kernel)]; exact ⟨rfl, rfl⟩)) stops.symm rfl stopKnobs.symm (by kernel_rfl)
    (by kernel_rfl) (by kernel_rfl) (by kernel_rfl) (by kernel_rfl) (by kernel_rfl) (by kernel_rfl) (by kernel_rfl) (by kernel_rfl) (by kernel_rfl) rfl (by kernel_rfl) rfl rfl
    rfl rfl
    rfl (by kernel_rfl) (by kernel_rfl) (by kernel_rfl) (by decide) (by kernel_rfl)
    (OpenClaim.moreEntering_of (by kernel_rfl) (by kernel_rfl) (by kernel_rfl) (by kernel_rfl) (by kernel_rfl) (by kernel_rfl) (by kernel_rfl) (by kernel_rfl) (by kernel_rfl) (by kernel_rfl))
    ⟨_, WideRow.started_initial, quiet _⟩
    (fun os started _ H enc _ => t_lifted os started H enc)

#print axioms proved
end Go.Proofs.Qxb6613078aFmt
