/-
  THE WALKS OF FnErrorLeavesOutStackAndNestsByPrefix (function 3) AND OF ITS CALLEES, FOR EVERY TEXT THAT fmt MAY GIVE (F).
-/
import Derived.Test.Qxb6613078aFmtFacts
import Derived.WalkKit
import Derived.WalkSpells
import Derived.Deep.OwnRows
namespace Go.Proofs.Qxb6613078aFmt
open Go.RowKit Go.Extern.Stop Go.Stop Go.Extern

attribute [local go_sem] call10 guard_ok fmt0 fmt0r act9 op9 act27 str27 isError27

/-- What fmt.Sprintf is asked of a string. -/
def readS (s : List UInt8) : List (List UInt8) := [fmtBytes, shape9, FmtStop.pack s]
/-- What it is asked of a PanicError whose method has given 'said'. -/
def readE (said : List UInt8) : List (List UInt8) := [fmtBytes, 19 :: 0 :: FmtStop.pack nmBytes, said]

set_option maxHeartbeats 800000 in
theorem err9_str (F : Interp) (s : ByteArray) (b : Nat) (w : World) (hF : F.answers w.tape) (hc : w.cell? ⟨b, 0, none⟩ = some (.iface 9 (.string s))) :
    Calls Tryf.prog 9 #[.pointer (some ⟨b, 0, none⟩)] w fun e w' => e = .returned (.string (FmtStop.textOf (F "fmt.Sprintf" (readS s.data.toList) 0))) ∧ Below w.heap.size w w' := by
  have hF' := answers_open hF
  go_enter Tryf.func9, Tryf.ntmps9
  go_wp2
  apply rows_value nextTurns
  case hr =>
    go_simp
    exact ⟨rfl, rfl⟩
  case h =>
    go_wp2
    go_ret
    exact ⟨rfl, ((Below.refl _ _).alloc (Nat.le_refl _) _).drew⟩

set_option maxHeartbeats 800000 in
theorem err9_err (F : Interp) (s : ByteArray) (b b2 : Nat) (w : World) (hF : F.answers w.tape) (hc : w.cell? ⟨b, 0, none⟩ = some (.iface 27 (.pointer (some ⟨b2, 0, none⟩)))) (hc2 : w.cell? ⟨b2, 0, none⟩ = some (.iface 9 (.string s))) (hlt : b2 < w.heap.size) :
    Calls Tryf.prog 9 #[.pointer (some ⟨b, 0, none⟩)] w fun e w' => e = .returned (.string (FmtStop.textOf (F "fmt.Sprintf" (readE (FmtStop.textOf (F "fmt.Sprintf" (readS s.data.toList) 0)).data.toList) 0))) ∧ Below w.heap.size w w' := by
  have hF' := answers_open hF
  go_enter Tryf.func9, Tryf.ntmps9
  go_wp2
  apply rows_call nextTurns
  case hr =>
    go_simp
    exact ⟨⟨rfl, rfl, rfl⟩, rfl⟩
  case hi => exact invokeError27 _ _
  case hc =>
    refine (err9_str F s b2 _ (by exact hF) (by rw [World.cell?_alloc_past _ _ _ hlt]; exact hc2)).mono fun e w3 ⟨he, hb⟩ => ?_
    subst he
    have hF3 : F.answers w3.tape := by rw [hb.tape]; exact hF
    have hF3' := answers_open hF3
    apply rows_value nextReturned
    case hr =>
      go_simp
      exact ⟨rfl, rfl⟩
    case h =>
      go_wp2
      go_ret
      exact ⟨rfl, ((Below.refl _ _).alloc (Nat.le_refl _) _).trans (hb.mono (by simp)) |>.drew⟩

/-- The texts that fmt gives. -/
def txS (F : Interp) (s : ByteArray) : ByteArray := FmtStop.textOf (F "fmt.Sprintf" (readS s.data.toList) 0)
def txE (F : Interp) (s : ByteArray) : ByteArray := FmtStop.textOf (F "fmt.Sprintf" (readE (txS F s).data.toList) 0)

theorem hide {p : Prop} (h : p) : Hid p := h

set_option maxHeartbeats 800000 in
theorem of6 (F : Interp) (s : ByteArray) (w : World) (hF : F.answers w.tape) :
    Calls Tryf.prog 6 #[.string s] w fun e w' => e = .returned (.string (txS F s)) ∧ Below w.heap.size w w' := by
  have HF := hide hF
  clear hF
  go_enter Tryf.func6, Tryf.ntmps6
  go_wp2_with fail
  refine (err9_str F s w.heap.size _ (by exact HF.out) (by go_simp)).mono ?_
  rintro e w1 ⟨rfl, hb⟩
  go_wp2_with fail
  go_ret
  exact ⟨rfl, ((Below.refl _ _).alloc (Nat.le_refl _) _).trans (hb.mono (by simp))⟩

set_option maxHeartbeats 800000 in
theorem with7 (F : Interp) (s : ByteArray) (a : Option Addr) (n c : Nat) (w : World) (hF : F.answers w.tape) :
    Calls Tryf.prog 7 #[.string s, .slice a n c] w fun e w' => e = .returned (.string (txS F s)) ∧ Below w.heap.size w w' := by
  have HF := hide hF
  clear hF
  go_enter Tryf.func7, Tryf.ntmps7
  go_wp2_with fail
  refine (err9_str F s w.heap.size _ (by exact HF.out) (by go_simp)).mono ?_
  rintro e w1 ⟨rfl, hb⟩
  go_wp2_with fail
  go_ret
  exact ⟨rfl, ((Below.refl _ _).alloc (Nat.le_refl _) _).trans (hb.mono (by simp))⟩

set_option maxHeartbeats 800000 in
theorem nest8 (F : Interp) (s : ByteArray) (w : World) (hF : F.answers w.tape) :
    Calls Tryf.prog 8 #[.string s] w fun e w' => e = .returned (.string (txE F s)) ∧ Below w.heap.size w w' := by
  have HF := hide hF
  clear hF
  go_enter Tryf.func8, Tryf.ntmps8
  go_wp2_with fail
  refine (err9_err F s (w.heap.size + 1) w.heap.size _ (by exact HF.out) (by go_simp) (by go_simp) (by simp; omega)).mono ?_
  rintro e w1 ⟨rfl, hb⟩
  go_wp2_with fail
  go_ret
  exact ⟨rfl, (((Below.refl _ _).alloc (Nat.le_refl _) _).alloc (by simp) _).trans (hb.mono (by simp; omega))⟩

set_option maxHeartbeats 400000 in
theorem bytes4 (s : ByteArray) (a : Option Addr) (n c : Nat) (w : World) (h1 : s.size ≤ maxLen) (h2 : n ≤ maxLen) :
    Calls Tryf.prog 4 #[.string s, .slice a n c] w fun e w' => (∃ r : Bool, e = .returned (.bool r)) ∧ w = w' := by
  unfold maxLen at h1 h2
  go_enter Tryf.func4, Tryf.ntmps4
  go_wp2
  all_goals
    go_ret
    exact ⟨⟨_, rfl⟩, rfl⟩

theorem info5 : (Tryf.prog.info? 5).map (fun i => (i.zero, i.size, i.bytes)) = some (some (.int .u8 0), 1, 1) := by kernel_rfl

/-- A slice of bytes that came in: nil, or empty, or its cells lie there. -/
def Bts (w : World) (a : Option Addr) (n c : Nat) : Prop :=
  (a = none ∧ n = 0 ∧ c = 0) ∨ (∃ x, a = some x ∧ n = 0) ∨ ∃ (b off : Nat) (f : Nat → Int), a = some ⟨b, off, none⟩ ∧ b < w.heap.size ∧ ∀ i, i < n → w.cell? ⟨b, off + i, none⟩ = some (.int .u8 (f i))

set_option maxHeartbeats 400000 in
theorem clone5_nil (w : World) :
    Calls Tryf.prog 5 #[.slice none 0 0] w fun e w' => (∃ a' c', e = .returned (.slice a' 0 c')) ∧ Below w.heap.size w w' := by
  have hnil := fun (w : World) (a : Option Addr) (n c n' c' : Nat) => Lib.run_eql_slice_nil (P := Tryf.prog) w 22 5 a n c n' c' Tryf.underlying22
  go_enter Tryf.func5, Tryf.ntmps5
  go_wp2
  go_ret
  exact ⟨⟨_, _, rfl⟩, Below.refl _ _⟩

set_option maxHeartbeats 400000 in
theorem clone5_some (x : Addr) (n c : Nat) (w : World) (hn : n ≤ 65536) (hx : n = 0 ∨ ∃ (b off : Nat) (f : Nat → Int), x = ⟨b, off, none⟩ ∧ b < w.heap.size ∧ ∀ i, i < n → w.cell? ⟨b, off + i, none⟩ = some (.int .u8 (f i))) :
    Calls Tryf.prog 5 #[.slice (some x) n c] w fun e w' => (∃ a' c', e = .returned (.slice a' n c')) ∧ Below w.heap.size w w' := by
  have hmk := run_make_row' (P := Tryf.prog) 22 5 (.int .u8 0) 1 Tryf.underlying22 info5 rfl .i64 .i64 n (by omega) (by omega)
  have hnil := fun (w : World) (a : Option Addr) (n c n' c' : Nat) => Lib.run_eql_slice_nil (P := Tryf.prog) w 22 5 a n c n' c' Tryf.underlying22
  have HX := hide hx
  clear hx
  go_enter Tryf.func5, Tryf.ntmps5
  go_wp2
  go_loopw [4] (fun i wr => ∃ (k : Nat) (g : Nat → Value), k ≤ n ∧ i = .int .i64 k ∧ wr.rowIs w.heap.size 5 n g ∧ Below w.heap.size w wr) (fun i _ => n - (intOf i).toNat)
  case atStart => exact ⟨0, _, Nat.zero_le _, rfl, World.rowIs_made _ _ _ _, (Below.refl _ _).alloc (Nat.le_refl _) _⟩
  case round =>
    obtain ⟨k, g, hk, rfl, hr, hb⟩ := hrel
    have HR := hide hr
    have HB := hide hb
    clear hr hb
    by_cases hlt : k < n
    · obtain hx | ⟨b, off, f, rfl, hbl, hc⟩ := HX.out
      · omega
      have c0 := (HB.out.cell (p := ⟨b, off + k, none⟩) hbl).trans (hc k hlt)
      have c1 := World.rowIs.cell HR.out hlt
      have f1 := World.rowIs.frozen HR.out k
      clear hc
      go_wp2
      go_roundw
      case rel => exact ⟨k + 1, _, by omega, by go_num, HR.out.set k _, HB.out.setCell (Nat.le_refl _) _⟩
      case measure => simp [intOf]; omega
    · go_wp2
      go_ret
      exact ⟨⟨_, _, rfl⟩, HB.out⟩

theorem clone5 (a : Option Addr) (n c : Nat) (w : World) (hn : n ≤ 65536) (h : Bts w a n c) :
    Calls Tryf.prog 5 #[.slice a n c] w fun e w' => (∃ a' c', e = .returned (.slice a' n c')) ∧ Below w.heap.size w w' := by
  rcases h with ⟨rfl, rfl, rfl⟩ | ⟨x, rfl, rfl⟩ | ⟨b, off, f, rfl, hb, hc⟩
  · exact clone5_nil w
  · exact clone5_some x 0 c w (by omega) (.inl rfl)
  · exact clone5_some _ n c w hn (.inr ⟨b, off, f, rfl, hb, hc⟩)

/-- The prefix as a string. -/
abbrev preS : ByteArray := ⟨#[104, 101, 114, 100, 103, 97, 116, 101, 58, 32, 116, 104, 101, 32, 108, 111, 97, 100, 32, 112, 97, 110, 105, 99, 107, 101, 100, 58, 32]⟩

set_option maxHeartbeats 800000 in
theorem walk3 (F : Interp) (s : ByteArray) (a : Option Addr) (n c : Nat) (w : World) (hF : F.answers w.tape) (h1 : s.size ≤ maxLen) (h2 : n ≤ maxLen) (hB : Bts w a n c)
    (hS : s.size ≤ 65536 → txS F s = preS ++ s) (hE : s.size ≤ 65536 → txE F s = preS ++ (preS ++ s)) :
    Calls Tryf.prog 3 #[.string s, .slice a n c] w fun e w' => e = .returned (.bool true) ∧ Below w.heap.size w w' := by
  have H1 := hide h1
  have H2 := hide h2
  have HF := hide hF
  have HS := hide hS
  have HE := hide hE
  have HB := hide hB
  clear hF hS hE hB
  unfold maxLen at h1 h2
  go_enter Tryf.func3, Tryf.ntmps3
  go_wp2_with fail
  refine (bytes4 s a n c _ H1.out H2.out).mono ?_
  rintro e w' ⟨⟨r, rfl⟩, rfl⟩
  cases r
  · go_wp2_with fail
    go_ret
    exact ⟨rfl, Below.refl _ _⟩
  go_wp2_with fail
  iterate 2
    · go_ret
      exact ⟨rfl, Below.refl _ _⟩
  have g1 : s.size ≤ 65536 := by omega
  have g2 : n ≤ 65536 := by omega
  refine (clone5 a n c _ g2 HB.out).mono ?_
  rintro e w1 ⟨⟨a', c', rfl⟩, hb1⟩
  have HF1 := hide (show F.answers w1.tape by rw [hb1.tape]; exact HF.out)
  have HB1 := hide hb1
  clear hb1 HF HB
  go_wp2_with fail
  refine (of6 F s _ HF1.out).mono ?_
  rw [HS.out g1]
  rintro e w2 ⟨rfl, hb2⟩
  have HF2 := hide (show F.answers w2.tape by rw [hb2.tape]; exact HF1.out)
  have HB2 := hide (HB1.out.trans (hb2.mono HB1.out.size))
  clear hb2 HF1 HB1
  go_wp2_with fail
  refine (with7 F s a' n c' _ HF2.out).mono ?_
  rw [HS.out g1]
  rintro e w3 ⟨rfl, hb3⟩
  have HF3 := hide (show F.answers w3.tape by rw [hb3.tape]; exact HF2.out)
  have HB3 := hide (HB2.out.trans (hb3.mono HB2.out.size))
  clear hb3 HF2 HB2
  go_wp2_with fail
  refine (nest8 F s _ HF3.out).mono ?_
  rw [HE.out g1]
  rintro e w4 ⟨rfl, hb4⟩
  have HB4 := hide (HB3.out.trans (hb4.mono HB3.out.size))
  clear hb4 HF3 HB3
  go_wp2_with fail
  go_ret
  exact ⟨rfl, HB4.out⟩
end Go.Proofs.Qxb6613078aFmt
