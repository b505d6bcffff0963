/-
  WALKS (A): membership, slices.Contains, the closures.
-/
import Derived.Test.Qxb6612939aProg
import Derived.Test.Qxb6612939aParts
import Derived.WalkSpells
import Derived.WalkLawsBesides
import Derived.BigRegion
import Derived.BigQuiet
import Derived.Deep.QuietTactic
namespace Go.Proofs.Qxb6612939a
open Go.RowKit

theorem ret_bool {a b : Bool} (h : a = b) : Ending.returned (.bool a) = .returned (.bool b) := by rw [h]

set_option maxHeartbeats 400000 in
theorem has9 (a : Option Addr) (l : List ByteArray) (c : Nat) (s : ByteArray) (w : World) (h : Strs w a l) (hn : l.length ≤ 65536) :
    Calls Try.prog 9 #[.slice a l.length c, .string s] w fun e w' => e = .returned (.bool (has l s)) ∧ w = w' := by
  have H := hide h
  clear h
  go_enter Try.func9, Try.ntmps9
  go_wp2
  go_loop [5] (fun i => ∃ k : Nat, k ≤ l.length ∧ i = .int .i64 k ∧ Hid (has (l.take k) s = false)) (fun i => l.length - (intOf i).toNat)
  case atStart => exact ⟨0, Nat.zero_le _, rfl, rfl⟩
  case round =>
    obtain ⟨k, hk, rfl, HK⟩ := hrel
    by_cases hlt : k < l.length
    · obtain hx | ⟨b, off, rfl, hb, hc⟩ := H.out
      · subst hx; simp at hlt
      have c0 := hc k hlt
      clear hc
      have hs := has_take_succ l s k hlt
      have ht := has_of_at l s k hlt
      generalize l.getD k ByteArray.empty = x at c0 hs ht
      have HS := hide hs
      have HT := hide ht
      clear hs ht
      by_cases e : (x.toList == s.toList) = true
      · go_wp2
        go_ret
        exact ⟨ret_bool (HT.out e).symm, rfl⟩
      · have e' : (x.toList == s.toList) = false := by simpa using e
        clear e
        go_wp2
        go_round
        case rel => exact ⟨k + 1, by omega, by go_num, by show _ = false; rw [HS.out, HK.out, e']; rfl⟩
        case measure => simp [intOf]; omega
    · have hl : has l s = false := by have := HK.out; rwa [List.take_of_length_le (by omega)] at this
      have HL := hide hl
      clear hl HK
      go_wp2
      go_ret
      exact ⟨ret_bool HL.out.symm, rfl⟩

theorem has_take_succ' (l : List ByteArray) (s : ByteArray) (k : Nat) (hk : k < l.length) : has (l.take (k + 1)) s = (has (l.take k) s || (s.toList == (l.getD k ByteArray.empty).toList)) := by
  rw [has_take_succ l s k hk, BEq.comm]
theorem has_of_at' (l : List ByteArray) (s : ByteArray) (k : Nat) (hk : k < l.length) (h : (s.toList == (l.getD k ByteArray.empty).toList) = true) : has l s = true :=
  has_of_at l s k hk (by rw [BEq.comm]; exact h)

set_option maxHeartbeats 400000 in
theorem index30 (a : Option Addr) (l : List ByteArray) (c : Nat) (s : ByteArray) (w : World) (h : Strs w a l) (hn : l.length ≤ 65536) :
    Calls Try.prog 30 #[.slice a l.length c, .string s] w fun e w' => (∃ r : Int, e = .returned (.int .i64 r) ∧ decide (0 ≤ r) = has l s) ∧ w = w' := by
  have H := hide h
  clear h
  go_enter Try.func30, Try.ntmps30
  go_wp2
  go_loop [8] (fun i => ∃ k : Nat, k ≤ l.length ∧ i = .int .i64 k ∧ Hid (has (l.take k) s = false)) (fun i => l.length - (intOf i).toNat)
  case atStart => exact ⟨0, Nat.zero_le _, rfl, rfl⟩
  case round =>
    obtain ⟨k, hk, rfl, HK⟩ := hrel
    by_cases hlt : k < l.length
    · obtain hx | ⟨b, off, rfl, hb, hc⟩ := H.out
      · subst hx; simp at hlt
      have c0 := hc k hlt
      clear hc
      have hs := has_take_succ' l s k hlt
      have ht := has_of_at' l s k hlt
      generalize l.getD k ByteArray.empty = x at c0 hs ht
      have HS := hide hs
      have HT := hide ht
      clear hs ht
      by_cases e : (s.toList == x.toList) = true
      · go_wp2
        go_ret
        exact ⟨⟨_, rfl, by rw [HT.out e]; simp⟩, rfl⟩
      · have e' : (s.toList == x.toList) = false := by simpa using e
        clear e
        go_wp2
        go_round
        case rel => exact ⟨k + 1, by omega, by go_num, by show _ = false; rw [HS.out, HK.out, e']; rfl⟩
        case measure => simp [intOf]; omega
    · have hl : has l s = false := by have := HK.out; rwa [List.take_of_length_le (by omega)] at this
      have HL := hide hl
      clear hl HK
      go_wp2
      go_ret
      exact ⟨⟨_, rfl, by rw [HL.out]; rfl⟩, rfl⟩

set_option maxHeartbeats 400000 in
theorem contains24 (a : Option Addr) (l : List ByteArray) (c : Nat) (s : ByteArray) (w : World) (h : Strs w a l) (hn : l.length ≤ 65536) :
    Calls Try.prog 24 #[.slice a l.length c, .string s] w fun e w' => e = .returned (.bool (has l s)) ∧ w = w' := by
  have H := hide h
  clear h
  go_enter Try.func24, Try.ntmps24
  go_wp2_with fail
  refine (index30 a l c s _ H.out hn).mono ?_
  rintro e w' ⟨⟨r, rfl, hr⟩, rfl⟩
  have HR := hide hr
  clear hr
  go_wp2_with fail
  go_ret
  exact ⟨ret_bool HR.out, rfl⟩

/-- The closure over 'live'. -/
theorem in26 (a : Option Addr) (l : List ByteArray) (c b : Nat) (s : ByteArray) (w : World) (hc : w.cell? ⟨b, 0, none⟩ = some (.slice a l.length c)) (h : Strs w a l) (hn : l.length ≤ 65536) :
    Calls Try.prog 26 #[.string s, .pointer (some ⟨b, 0, none⟩)] w fun e w' => e = .returned (.bool (has l s)) ∧ w = w' := by
  have H := hide h
  clear h
  go_enter Try.func26, Try.ntmps26
  go_wp2_with fail
  refine (contains24 a l c s _ H.out hn).mono ?_
  rintro e w' ⟨rfl, rfl⟩
  go_wp2_with fail
  go_ret
  exact ⟨rfl, rfl⟩

/-- The closure over 'frozen'. -/
theorem in27 (a : Option Addr) (l : List ByteArray) (c b : Nat) (s : ByteArray) (w : World) (hc : w.cell? ⟨b, 0, none⟩ = some (.slice a l.length c)) (h : Strs w a l) (hn : l.length ≤ 65536) :
    Calls Try.prog 27 #[.string s, .pointer (some ⟨b, 0, none⟩)] w fun e w' => e = .returned (.bool (has l s)) ∧ w = w' := by
  have H := hide h
  clear h
  go_enter Try.func27, Try.ntmps27
  go_wp2_with fail
  refine (contains24 a l c s _ H.out hn).mono ?_
  rintro e w' ⟨rfl, rfl⟩
  go_wp2_with fail
  go_ret
  exact ⟨rfl, rfl⟩

/-- Function g is entered when it is called. -/
def Enters (g : Nat) : Prop := ∀ args w, (callFunc g args).run Try.prog w = .ok (.enter g args) w

/-- The function value over g and caps is the predicate p, from world w on. -/
def Pred (w : World) (g : Nat) (caps : Array Value) (p : ByteArray → Bool) : Prop :=
  Enters g ∧ ∀ s w', Below w.heap.size w w' → Calls Try.prog g (#[.string s] ++ caps) w' fun e w'' => e = .returned (.bool (p s)) ∧ Below w'.heap.size w' w''

theorem Pred.below {w w1 : World} {g : Nat} {caps : Array Value} {p : ByteArray → Bool} (h : Pred w g caps p) (hb : Below w.heap.size w w1) : Pred w1 g caps p :=
  ⟨h.1, fun s w' h' => h.2 s w' (below_trans hb h')⟩
theorem Pred.congr {w : World} {g : Nat} {caps : Array Value} {p q : ByteArray → Bool} (h : Pred w g caps p) (e : ∀ s, p s = q s) : Pred w g caps q := by
  have : p = q := funext e
  rw [← this]; exact h

theorem enters26 : Enters 26 := fun args w => by kernel_rfl
theorem enters27 : Enters 27 := fun args w => by kernel_rfl
theorem enters32 : Enters 32 := fun args w => by kernel_rfl
theorem enters35 : Enters 35 := fun args w => by kernel_rfl

theorem pred26 (a : Option Addr) (l : List ByteArray) (c b : Nat) (w : World) (hb : b < w.heap.size) (hc : w.cell? ⟨b, 0, none⟩ = some (.slice a l.length c)) (h : Strs w a l) (hn : l.length ≤ 65536) :
    Pred w 26 #[.pointer (some ⟨b, 0, none⟩)] (has l) :=
  ⟨enters26, fun s w' h' => (in26 a l c b s w' ((h'.cell (p := ⟨b, 0, none⟩) hb).trans hc) (h.below h') hn).mono fun e w'' ⟨he, hw⟩ => ⟨he, by subst hw; exact Below.refl _ _⟩⟩
theorem pred27 (a : Option Addr) (l : List ByteArray) (c b : Nat) (w : World) (hb : b < w.heap.size) (hc : w.cell? ⟨b, 0, none⟩ = some (.slice a l.length c)) (h : Strs w a l) (hn : l.length ≤ 65536) :
    Pred w 27 #[.pointer (some ⟨b, 0, none⟩)] (has l) :=
  ⟨enters27, fun s w' h' => (in27 a l c b s w' ((h'.cell (p := ⟨b, 0, none⟩) hb).trans hc) (h.below h') hn).mono fun e w'' ⟨he, hw⟩ => ⟨he, by subst hw; exact Below.refl _ _⟩⟩

set_option maxHeartbeats 400000 in
theorem not35 (g : Nat) (caps : Array Value) (p : ByteArray → Bool) (s : ByteArray) (b : Nat) (w : World) (hc : w.cell? ⟨b, 0, none⟩ = some (.func (.func g) #[] caps)) (hp : Pred w g caps p) :
    Calls Try.prog 35 #[.string s, .pointer (some ⟨b, 0, none⟩)] w fun e w' => e = .returned (.bool (!p s)) ∧ Below w.heap.size w w' := by
  have H := hide hp
  have he : ∀ args w, (callFunc g args).run Try.prog w = .ok (.enter g args) w := hp.1
  clear hp
  go_enter Try.func35, Try.ntmps35
  go_wp2_with fail
  refine (H.out.2 s _ (Below.refl _ _)).mono ?_
  rintro e w' ⟨rfl, hb⟩
  have HB := hide hb
  clear hb
  go_wp2_with fail
  go_ret
  exact ⟨rfl, HB.out⟩

theorem pred35 (g : Nat) (caps : Array Value) (p : ByteArray → Bool) (b : Nat) (w : World) (hb : b < w.heap.size) (hc : w.cell? ⟨b, 0, none⟩ = some (.func (.func g) #[] caps)) (hp : Pred w g caps p) :
    Pred w 35 #[.pointer (some ⟨b, 0, none⟩)] (fun s => !p s) :=
  ⟨enters35, fun s w' h' => not35 g caps p s b w' ((h'.cell (p := ⟨b, 0, none⟩) hb).trans hc) (hp.below h')⟩

set_option maxHeartbeats 400000 in
theorem not29 (g : Nat) (caps : Array Value) (p : ByteArray → Bool) (w : World) (hp : Pred w g caps p) :
    Calls Try.prog 29 #[.func (.func g) #[] caps] w fun e w' => ∃ H, e = .returned (.func (.func 35) #[] #[.pointer (some ⟨H, 0, none⟩)]) ∧ Pred w' 35 #[.pointer (some ⟨H, 0, none⟩)] (fun s => !p s) ∧ Below w.heap.size w w' := by
  have H := hide hp
  clear hp
  go_enter Try.func29, Try.ntmps29
  go_wp2
  go_ret
  have hb : Below w.heap.size w (w.alloc (.cells #[.func (.func g) #[] caps] 45)) := (Below.refl _ _).alloc (Nat.le_refl _) _
  exact ⟨_, rfl, pred35 g caps p w.heap.size _ (by simp) (by go_simp) (H.out.below hb), hb⟩

set_option maxHeartbeats 800000 in
theorem both32 (g1 g2 : Nat) (caps1 caps2 : Array Value) (p1 p2 : ByteArray → Bool) (s : ByteArray) (b1 b2 : Nat) (w : World) (hb2 : b2 < w.heap.size) (hc1 : w.cell? ⟨b1, 0, none⟩ = some (.func (.func g1) #[] caps1)) (hc2 : w.cell? ⟨b2, 0, none⟩ = some (.func (.func g2) #[] caps2))
    (hp1 : Pred w g1 caps1 p1) (hp2 : Pred w g2 caps2 p2) :
    Calls Try.prog 32 #[.string s, .pointer (some ⟨b1, 0, none⟩), .pointer (some ⟨b2, 0, none⟩)] w fun e w' => e = .returned (.bool (p1 s && !p2 s)) ∧ Below w.heap.size w w' := by
  have H1 := hide hp1
  have H2 := hide hp2
  have he1 : ∀ args w, (callFunc g1 args).run Try.prog w = .ok (.enter g1 args) w := hp1.1
  have he2 : ∀ args w, (callFunc g2 args).run Try.prog w = .ok (.enter g2 args) w := hp2.1
  clear hp1 hp2
  go_enter Try.func32, Try.ntmps32
  go_wp2_with fail
  refine (H1.out.2 s _ (Below.refl _ _)).mono ?_
  rintro e w1 ⟨rfl, hb⟩
  have HB := hide hb
  have hc2' := (hb.cell (p := ⟨b2, 0, none⟩) hb2).trans hc2
  clear hb
  cases h1 : p1 s
  · go_wp2_with fail
    go_ret
    exact ⟨ret_bool (by rw [h1]; rfl), HB.out⟩
  · go_wp2_with fail
    refine (H2.out.2 s _ HB.out).mono ?_
    rintro e w2 ⟨rfl, hb'⟩
    have HB2 := hide (below_trans HB.out hb')
    clear hb' HB
    go_wp2_with fail
    go_ret
    exact ⟨ret_bool (by rw [h1]; rfl), HB2.out⟩

theorem pred32 (g1 g2 : Nat) (caps1 caps2 : Array Value) (p1 p2 : ByteArray → Bool) (b1 b2 : Nat) (w : World) (hb1 : b1 < w.heap.size) (hb2 : b2 < w.heap.size) (hc1 : w.cell? ⟨b1, 0, none⟩ = some (.func (.func g1) #[] caps1)) (hc2 : w.cell? ⟨b2, 0, none⟩ = some (.func (.func g2) #[] caps2))
    (hp1 : Pred w g1 caps1 p1) (hp2 : Pred w g2 caps2 p2) :
    Pred w 32 #[.pointer (some ⟨b1, 0, none⟩), .pointer (some ⟨b2, 0, none⟩)] (fun s => p1 s && !p2 s) :=
  ⟨enters32, fun s w' h' => both32 g1 g2 caps1 caps2 p1 p2 s b1 b2 w' (Nat.lt_of_lt_of_le hb2 h'.size) ((h'.cell (p := ⟨b1, 0, none⟩) hb1).trans hc1) ((h'.cell (p := ⟨b2, 0, none⟩) hb2).trans hc2) (hp1.below h') (hp2.below h')⟩

end Go.Proofs.Qxb6612939a
