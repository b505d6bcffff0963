/-
  WALKS (F): the bound on total length (function 21).
-/
import Derived.Test.Qxb6612939aWalkE
namespace Go.Proofs.Qxb6612939a
open Go.RowKit

/-- It returns a bool. -/
def IsB (e : Ending) : Prop := ∃ r : Bool, e = .returned (.bool r)
theorem isB (r : Bool) : IsB (.returned (.bool r)) := ⟨r, rfl⟩

set_option maxHeartbeats 2000000 in
set_option maxRecDepth 100000 in
theorem bytes21 (id : ByteArray) (asked : Int)  (an : Option Addr) (ln : List ByteArray) (cn : Nat) (af : Option Addr) (lf : List ByteArray) (cf : Nat) (ar : Option Addr) (lr : List ByteArray) (cr : Nat) (au : Option Addr) (lu : List ByteArray) (cu : Nat) (av : Option Addr) (lv : List ByteArray) (cv : Nat) (az : Option Addr) (lz : List ByteArray) (cz : Nat) (w : World) (hid : id.size ≤ maxLen) (hn : Strs w an ln) (hf : Strs w af lf) (hr : Strs w ar lr) (hu : Strs w au lu) (hv : Strs w av lv) (hz : Strs w az lz) (mn : ln.length ≤ maxLen) (mf : lf.length ≤ maxLen) (mr : lr.length ≤ maxLen) (mu : lu.length ≤ maxLen) (mv : lv.length ≤ maxLen) (mz : lz.length ≤ maxLen) :
    Calls Try.prog 21 #[.string id, .slice an ln.length cn, .slice af lf.length cf, .slice ar lr.length cr, .slice au lu.length cu, .int .i64 asked, .slice av lv.length cv, .slice az lz.length cz] w fun e w' => IsB e ∧ w = w' := by
  have Hn := hide hn
  have Hf := hide hf
  have Hr := hide hr
  have Hu := hide hu
  have Hv := hide hv
  have Hz := hide hz
  clear hn hf hr hu hv hz
  unfold maxLen at hid mn mf mr mu mv mz
  go_enter Try.func21, Try.ntmps21
  go_wp2
  iterate 3
    · go_ret
      exact ⟨isB _, rfl⟩
  go_loop [17, 18] (fun t i => ∃ (k : Nat) (y : Int), k ≤ ln.length ∧ i = .int .i64 k ∧ t = .int .i64 y) (fun _ i => ln.length - (intOf i).toNat)
  case atStart => exact ⟨0, _, Nat.zero_le _, rfl, rfl⟩
  case round =>
    obtain ⟨k, y, hk, rfl, rfl⟩ := hrel
    by_cases hlt : k < ln.length
    · obtain hx | ⟨b, off, rfl, hb, hc⟩ := Hn.out
      · subst hx; simp at hlt
      have c0 := hc k hlt
      clear hc
      generalize ln.getD k ByteArray.empty = x at c0
      go_wp2
      · go_ret
        exact ⟨isB _, rfl⟩
      · go_ret
        exact ⟨isB _, rfl⟩
      · go_round
        case rel => exact ⟨k + 1, _, by omega, by go_num, rfl⟩
        case measure => simp [intOf]; omega
    clear hk Hn
    go_wp2
    iterate 2
      · go_ret
        exact ⟨isB _, rfl⟩
    go_loop [17, 19] (fun t i => ∃ (k : Nat) (y : Int), k ≤ lf.length ∧ i = .int .i64 k ∧ t = .int .i64 y) (fun _ i => lf.length - (intOf i).toNat)
    case atStart => exact ⟨0, _, Nat.zero_le _, rfl, rfl⟩
    case round =>
      obtain ⟨k, y, hk, rfl, rfl⟩ := hrel
      by_cases hlt : k < lf.length
      · obtain hx | ⟨b, off, rfl, hb, hc⟩ := Hf.out
        · subst hx; simp at hlt
        have c0 := hc k hlt
        clear hc
        generalize lf.getD k ByteArray.empty = x at c0
        go_wp2
        · go_ret
          exact ⟨isB _, rfl⟩
        · go_ret
          exact ⟨isB _, rfl⟩
        · go_round
          case rel => exact ⟨k + 1, _, by omega, by go_num, rfl⟩
          case measure => simp [intOf]; omega
      clear hk Hf
      go_wp2
      iterate 2
        · go_ret
          exact ⟨isB _, rfl⟩
      go_loop [17, 20] (fun t i => ∃ (k : Nat) (y : Int), k ≤ lr.length ∧ i = .int .i64 k ∧ t = .int .i64 y) (fun _ i => lr.length - (intOf i).toNat)
      case atStart => exact ⟨0, _, Nat.zero_le _, rfl, rfl⟩
      case round =>
        obtain ⟨k, y, hk, rfl, rfl⟩ := hrel
        by_cases hlt : k < lr.length
        · obtain hx | ⟨b, off, rfl, hb, hc⟩ := Hr.out
          · subst hx; simp at hlt
          have c0 := hc k hlt
          clear hc
          generalize lr.getD k ByteArray.empty = x at c0
          go_wp2
          · go_ret
            exact ⟨isB _, rfl⟩
          · go_ret
            exact ⟨isB _, rfl⟩
          · go_round
            case rel => exact ⟨k + 1, _, by omega, by go_num, rfl⟩
            case measure => simp [intOf]; omega
        clear hk Hr
        go_wp2
        iterate 2
          · go_ret
            exact ⟨isB _, rfl⟩
        go_loop [17, 21] (fun t i => ∃ (k : Nat) (y : Int), k ≤ lu.length ∧ i = .int .i64 k ∧ t = .int .i64 y) (fun _ i => lu.length - (intOf i).toNat)
        case atStart => exact ⟨0, _, Nat.zero_le _, rfl, rfl⟩
        case round =>
          obtain ⟨k, y, hk, rfl, rfl⟩ := hrel
          by_cases hlt : k < lu.length
          · obtain hx | ⟨b, off, rfl, hb, hc⟩ := Hu.out
            · subst hx; simp at hlt
            have c0 := hc k hlt
            clear hc
            generalize lu.getD k ByteArray.empty = x at c0
            go_wp2
            · go_ret
              exact ⟨isB _, rfl⟩
            · go_ret
              exact ⟨isB _, rfl⟩
            · go_round
              case rel => exact ⟨k + 1, _, by omega, by go_num, rfl⟩
              case measure => simp [intOf]; omega
          clear hk Hu
          go_wp2
          iterate 2
            · go_ret
              exact ⟨isB _, rfl⟩
          go_loop [17, 22] (fun t i => ∃ (k : Nat) (y : Int), k ≤ lv.length ∧ i = .int .i64 k ∧ t = .int .i64 y) (fun _ i => lv.length - (intOf i).toNat)
          case atStart => exact ⟨0, _, Nat.zero_le _, rfl, rfl⟩
          case round =>
            obtain ⟨k, y, hk, rfl, rfl⟩ := hrel
            by_cases hlt : k < lv.length
            · obtain hx | ⟨b, off, rfl, hb, hc⟩ := Hv.out
              · subst hx; simp at hlt
              have c0 := hc k hlt
              clear hc
              generalize lv.getD k ByteArray.empty = x at c0
              go_wp2
              · go_ret
                exact ⟨isB _, rfl⟩
              · go_ret
                exact ⟨isB _, rfl⟩
              · go_round
                case rel => exact ⟨k + 1, _, by omega, by go_num, rfl⟩
                case measure => simp [intOf]; omega
            clear hk Hv
            go_wp2
            iterate 2
              · go_ret
                exact ⟨isB _, rfl⟩
            go_loop [17, 23] (fun t i => ∃ (k : Nat) (y : Int), k ≤ lz.length ∧ i = .int .i64 k ∧ t = .int .i64 y) (fun _ i => lz.length - (intOf i).toNat)
            case atStart => exact ⟨0, _, Nat.zero_le _, rfl, rfl⟩
            case round =>
              obtain ⟨k, y, hk, rfl, rfl⟩ := hrel
              by_cases hlt : k < lz.length
              · obtain hx | ⟨b, off, rfl, hb, hc⟩ := Hz.out
                · subst hx; simp at hlt
                have c0 := hc k hlt
                clear hc
                generalize lz.getD k ByteArray.empty = x at c0
                go_wp2
                · go_ret
                  exact ⟨isB _, rfl⟩
                · go_ret
                  exact ⟨isB _, rfl⟩
                · go_round
                  case rel => exact ⟨k + 1, _, by omega, by go_num, rfl⟩
                  case measure => simp [intOf]; omega
              clear hk Hz
              go_wp2
              go_ret
              exact ⟨isB _, rfl⟩

end Go.Proofs.Qxb6612939a
