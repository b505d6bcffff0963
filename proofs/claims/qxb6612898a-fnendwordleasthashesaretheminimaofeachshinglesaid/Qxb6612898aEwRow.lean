/-
  WHAT THE WALKS ARE TOLD OF THE ARGUMENTS THAT CAME IN (EndWord): arrays by value, bytes, words.
-/
import Derived.Test.Qxb6612898aEwNew
import Derived.ProofKit
import Derived.OpenShut
import Derived.Deep.Matrix
namespace Go.Proofs.Qxb6612898a.EW
open Go.ChangeShapes Go.WideShapes Go.ChangeAt Go.RowKit

theorem ct30 : Try.prog.cellTypes Try.prog.depth 30 = some (List.replicate 64 29) := by kernel_rfl
theorem ct39 : Try.prog.cellTypes Try.prog.depth 39 = some (List.replicate 128 38) := by kernel_rfl
theorem cells30 : Try.prog.cellsOf 30 = 64 := by kernel_rfl
theorem cells39 : Try.prog.cellsOf 39 = 128 := by kernel_rfl
def fbits : Value → Nat
  | .float _ b => b
  | _ => 0
def ibits : Value → Int
  | .int _ b => b
  | _ => 0
theorem agg_floats {W : World} {base : Nat} {v : Value} (h : Value.okWide Try.prog W .any base 30 v) : ∃ V, v = .agg (fcs V).toArray := by
  simp only [Value.okWide, Try.underlying30] at h
  obtain ⟨cs, rfl, hsz, ts, hts, _, hc⟩ := h
  rw [cells30] at hsz
  rw [ct30] at hts
  obtain rfl := Option.some.inj hts
  refine ⟨fun i => fbits (cs.getD i undef), ?_⟩
  congr 1
  apply Array.ext_getElem?
  intro i
  by_cases hi : i < 64
  · have h1 : cs[i]? = some cs[i] := by simp [hsz, hi]
    obtain ⟨u, hu, hok⟩ := hc i cs[i] h1
    have hu' : u = 29 := by
      rw [List.length_replicate, Nat.mod_eq_of_lt hi, List.getElem?_replicate, if_pos hi] at hu
      exact (Option.some.inj hu).symm
    subst hu'
    obtain ⟨b, hb⟩ : ∃ b, cs[i] = .float .f64 b := by
      simp only [Cell.okWide, Try.underlying29] at hok
      cases hcs : cs[i] <;> simp_all [Cell.ok]
    rw [h1, List.getElem?_toArray, fcs_at _ hi]
    have : cs.getD i undef = .float .f64 b := by simp [hsz, hi, hb]
    rw [this, hb]
    rfl
  · rw [Array.getElem?_eq_none (by omega), Array.getElem?_eq_none (by simp [fcs_len]; omega)]
theorem agg_hashes {W : World} {base : Nat} {v : Value} (h : Value.okWide Try.prog W .any base 39 v) : ∃ L, v = .agg (lcs L).toArray := by
  simp only [Value.okWide, Try.underlying39] at h
  obtain ⟨cs, rfl, hsz, ts, hts, _, hc⟩ := h
  rw [cells39] at hsz
  rw [ct39] at hts
  obtain rfl := Option.some.inj hts
  refine ⟨fun i => ibits (cs.getD i undef), ?_⟩
  congr 1
  apply Array.ext_getElem?
  intro i
  by_cases hi : i < 128
  · have h1 : cs[i]? = some cs[i] := by simp [hsz, hi]
    obtain ⟨u, hu, hok⟩ := hc i cs[i] h1
    have hu' : u = 38 := by
      rw [List.length_replicate, Nat.mod_eq_of_lt hi, List.getElem?_replicate, if_pos hi] at hu
      exact (Option.some.inj hu).symm
    subst hu'
    obtain ⟨b, hb⟩ : ∃ b, cs[i] = .int .u64 b := by
      simp only [Cell.okWide, Try.underlying38] at hok
      cases hcs : cs[i] <;> simp_all [Cell.ok]
    rw [h1, List.getElem?_toArray, lcs_at _ hi]
    have : cs.getD i undef = .int .u64 b := by simp [hsz, hi, hb]
    rw [this, hb]
    rfl
  · rw [Array.getElem?_eq_none (by omega), Array.getElem?_eq_none (by simp [lcs_len]; omega)]

/-- Bytes at an address. -/
theorem bs_of {W : World} {x : Addr} {len : Nat} {zs : List Int} (hl : len ≤ zs.length) (hc : ∀ c, c < zs.length → W.cell? (x.add c) = some (.int .u8 (zs.getD c 0))) : Bs W (some x) (zs.take len) := by
  by_cases h0 : len = 0
  · left; rw [h0, List.take_zero]
  · obtain ⟨b, off, spot⟩ := x
    have hspot : spot = none := by simpa [Addr.add] using World.cell?_spot (hc 0 (by omega))
    subst hspot
    refine .inr ⟨b, off, rfl, ?_, fun i hi => ?_⟩
    · have h1 := hc 0 (by omega)
      rw [add_plain] at h1
      exact block_lt_of_cell h1
    · rw [List.length_take] at hi
      have h1 := hc i (by omega)
      rw [add_plain] at h1
      rw [h1, List.getD_eq_getElem?_getD, List.getD_eq_getElem?_getD, List.getElem?_take, if_pos (by omega)]
theorem bytes_of {H : Type} {enc : TypeId × Value → H} {W : World} {a : Option Addr} {len cap : Nat} {d : DataW H} {p : List MemPlace}
    (h : DataW.Trod enc Try.prog W 0 (fun _ => true) true 31 (.slice a len cap) d p) : ∃ l : List Int, Cl W (.slice a len cap) l ∧ l.length ≤ maxLen := by
  obtain ⟨fuel, hf⟩ := h
  rcases open_ints Try.underlying31 Try.underlying5 (by kernel_rfl) hf with ⟨hcs, _⟩ | ⟨x, l, c, zs, hcs, _, hl, hm, hz, _, hcell, hwz⟩
  · simp [Value.cells] at hcs
    obtain ⟨rfl, rfl, rfl⟩ := hcs
    exact ⟨[], .inl ⟨rfl, rfl⟩, Nat.zero_le _⟩
  · simp [Value.cells] at hcs
    obtain ⟨rfl, rfl, rfl⟩ := hcs
    simp at hz
    have e0 : (zs.take len).length = len := by rw [List.length_take]; omega
    exact ⟨zs.take len, .inr ⟨x, cap, by rw [e0], by rw [e0]; exact hl, bs_of (by omega) hcell⟩, by rw [e0]; exact Nat.le_trans hl hm⟩
theorem words_of {H : Type} {enc : TypeId × Value → H} {W : World} {a : Option Addr} {len cap : Nat} {d : DataW H} {p : List MemPlace}
    (h : DataW.Trod enc Try.prog W 0 (fun _ => true) true 32 (.slice a len cap) d p) : ∃ K : List (List Int), len = K.length ∧ Ws W a K ∧ (a = none → K = []) ∧ K.length ≤ maxLen ∧ ∀ i, (K.getD i []).length ≤ maxLen := by
  obtain ⟨fuel, hf⟩ := h
  rcases Go.Deep.open_int_rows Try.underlying32 Try.underlying31 Try.underlying5 (by kernel_rfl) (by kernel_rfl) hf with ⟨hcs, _⟩ | ⟨x, l, c, A, L, C, Z, hcs, _, hl, hm, _, hr⟩
  · simp [Value.cells] at hcs
    obtain ⟨rfl, rfl, rfl⟩ := hcs
    exact ⟨[], rfl, .inl rfl, fun _ => rfl, Nat.zero_le _, fun i => by simp⟩
  · simp [Value.cells] at hcs
    obtain ⟨rfl, rfl, rfl⟩ := hcs
    have hat : ∀ i, i < len → ((List.range len).map fun r => (Z r).take (L r)).getD i [] = (Z i).take (L i) := fun i hi => by
      simp [List.getD_eq_getElem?_getD, hi]
    refine ⟨(List.range len).map fun r => (Z r).take (L r), by simp, ?_, fun h => by simp at h, by simp; omega, fun i => ?_⟩
    · by_cases h0 : len = 0
      · left; rw [h0]; rfl
      · obtain ⟨b, off, spot⟩ := x
        have hspot : spot = none := by simpa [Addr.add] using World.cell?_spot (hr 0 (by omega)).1
        subst hspot
        refine .inr ⟨b, off, rfl, ?_, fun i hi => ?_⟩
        · have h1 := (hr 0 (by omega)).1
          rw [add_plain] at h1
          exact block_lt_of_cell h1
        · have hi' : i < len := by simpa using hi
          obtain ⟨h1, h2, h3, h4, _, h5, h6⟩ := hr i (by omega)
          rw [add_plain] at h1
          refine ⟨_, h1, ?_⟩
          rw [hat i hi']
          have e0 : ((Z i).take (L i)).length = L i := by rw [List.length_take]; omega
          cases hA : A i with
          | none =>
            have hC := h5 hA
            have hL0 : L i = 0 := by omega
            left
            rw [hC, hL0]
            exact ⟨rfl, by simp⟩
          | some y =>
            right
            exact ⟨y, C i, by rw [e0], by rw [e0]; exact h2, bs_of (by omega) (fun c hc => (h6 y hA).2 c (by omega))⟩
    · by_cases hi : i < len
      · rw [hat i hi, List.length_take]
        obtain ⟨_, h2, h3, _⟩ := hr i (by omega)
        omega
      · simp [List.getD_eq_getElem?_getD, hi]
end Go.Proofs.Qxb6612898a.EW
