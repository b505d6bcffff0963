import Derived.Test.Qxb6612898aEwState
import Derived.BigRegion
namespace Go.Proofs.Qxb6612898a.EW
open Go.RowKit
theorem info5 : (Try.prog.info? 5).map (fun i => (i.zero, i.size, i.bytes)) = some (some (.int .u8 0), 1, 1) := by kernel_rfl
theorem info3 : (Try.prog.info? 3).map (fun i => (i.zero, i.size, i.bytes)) = some (some (.int .i64 0), 1, 8) := by kernel_rfl
theorem size5 : (Try.prog.info? 5).map (·.size) = some 1 := by kernel_rfl
theorem size3 : (Try.prog.info? 3).map (·.size) = some 1 := by kernel_rfl
theorem u8_one (l : List Int) : ∀ v ∈ u8s l, v.oneCell' = true := by
  intro v hv
  obtain ⟨_, _, rfl⟩ := List.mem_map.1 hv
  rfl
theorem i64_one (l : List Int) : ∀ v ∈ i64s l, v.oneCell' = true := by
  intro v hv
  obtain ⟨_, _, rfl⟩ := List.mem_map.1 hv
  rfl
theorem lens_len (J : List (List Int)) : (lens J).length = J.length := by simp [lens]

section
variable {w0 w w1 : World} {B T : Nat} {M : Option Nat} {V : Nat → Nat} {L : Nat → Int} {sz : Int} {wr rn : Value} {sp : Int} {sr lr wv sv lv : Value} {wl sl ll : List Int}
theorem Ow.addr {w : World} {B : Nat} {v : Value} {l : List Int} (h : Ow w B v l) (hl : 0 < l.length) : ∃ g c, v = .slice (some ⟨g, 0, none⟩) l.length c ∧ l.length ≤ c ∧ B ≤ g ∧ c ≤ maxLen := by
  rcases h.2 with ⟨_, h0⟩ | ⟨g, cap, cur, rfl, hbase, hh, hn, hm, _⟩
  · omega
  · exact ⟨g, cap, rfl, hn, hbase, hm⟩
theorem Oi.addr {w : World} {B : Nat} {v : Value} {l : List Int} (h : Oi w B v l) (hl : 0 < l.length) : ∃ g c, v = .slice (some ⟨g, 0, none⟩) l.length c ∧ l.length ≤ c ∧ B ≤ g ∧ c ≤ maxLen := by
  rcases h.2 with ⟨_, h0⟩ | ⟨g, cap, cur, rfl, hbase, hh, hn, hm, _⟩
  · omega
  · exact ⟨g, cap, rfl, hn, hbase, hm⟩
theorem Oi.cell {w : World} {B g c n : Nat} {l : List Int} (h : Oi w B (.slice (some ⟨g, 0, none⟩) n c) l) {i : Nat} (hi : i < l.length) : w.cell? ⟨g, i, none⟩ = some (.int .i64 (l.getD i 0)) := by
  have := World.ownsRow.cells h (g := g) rfl i (.int .i64 (l.getD i 0)) (by simp [i64s, List.getElem?_eq_getElem hi, List.getD_eq_getElem?_getD])
  rw [Addr.add_lit] at this
  simpa using this
theorem Ow.cell {w : World} {B g c n : Nat} {l : List Int} (h : Ow w B (.slice (some ⟨g, 0, none⟩) n c) l) {i : Nat} (hi : i < l.length) : w.cell? ⟨g, i, none⟩ = some (.int .u8 (l.getD i 0)) := by
  have := World.ownsRow.cells h (g := g) rfl i (.int .u8 (l.getD i 0)) (by simp [u8s, List.getElem?_eq_getElem hi, List.getD_eq_getElem?_getD])
  rw [Addr.add_lit] at this
  simpa using this
end

theorem jn_len (x : List Int) (r : List (List Int)) : (jn (x :: r)).length = x.length + 1 + (jn r).length := by simp [jn]; omega
theorem jn_ge : ∀ r : List (List Int), r.length ≤ (jn r).length
  | [] => by simp
  | x :: r => by rw [jn_len]; have := jn_ge r; simp; omega
theorem Ow.adr {w : World} {B : Nat} {v : Value} {l : List Int} (h : Ow w B v l) (hl : 0 < l.length) : ∃ g c n, v = .slice (some ⟨g, 0, none⟩) n c ∧ n = l.length ∧ n ≤ c := by
  obtain ⟨g, c, hv, hc, _⟩ := h.addr hl
  exact ⟨g, c, _, hv, rfl, hc⟩
theorem Oi.adr {w : World} {B : Nat} {v : Value} {l : List Int} (h : Oi w B v l) (hl : 0 < l.length) : ∃ g c n, v = .slice (some ⟨g, 0, none⟩) n c ∧ n = l.length ∧ n ≤ c := by
  obtain ⟨g, c, hv, hc, _⟩ := h.addr hl
  exact ⟨g, c, _, hv, rfl, hc⟩
theorem ow_app {w : World} {B n : Nat} {v : Value} {a b : List Int} (h : w.ownsRow B 5 1 v (n + b.length) (u8s a ++ u8s b)) (hn : n = a.length) : Ow w B v (a ++ b) := by
  subst hn
  unfold Ow u8s
  rw [List.length_append, List.map_append]
  exact h
theorem ow_app1 {w : World} {B n : Nat} {v : Value} {a b : List Int} {z : Int} (h : w.ownsRow B 5 1 v (n + 1) (u8s (a ++ b) ++ [.int .u8 z])) (hn : n = a.length + b.length) : Ow w B v (a ++ b ++ [z]) := by
  subst hn
  unfold Ow
  rw [List.length_append, List.length_append]
  simpa [u8s] using h
theorem oi_app1 {w : World} {B n : Nat} {v : Value} {r : List (List Int)} {z : Int} (h : w.ownsRow B 3 1 v (n + 1) (i64s (lens r) ++ [.int .i64 z])) (hn : n = r.length) : Oi w B v (lens r ++ [z]) := by
  subst hn
  unfold Oi
  rw [List.length_append, lens_len]
  simpa [i64s] using h
theorem Ow.shp {w : World} {B : Nat} {v : Value} {l : List Int} (h : Ow w B v l) : ∃ a c, v = .slice a l.length c := by
  obtain ⟨a, c, hv, _⟩ := h.bs
  exact ⟨a, c, hv⟩
theorem Oi.shp {w : World} {B : Nat} {v : Value} {l : List Int} (h : Oi w B v l) : ∃ a c, v = .slice a l.length c := by
  rcases h.2 with ⟨rfl, h0⟩ | ⟨g, cap, cur, rfl, _⟩
  · rw [h0]; exact ⟨none, 0, rfl⟩
  · exact ⟨_, _, rfl⟩
theorem ow_cut {w : World} {B g c m n k : Nat} {x : List Int} {r : List (List Int)} (h : w.ownsRow B 5 1 (.slice (some ⟨g, 0, none⟩) m c) m ((u8s (jn (x :: r))).drop (k + 1))) (hm : m = n - (k + 1)) (hn : n = (jn (x :: r)).length) (hk : k = x.length) : Ow w B (.slice (some ⟨g, 0, none⟩) m c) (jn r) := by
  subst hk
  unfold u8s at h
  rw [← List.map_drop, jn_drop] at h
  have : m = (jn r).length := by rw [hm, hn, jn_len]; omega
  unfold Ow
  rw [← this]
  exact h
theorem oi_cut {w : World} {B g c n : Nat} {x : List Int} {r : List (List Int)} (h : w.ownsRow B 3 1 (.slice (some ⟨g, 0, none⟩) n c) n ((i64s (lens (x :: r))).drop 1)) (hn : n = r.length) : Oi w B (.slice (some ⟨g, 0, none⟩) n c) (lens r) := by
  subst hn
  unfold Oi
  rw [lens_len]
  simpa [i64s, lens] using h

end Go.Proofs.Qxb6612898a.EW
