/-
  WALKS (EndWord): ZZtextWalkState of a walk that keeps least hashes.
-/
import Derived.Test.Qxb6612898aEwStateV
namespace Go.Proofs.Qxb6612898a.EW
open Go.RowKit

set_option linter.unusedSimpArgs false in
set_option maxHeartbeats 40000000 in
set_option maxRecDepth 100000 in
theorem state19_least (B T b : Nat) (V : Nat → Nat) (L : Nat → Int) (sz : Int) (rn : Value) (sp : Int) (sh ln wd : Value) (wl sl ll : List Int) (w0 w : World)
    (hal : Al w0 w B T (some b) V L sz wd rn sp sh ln wd sh ln wl sl ll) (hrn : ∃ a n c, rn = .slice a n c) :
    Calls Try.prog 19 #[.pointer (some ⟨T, 0, none⟩)] w fun e w' => e = .returned (.tuple #[.agg (fcs V).toArray, .bool true, .agg (lcs L).toArray, .int .i64 sz, wd, rn, .int .i64 sp, sh, ln]) ∧ Below w.heap.size w w' := by
  have hz := z39
  obtain ⟨ar, nr, cr, rfl⟩ := hrn
  obtain ⟨aw, cw, rfl⟩ := hal.ow.shp
  obtain ⟨ax, cx, rfl⟩ := hal.os.shp
  obtain ⟨al, cl, rfl⟩ := hal.ol.shp
  have HS := hide hal.st
  clear hal
  have c64 := fun (o o' o'' : Obj) => c64n (HS.out.below (a3_below w o o' o''))
  simp only [lptr] at c64
  have RB := hide (fun (o o' o'' : Obj) => range_lf (row_below (a3_below w o o' o'') (HS.out.ls b rfl).2))
  have hTl := HS.out.row.lt
  go_enter Try.func19, Try.ntmps19
  go_wp2_with (first
    | refine wpList_load_mid rfl 59 _ rfl b 0 rfl (lcs L) _ (RB.out _ _ _) Try.underlying59 rfl (size59 L) ?_
    | refine wpList_store_all rfl 39 _ _ rfl (w.heap.size + 2) 39 (lcs L) rfl rfl _ (a3_row w _ _ _ 39 _ (by simp [lcs_len])) (size39 L) (lcs_one L) ?_)
  intro W HRL HG0
  have HB := hide (show Below w.heap.size w W from (a3_below w _ _ _).grown HG0.out (by simp; omega) (fun j hj => by simp at hj; omega))
  have HS1 := hide (HS.out.below HB.out)
  have HR2 := hide (row_grown (T := w.heap.size) (((row_fresh w _ 30 64 rfl).alloc _).alloc _) HG0.out (by simp))
  have HR4 := hide (row_grown (T := w.heap.size + 1) (a3_row1 w _ _ (lcs fun _ => 0).toArray 39 128 (by simp [lcs_len])) HG0.out (by simp))
  have HR11 := hide (range_lf (lf_lcs HRL.out))
  clear HG0 HRL RB
  go_upto_region 5 with fail
  have hT2 : w.heap.size ≠ T := by omega
  have hT4 : w.heap.size + 1 ≠ T := by omega
  have r1 := range_vf HS1.out.row (by omega)
  have r2 : W.rangeAt (w.heap.size + 1 + 1) 0 (lcs L) := HR11.out
  have r3 := there_row HR2.out (m := 64) (by omega)
  have r4 := there_row HR4.out (m := 128) (by omega)
  have RD : Rd W T w.heap.size (w.heap.size + 1) (w.heap.size + 1 + 1) V L sz (.slice aw wl.length cw) (.slice ar nr cr) sp (.slice ax sl.length cx) (.slice al ll.length cl) := ⟨r1, c65 HS1.out, c66 HS1.out, c67 HS1.out, c68 HS1.out, c69 HS1.out, c70 HS1.out, r2, r3, r4⟩
  clear r1 r2 r3 r4 hTl
  generalize hG : w.heap.size + 1 + 1 = G at RD ⊢
  generalize hI : w.heap.size + 1 = I at RD hT4 ⊢
  generalize hH : w.heap.size = H at RD hT2 ⊢
  have HG := hide (And.intro hG (And.intro hI hH))
  have n24 : H ≠ I := by omega
  have n2G : H ≠ G := by omega
  have n4G : I ≠ G := by omega
  clear hG hI hH
  clear HR2 HR4 HR11 hz c64 HS HS1
  refine wp_region_held_drew (S := fun w' => Rd w' T H I G V (L) sz (.slice aw wl.length cw) (.slice ar nr cr) sp (.slice ax sl.length cx) (.slice al ll.length cl)) (by kernel_rfl) RD.drew (fun hHeld => ?_)
  have RDH := hide RD
  clear RD
  refine wpAnyH_take (i := 0) (oi := { dst := some 25, op := Op.move (Operand.tmp 0), type := _, pos := _, after := _, guard := none }) (v := (.pointer (some ⟨T, 0, none⟩))) rfl (by kernel_rfl) (by kernel_rfl) (by kernel_rfl) (fun _ _ _ h => h) (Or.inl ⟨by rfl, ?_⟩) hHeld ?_
  · intro w' _
    go_simp
  simp only [Act.put, List.setIfInBounds_toArray, List.set_cons_zero, List.set_cons_succ]
  refine wpAnyH_take (i := 1) (oi := { dst := some 26, op := Op.nilCheck (Operand.tmp 25), type := _, pos := _, after := _, guard := none }) (v := (.pointer (some ⟨T, 0, none⟩))) rfl (by kernel_rfl) (by kernel_rfl) (by kernel_rfl) (fun _ _ _ h => h) (Or.inl ⟨by rfl, ?_⟩) hHeld ?_
  · intro w' _
    go_simp
  simp only [Act.put, List.setIfInBounds_toArray, List.set_cons_zero, List.set_cons_succ]
  refine wpAnyH_take (i := 2) (oi := { dst := some 27, op := Op.fieldAddr 58 (Operand.tmp 26) 0, type := _, pos := _, after := _, guard := none }) (v := (.pointer (some ⟨T, 0, none⟩))) rfl (by kernel_rfl) (by kernel_rfl) (by kernel_rfl) (fun _ _ _ h => h) (Or.inl ⟨by rfl, ?_⟩) hHeld ?_
  · intro w' _
    go_simp
  simp only [Act.put, List.setIfInBounds_toArray, List.set_cons_zero, List.set_cons_succ]
  refine wpAnyH_take (i := 3) (oi := { dst := some 28, op := Op.load 55 (Operand.tmp 27), type := _, pos := _, after := _, guard := none }) (v := .agg (fcs V).toArray) rfl (by kernel_rfl) (by kernel_rfl) (by kernel_rfl) (fun _ _ _ h => h) (yieldsIf_load_mid (by rfl) 55 _ rfl T 0 rfl (fcs V) _ (fun w' h => h.rv) Try.underlying55 rfl (size55 V)) hHeld ?_
  simp only [Act.put, List.setIfInBounds_toArray, List.set_cons_zero, List.set_cons_succ]
  refine wpAnyH_take (i := 4) (oi := { dst := some 29, op := Op.move (Operand.tmp 12), type := _, pos := _, after := _, guard := none }) (v := (.bool true)) rfl (by kernel_rfl) (by kernel_rfl) (by kernel_rfl) (fun _ _ _ h => h) (Or.inl ⟨by rfl, ?_⟩) hHeld ?_
  · intro w' _
    go_simp
  simp only [Act.put, List.setIfInBounds_toArray, List.set_cons_zero, List.set_cons_succ]
  refine wpAnyH_take (i := 5) (oi := { dst := some 30, op := Op.load 39 (Operand.tmp 11), type := _, pos := _, after := _, guard := none }) (v := .agg (lcs (L)).toArray) rfl (by kernel_rfl) (by kernel_rfl) (by kernel_rfl) (fun _ _ _ h => h) (yieldsIf_load_mid (by rfl) 39 _ rfl G 0 rfl (lcs (L)) _ (fun w' h => h.rl) Try.underlying39 rfl (size39 _)) hHeld ?_
  simp only [Act.put, List.setIfInBounds_toArray, List.set_cons_zero, List.set_cons_succ]
  refine wpAnyH_take (i := 6) (oi := { dst := some 31, op := Op.move (Operand.tmp 0), type := _, pos := _, after := _, guard := none }) (v := (.pointer (some ⟨T, 0, none⟩))) rfl (by kernel_rfl) (by kernel_rfl) (by kernel_rfl) (fun _ _ _ h => h) (Or.inl ⟨by rfl, ?_⟩) hHeld ?_
  · intro w' _
    go_simp
  simp only [Act.put, List.setIfInBounds_toArray, List.set_cons_zero, List.set_cons_succ]
  refine wpAnyH_take (i := 7) (oi := { dst := some 32, op := Op.nilCheck (Operand.tmp 31), type := _, pos := _, after := _, guard := none }) (v := (.pointer (some ⟨T, 0, none⟩))) rfl (by kernel_rfl) (by kernel_rfl) (by kernel_rfl) (fun _ _ _ h => h) (Or.inl ⟨by rfl, ?_⟩) hHeld ?_
  · intro w' _
    go_simp
  simp only [Act.put, List.setIfInBounds_toArray, List.set_cons_zero, List.set_cons_succ]
  refine wpAnyH_take (i := 8) (oi := { dst := some 33, op := Op.fieldAddr 58 (Operand.tmp 32) 2, type := _, pos := _, after := _, guard := none }) (v := (.pointer (some ⟨T, 65, none⟩))) rfl (by kernel_rfl) (by kernel_rfl) (by kernel_rfl) (fun _ _ _ h => h) (Or.inl ⟨by rfl, ?_⟩) hHeld ?_
  · intro w' _
    go_simp
  simp only [Act.put, List.setIfInBounds_toArray, List.set_cons_zero, List.set_cons_succ]
  refine wpAnyH_take (i := 9) (oi := { dst := some 34, op := Op.load 3 (Operand.tmp 33), type := _, pos := _, after := _, guard := none }) (v := (.int .i64 sz)) rfl (by kernel_rfl) (by kernel_rfl) (by kernel_rfl) (fun _ _ _ h => h) (Or.inl ⟨by rfl, ?_⟩) hHeld ?_
  · intro w' hS'
    have hq := hS'.c65
    clear hS'
    go_simp
  simp only [Act.put, List.setIfInBounds_toArray, List.set_cons_zero, List.set_cons_succ]
  refine wpAnyH_take (i := 10) (oi := { dst := some 35, op := Op.move (Operand.tmp 0), type := _, pos := _, after := _, guard := none }) (v := (.pointer (some ⟨T, 0, none⟩))) rfl (by kernel_rfl) (by kernel_rfl) (by kernel_rfl) (fun _ _ _ h => h) (Or.inl ⟨by rfl, ?_⟩) hHeld ?_
  · intro w' _
    go_simp
  simp only [Act.put, List.setIfInBounds_toArray, List.set_cons_zero, List.set_cons_succ]
  refine wpAnyH_take (i := 11) (oi := { dst := some 36, op := Op.nilCheck (Operand.tmp 35), type := _, pos := _, after := _, guard := none }) (v := (.pointer (some ⟨T, 0, none⟩))) rfl (by kernel_rfl) (by kernel_rfl) (by kernel_rfl) (fun _ _ _ h => h) (Or.inl ⟨by rfl, ?_⟩) hHeld ?_
  · intro w' _
    go_simp
  simp only [Act.put, List.setIfInBounds_toArray, List.set_cons_zero, List.set_cons_succ]
  refine wpAnyH_take (i := 12) (oi := { dst := some 37, op := Op.fieldAddr 58 (Operand.tmp 36) 3, type := _, pos := _, after := _, guard := none }) (v := (.pointer (some ⟨T, 66, none⟩))) rfl (by kernel_rfl) (by kernel_rfl) (by kernel_rfl) (fun _ _ _ h => h) (Or.inl ⟨by rfl, ?_⟩) hHeld ?_
  · intro w' _
    go_simp
  simp only [Act.put, List.setIfInBounds_toArray, List.set_cons_zero, List.set_cons_succ]
  refine wpAnyH_take (i := 13) (oi := { dst := some 38, op := Op.load 31 (Operand.tmp 37), type := _, pos := _, after := _, guard := none }) (v := (.slice aw wl.length cw)) rfl (by kernel_rfl) (by kernel_rfl) (by kernel_rfl) (fun _ _ _ h => h) (Or.inl ⟨by rfl, ?_⟩) hHeld ?_
  · intro w' hS'
    have hq := hS'.c66
    clear hS'
    go_simp
  simp only [Act.put, List.setIfInBounds_toArray, List.set_cons_zero, List.set_cons_succ]
  refine wpAnyH_take (i := 14) (oi := { dst := some 39, op := Op.move (Operand.tmp 0), type := _, pos := _, after := _, guard := none }) (v := (.pointer (some ⟨T, 0, none⟩))) rfl (by kernel_rfl) (by kernel_rfl) (by kernel_rfl) (fun _ _ _ h => h) (Or.inl ⟨by rfl, ?_⟩) hHeld ?_
  · intro w' _
    go_simp
  simp only [Act.put, List.setIfInBounds_toArray, List.set_cons_zero, List.set_cons_succ]
  refine wpAnyH_take (i := 15) (oi := { dst := some 40, op := Op.nilCheck (Operand.tmp 39), type := _, pos := _, after := _, guard := none }) (v := (.pointer (some ⟨T, 0, none⟩))) rfl (by kernel_rfl) (by kernel_rfl) (by kernel_rfl) (fun _ _ _ h => h) (Or.inl ⟨by rfl, ?_⟩) hHeld ?_
  · intro w' _
    go_simp
  simp only [Act.put, List.setIfInBounds_toArray, List.set_cons_zero, List.set_cons_succ]
  refine wpAnyH_take (i := 16) (oi := { dst := some 41, op := Op.fieldAddr 58 (Operand.tmp 40) 4, type := _, pos := _, after := _, guard := none }) (v := (.pointer (some ⟨T, 67, none⟩))) rfl (by kernel_rfl) (by kernel_rfl) (by kernel_rfl) (fun _ _ _ h => h) (Or.inl ⟨by rfl, ?_⟩) hHeld ?_
  · intro w' _
    go_simp
  simp only [Act.put, List.setIfInBounds_toArray, List.set_cons_zero, List.set_cons_succ]
  refine wpAnyH_take (i := 17) (oi := { dst := some 42, op := Op.load 31 (Operand.tmp 41), type := _, pos := _, after := _, guard := none }) (v := (.slice ar nr cr)) rfl (by kernel_rfl) (by kernel_rfl) (by kernel_rfl) (fun _ _ _ h => h) (Or.inl ⟨by rfl, ?_⟩) hHeld ?_
  · intro w' hS'
    have hq := hS'.c67
    clear hS'
    go_simp
  simp only [Act.put, List.setIfInBounds_toArray, List.set_cons_zero, List.set_cons_succ]
  refine wpAnyH_take (i := 18) (oi := { dst := some 43, op := Op.move (Operand.tmp 0), type := _, pos := _, after := _, guard := none }) (v := (.pointer (some ⟨T, 0, none⟩))) rfl (by kernel_rfl) (by kernel_rfl) (by kernel_rfl) (fun _ _ _ h => h) (Or.inl ⟨by rfl, ?_⟩) hHeld ?_
  · intro w' _
    go_simp
  simp only [Act.put, List.setIfInBounds_toArray, List.set_cons_zero, List.set_cons_succ]
  refine wpAnyH_take (i := 19) (oi := { dst := some 44, op := Op.nilCheck (Operand.tmp 43), type := _, pos := _, after := _, guard := none }) (v := (.pointer (some ⟨T, 0, none⟩))) rfl (by kernel_rfl) (by kernel_rfl) (by kernel_rfl) (fun _ _ _ h => h) (Or.inl ⟨by rfl, ?_⟩) hHeld ?_
  · intro w' _
    go_simp
  simp only [Act.put, List.setIfInBounds_toArray, List.set_cons_zero, List.set_cons_succ]
  refine wpAnyH_take (i := 20) (oi := { dst := some 45, op := Op.fieldAddr 58 (Operand.tmp 44) 5, type := _, pos := _, after := _, guard := none }) (v := (.pointer (some ⟨T, 68, none⟩))) rfl (by kernel_rfl) (by kernel_rfl) (by kernel_rfl) (fun _ _ _ h => h) (Or.inl ⟨by rfl, ?_⟩) hHeld ?_
  · intro w' _
    go_simp
  simp only [Act.put, List.setIfInBounds_toArray, List.set_cons_zero, List.set_cons_succ]
  refine wpAnyH_take (i := 21) (oi := { dst := some 46, op := Op.load 3 (Operand.tmp 45), type := _, pos := _, after := _, guard := none }) (v := (.int .i64 sp)) rfl (by kernel_rfl) (by kernel_rfl) (by kernel_rfl) (fun _ _ _ h => h) (Or.inl ⟨by rfl, ?_⟩) hHeld ?_
  · intro w' hS'
    have hq := hS'.c68
    clear hS'
    go_simp
  simp only [Act.put, List.setIfInBounds_toArray, List.set_cons_zero, List.set_cons_succ]
  refine wpAnyH_take (i := 22) (oi := { dst := some 47, op := Op.move (Operand.tmp 0), type := _, pos := _, after := _, guard := none }) (v := (.pointer (some ⟨T, 0, none⟩))) rfl (by kernel_rfl) (by kernel_rfl) (by kernel_rfl) (fun _ _ _ h => h) (Or.inl ⟨by rfl, ?_⟩) hHeld ?_
  · intro w' _
    go_simp
  simp only [Act.put, List.setIfInBounds_toArray, List.set_cons_zero, List.set_cons_succ]
  refine wpAnyH_take (i := 23) (oi := { dst := some 48, op := Op.nilCheck (Operand.tmp 47), type := _, pos := _, after := _, guard := none }) (v := (.pointer (some ⟨T, 0, none⟩))) rfl (by kernel_rfl) (by kernel_rfl) (by kernel_rfl) (fun _ _ _ h => h) (Or.inl ⟨by rfl, ?_⟩) hHeld ?_
  · intro w' _
    go_simp
  simp only [Act.put, List.setIfInBounds_toArray, List.set_cons_zero, List.set_cons_succ]
  refine wpAnyH_take (i := 24) (oi := { dst := some 49, op := Op.fieldAddr 58 (Operand.tmp 48) 6, type := _, pos := _, after := _, guard := none }) (v := (.pointer (some ⟨T, 69, none⟩))) rfl (by kernel_rfl) (by kernel_rfl) (by kernel_rfl) (fun _ _ _ h => h) (Or.inl ⟨by rfl, ?_⟩) hHeld ?_
  · intro w' _
    go_simp
  simp only [Act.put, List.setIfInBounds_toArray, List.set_cons_zero, List.set_cons_succ]
  refine wpAnyH_take (i := 25) (oi := { dst := some 50, op := Op.load 31 (Operand.tmp 49), type := _, pos := _, after := _, guard := none }) (v := (.slice ax sl.length cx)) rfl (by kernel_rfl) (by kernel_rfl) (by kernel_rfl) (fun _ _ _ h => h) (Or.inl ⟨by rfl, ?_⟩) hHeld ?_
  · intro w' hS'
    have hq := hS'.c69
    clear hS'
    go_simp
  simp only [Act.put, List.setIfInBounds_toArray, List.set_cons_zero, List.set_cons_succ]
  refine wpAnyH_take (i := 26) (oi := { dst := some 51, op := Op.move (Operand.tmp 0), type := _, pos := _, after := _, guard := none }) (v := (.pointer (some ⟨T, 0, none⟩))) rfl (by kernel_rfl) (by kernel_rfl) (by kernel_rfl) (fun _ _ _ h => h) (Or.inl ⟨by rfl, ?_⟩) hHeld ?_
  · intro w' _
    go_simp
  simp only [Act.put, List.setIfInBounds_toArray, List.set_cons_zero, List.set_cons_succ]
  refine wpAnyH_take (i := 27) (oi := { dst := some 52, op := Op.nilCheck (Operand.tmp 51), type := _, pos := _, after := _, guard := none }) (v := (.pointer (some ⟨T, 0, none⟩))) rfl (by kernel_rfl) (by kernel_rfl) (by kernel_rfl) (fun _ _ _ h => h) (Or.inl ⟨by rfl, ?_⟩) hHeld ?_
  · intro w' _
    go_simp
  simp only [Act.put, List.setIfInBounds_toArray, List.set_cons_zero, List.set_cons_succ]
  refine wpAnyH_take (i := 28) (oi := { dst := some 53, op := Op.fieldAddr 58 (Operand.tmp 52) 7, type := _, pos := _, after := _, guard := none }) (v := (.pointer (some ⟨T, 70, none⟩))) rfl (by kernel_rfl) (by kernel_rfl) (by kernel_rfl) (fun _ _ _ h => h) (Or.inl ⟨by rfl, ?_⟩) hHeld ?_
  · intro w' _
    go_simp
  simp only [Act.put, List.setIfInBounds_toArray, List.set_cons_zero, List.set_cons_succ]
  refine wpAnyH_take (i := 29) (oi := { dst := some 54, op := Op.load 22 (Operand.tmp 53), type := _, pos := _, after := _, guard := none }) (v := (.slice al ll.length cl)) rfl (by kernel_rfl) (by kernel_rfl) (by kernel_rfl) (fun _ _ _ h => h) (Or.inl ⟨by rfl, ?_⟩) hHeld ?_
  · intro w' hS'
    have hq := hS'.c70
    clear hS'
    go_simp
  simp only [Act.put, List.setIfInBounds_toArray, List.set_cons_zero, List.set_cons_succ]
  refine wpAnyH_ready (rs := [30]) (by kernel_rfl) (by simp) ?_
  refine AllReadyH.cons (o := { dst := none, op := Op.store 30 (Operand.tmp 2) (Operand.tmp 28), type := _, pos := _, after := _, guard := none }) rfl (fun K hK => ?_) ?_
  rotate_left
  · exact AllReadyH.nil
  rw [if_pos (by rfl)]
  refine wp_store_mid 30 _ _ rfl H 0 (fcs V).toArray rfl rfl (by rw [List.size_toArray, fcs_len]; exact hHeld.t2) (by simpa using (size30 V)) (all_oneCell_toArray (fcs_one V)) ?_
  simp only [Act.put, List.setIfInBounds_toArray, List.set_cons_zero, List.set_cons_succ, List.toList_toArray]
  refine hK.out _ _ (hHeld.set hT2 n2G (.inl rfl)) (fun hHeld2 => ?_)
  clear hK K hHeld
  have hHeld := hHeld2
  clear hHeld2
  generalize hW2 : W.drew.setCells H 0 (fcs V) = W2 at hHeld ⊢
  have HW2 := hide hW2
  clear hW2
  refine wpAnyH_take (i := 31) (oi := { dst := some 3, op := Op.assign (Operand.tmp 29), type := _, pos := _, after := _, guard := none }) (v := (.bool true)) rfl (by kernel_rfl) (by kernel_rfl) (by kernel_rfl) (fun _ _ _ h => h) (Or.inl ⟨by rfl, ?_⟩) hHeld ?_
  · intro w' _
    go_simp
  simp only [Act.put, List.setIfInBounds_toArray, List.set_cons_zero, List.set_cons_succ]
  refine wpAnyH_ready (rs := [32]) (by kernel_rfl) (by simp) ?_
  refine AllReadyH.cons (o := { dst := none, op := Op.store 39 (Operand.tmp 4) (Operand.tmp 30), type := _, pos := _, after := _, guard := none }) rfl (fun K hK => ?_) ?_
  rotate_left
  · exact AllReadyH.nil
  rw [if_pos (by rfl)]
  refine wp_store_mid 39 _ _ rfl I 0 (lcs (L)).toArray rfl rfl (by rw [List.size_toArray, lcs_len]; exact hHeld.t4) (by simpa using (size39 (L))) (all_oneCell_toArray (lcs_one _)) ?_
  simp only [Act.put, List.setIfInBounds_toArray, List.set_cons_zero, List.set_cons_succ, List.toList_toArray]
  refine hK.out _ _ (hHeld.set hT4 n4G (.inr rfl)) (fun hHeld2 => ?_)
  clear hK K hHeld
  have hHeld := hHeld2
  clear hHeld2
  generalize hW3 : W2.setCells I 0 (lcs (L)) = W3 at hHeld ⊢
  have HW3 := hide hW3
  clear hW3
  refine wpAnyH_take (i := 33) (oi := { dst := some 5, op := Op.assign (Operand.tmp 34), type := _, pos := _, after := _, guard := none }) (v := (.int .i64 sz)) rfl (by kernel_rfl) (by kernel_rfl) (by kernel_rfl) (fun _ _ _ h => h) (Or.inl ⟨by rfl, ?_⟩) hHeld ?_
  · intro w' _
    go_simp
  simp only [Act.put, List.setIfInBounds_toArray, List.set_cons_zero, List.set_cons_succ]
  refine wpAnyH_take (i := 34) (oi := { dst := some 6, op := Op.assign (Operand.tmp 38), type := _, pos := _, after := _, guard := none }) (v := (.slice aw wl.length cw)) rfl (by kernel_rfl) (by kernel_rfl) (by kernel_rfl) (fun _ _ _ h => h) (Or.inl ⟨by rfl, ?_⟩) hHeld ?_
  · intro w' _
    go_simp
  simp only [Act.put, List.setIfInBounds_toArray, List.set_cons_zero, List.set_cons_succ]
  refine wpAnyH_take (i := 35) (oi := { dst := some 7, op := Op.assign (Operand.tmp 42), type := _, pos := _, after := _, guard := none }) (v := (.slice ar nr cr)) rfl (by kernel_rfl) (by kernel_rfl) (by kernel_rfl) (fun _ _ _ h => h) (Or.inl ⟨by rfl, ?_⟩) hHeld ?_
  · intro w' _
    go_simp
  simp only [Act.put, List.setIfInBounds_toArray, List.set_cons_zero, List.set_cons_succ]
  refine wpAnyH_take (i := 36) (oi := { dst := some 8, op := Op.assign (Operand.tmp 46), type := _, pos := _, after := _, guard := none }) (v := (.int .i64 sp)) rfl (by kernel_rfl) (by kernel_rfl) (by kernel_rfl) (fun _ _ _ h => h) (Or.inl ⟨by rfl, ?_⟩) hHeld ?_
  · intro w' _
    go_simp
  simp only [Act.put, List.setIfInBounds_toArray, List.set_cons_zero, List.set_cons_succ]
  refine wpAnyH_take (i := 37) (oi := { dst := some 9, op := Op.assign (Operand.tmp 50), type := _, pos := _, after := _, guard := none }) (v := (.slice ax sl.length cx)) rfl (by kernel_rfl) (by kernel_rfl) (by kernel_rfl) (fun _ _ _ h => h) (Or.inl ⟨by rfl, ?_⟩) hHeld ?_
  · intro w' _
    go_simp
  simp only [Act.put, List.setIfInBounds_toArray, List.set_cons_zero, List.set_cons_succ]
  refine wpAnyH_take (i := 38) (oi := { dst := some 10, op := Op.assign (Operand.tmp 54), type := _, pos := _, after := _, guard := none }) (v := (.slice al ll.length cl)) rfl (by kernel_rfl) (by kernel_rfl) (by kernel_rfl) (fun _ _ _ h => h) (Or.inl ⟨by rfl, ?_⟩) hHeld ?_
  · intro w' _
    go_simp
  simp only [Act.put, List.setIfInBounds_toArray, List.set_cons_zero, List.set_cons_succ]
  refine wpAnyH_done (by kernel_rfl) ?_ _
  go_wp2_with fail
  rw [← HW3.out, ← HW2.out]
  have ra := World.rangeAt_setCells_apart (b' := H) (World.rangeAt_setCells_same W.drew H 0 (fcs V) (by rw [fcs_len]; exact RDH.out.drew.t2)) I 0 (lcs (L)) (.inl n24)
  have rb := World.rangeAt_setCells_same (W.drew.setCells H 0 (fcs V)) I 0 (lcs (L)) (by rw [lcs_len]; exact World.there_setCells RDH.out.drew.t4 _ _ _)
  refine bodyPost_ret (results19 _ _ H I V (L) rfl rfl ra rb) rfl ?_
  refine ⟨rfl, below_setCells (below_setCells (Below.drew HB.out) (by have := HG.out; omega) HB.out.size) (by have := HG.out; omega) (Nat.le_trans HB.out.size (grown_setCells (b := H) _ 0 W.drew W.drew (World.grownBy.refl _ _)).size)⟩
end Go.Proofs.Qxb6612898a.EW
