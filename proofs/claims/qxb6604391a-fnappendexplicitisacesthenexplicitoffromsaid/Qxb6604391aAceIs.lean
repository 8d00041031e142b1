/-
  aceIs, of two elements of the same numbers and the same bytes. (The steps through its one region, which draws its order, are written out by program.)
-/
import Derived.Test.Qxb6604391aEql
namespace Go.Proofs.Qxb6604391a.Aces
open Go.RowKit
set_option linter.unusedSimpArgs false in
set_option maxHeartbeats 4000000 in
set_option maxRecDepth 100000 in
theorem is_seg (t0 t1 t2 t3 c : Int) (OT IT AU SB : List Value) (a1 a2 : Option Addr) (n1 n2 c1 c2 : Nat) (d : Option (List Int)) (w : World) (hO : OT.length = 16) (hI : IT.length = 16) (hA : AU.length = 6) (hS : SB.length = 15)
    (iO : Ints OT) (iI : Ints IT) (iA : Ints AU) (iS : Ints SB)
    (hd1 : Dat 0 w (.slice a1 n1 c1) d) (hd2 : Dat 0 w (.slice a2 n2 c2) d) (HD : Hid (dlen d ≤ 1048576))
    (L1 L2 : List Value) (_s1 : L1.toArray.size = 59) (_s2 : L2.toArray.size = 59) (HL1 : Hid (L1 = fields t0 t1 t2 t3 c OT IT AU SB (.slice a1 n1 c1))) (HL2 : Hid (L2 = fields t0 t1 t2 t3 c OT IT AU SB (.slice a2 n2 c2))) (HMK : Hid (∀ W, Calls Try.prog 22 #[.agg AU.toArray, .int .u8 c, .agg SB.toArray] W fun e w' => e = .returned (.agg (AU ++ (.int .u8 c :: SB)).toArray) ∧ Below W.heap.size W w')) :
    Calls Try.prog 14 #[.agg L1.toArray, .agg L2.toArray] w fun e w' => e = .returned (.bool true) ∧ Below w.heap.size w w' := by
  have zOT5 : Hid ((Try.prog.info? 35).map (·.size) = some OT.length) := by rw [hO]; exact size35
  have zOT6 : Hid ((Try.prog.info? 36).map (·.size) = some OT.length) := by rw [hO]; exact size36
  have zIT5 : Hid ((Try.prog.info? 35).map (·.size) = some IT.length) := by rw [hI]; exact size35
  have zIT6 : Hid ((Try.prog.info? 36).map (·.size) = some IT.length) := by rw [hI]; exact size36
  have zAU : Hid ((Try.prog.info? 37).map (·.size) = some AU.length) := by rw [hA]; exact size37
  have zSB : Hid ((Try.prog.info? 38).map (·.size) = some SB.length) := by rw [hS]; exact size38
  have eOT : Hid (∀ w', (Op.equalIn 10000 35 (.agg OT.toArray) (.agg OT.toArray)).run Try.prog w' = .ok true w') := fun w' => equal_ints w' 9998 Try.underlying35 Try.underlying5 cells5 OT hO iO
  have eIT : Hid (∀ w', (Op.equalIn 10000 35 (.agg IT.toArray) (.agg IT.toArray)).run Try.prog w' = .ok true w') := fun w' => equal_ints w' 9998 Try.underlying35 Try.underlying5 cells5 IT hI iI
  have eM : Hid (∀ w', (Op.equalIn 10000 40 (.agg (AU ++ (.int .u8 c :: SB)).toArray) (.agg (AU ++ (.int .u8 c :: SB)).toArray)).run Try.prog w' = .ok true w') := fun w' => equal_sid 9997 w' AU SB c hA hS iA iS
  have zM : Hid ((Try.prog.info? 40).map (·.size) = some (AU ++ (.int .u8 c :: SB)).length) := by rw [List.length_append, List.length_cons, hA, hS]; exact size40
  have HP1 : Hid (∀ w' : World, w'.rangeAt w.heap.size 0 L1 → Parts w' w.heap.size t0 t1 t2 t3 c OT IT AU SB (.slice a1 n1 c1)) := fun w' h => parts hO hI hA hS (by rw [HL1.out] at h; exact h)
  have HP2 : Hid (∀ w' : World, w'.rangeAt (w.heap.size + 1) 0 L2 → Parts w' (w.heap.size + 1) t0 t1 t2 t3 c OT IT AU SB (.slice a2 n2 c2)) := fun w' h => parts hO hI hA hS (by rw [HL2.out] at h; exact h)
  have HM : Hid (∀ w' : World, w'.rangeAt w.heap.size 0 L1 → w'.rangeAt w.heap.size 36 (AU ++ (.int .u8 c :: SB))) := fun w' h => by
    rw [HL1.out] at h
    unfold fields at h
    have h4 := range_right (p := 4) h rfl
    have h20 := range_right (p := 20) h4 (by rw [hO])
    have h36 := range_right (p := 36) h20 (by rw [hI])
    rw [show AU ++ (Value.int .u8 c :: (SB ++ [Value.slice a1 n1 c1])) = (AU ++ (.int .u8 c :: SB)) ++ [.slice a1 n1 c1] by simp] at h36
    exact range_left h36
  obtain ⟨M, hM⟩ : ∃ M, M = AU ++ (.int .u8 c :: SB) := ⟨_, rfl⟩
  rw [← hM] at HM zM eM HMK
  have HD1 : Hid (Dat 0 w (.slice a1 n1 c1) d) := hd1
  have HD2 : Hid (Dat 0 w (.slice a2 n2 c2) d) := hd2
  clear HL1 HL2 hO hI hA hS iO iI iA iS hM hd1 hd2
  go_enter Try.func14, Try.ntmps14
  go_wp2
  refine wp_region_held_drew (S := fun w' => w'.rangeAt w.heap.size 0 L1 ∧ w'.rangeAt (w.heap.size + 1) 0 L2 ∧ Dat 0 w' (.slice a1 n1 c1) d ∧ Dat 0 w' (.slice a2 n2 c2) d) (by kernel_rfl) ?_ (fun hHeld => ?_)
  · have hb : Below w.heap.size w ((w.alloc (.cells L1.toArray 43)).alloc (.cells L2.toArray 47)) := ((Below.refl _ _).alloc (Nat.le_refl _) _).alloc (by simp) _
    have hb := hb.drew
    exact ⟨range_new _ _ rfl, range_new1 _ (by simp), HD1.out.below hb, HD2.out.below hb⟩
  refine wpAnyH_take (i := 0) (oi := { dst := some 5, op := _, type := _, pos := _, after := _, guard := _ }) (v := .pointer (some ⟨w.heap.size, 0, none⟩)) rfl (by kernel_rfl) (by kernel_rfl) (by kernel_rfl) (fun _ _ _ h => h) (Or.inl ⟨by rfl, ?_⟩) (by assumption) ?_
  · intro w' hSw
    clear hSw
    go_simp
  simp only [Act.put, List.setIfInBounds_toArray, List.set_cons_zero, List.set_cons_succ]
  refine wpAnyH_take (i := 1) (oi := { dst := some 6, op := _, type := _, pos := _, after := _, guard := _ }) (v := .int .u8 t0) rfl (by kernel_rfl) (by kernel_rfl) (by kernel_rfl) (fun _ _ _ h => h) (Or.inl ⟨by rfl, ?_⟩) (by assumption) ?_
  · intro w' hSw
    have hcc := (HP1.out w' hSw.1).c0
    clear hSw
    go_simp
  simp only [Act.put, List.setIfInBounds_toArray, List.set_cons_zero, List.set_cons_succ]
  refine wpAnyH_take (i := 2) (oi := { dst := some 7, op := _, type := _, pos := _, after := _, guard := _ }) (v := .pointer (some ⟨w.heap.size + 1, 0, none⟩)) rfl (by kernel_rfl) (by kernel_rfl) (by kernel_rfl) (fun _ _ _ h => h) (Or.inl ⟨by rfl, ?_⟩) (by assumption) ?_
  · intro w' hSw
    clear hSw
    go_simp
  simp only [Act.put, List.setIfInBounds_toArray, List.set_cons_zero, List.set_cons_succ]
  refine wpAnyH_take (i := 3) (oi := { dst := some 8, op := _, type := _, pos := _, after := _, guard := _ }) (v := .int .u8 t0) rfl (by kernel_rfl) (by kernel_rfl) (by kernel_rfl) (fun _ _ _ h => h) (Or.inl ⟨by rfl, ?_⟩) (by assumption) ?_
  · intro w' hSw
    have hcc := (HP2.out w' hSw.2.1).c0
    clear hSw
    go_simp
  simp only [Act.put, List.setIfInBounds_toArray, List.set_cons_zero, List.set_cons_succ]
  refine wpAnyH_take (i := 4) (oi := { dst := some 9, op := _, type := _, pos := _, after := _, guard := _ }) (v := .bool true) rfl (by kernel_rfl) (by kernel_rfl) (by kernel_rfl) (fun _ _ _ h => h) (Or.inl ⟨by rfl, ?_⟩) (by assumption) ?_
  · intro w' hSw
    clear hSw
    go_simp
  simp only [Act.put, List.setIfInBounds_toArray, List.set_cons_zero, List.set_cons_succ]
  refine wpAnyH_take (i := 5) (oi := { dst := some 10, op := _, type := _, pos := _, after := _, guard := _ }) (v := .bool true) rfl (by kernel_rfl) (by kernel_rfl) (by kernel_rfl) (fun _ _ _ h => h) (Or.inl ⟨by rfl, ?_⟩) (by assumption) ?_
  · intro w' hSw
    clear hSw
    go_simp
  simp only [Act.put, List.setIfInBounds_toArray, List.set_cons_zero, List.set_cons_succ]
  refine wpAnyH_take (i := 6) (oi := { dst := some 11, op := _, type := _, pos := _, after := _, guard := _ }) (v := .pointer (some ⟨w.heap.size, 1, none⟩)) rfl (by kernel_rfl) (by kernel_rfl) (by kernel_rfl) (fun _ _ _ h => h) (Or.inl ⟨by rfl, ?_⟩) (by assumption) ?_
  · intro w' hSw
    clear hSw
    go_simp
  simp only [Act.put, List.setIfInBounds_toArray, List.set_cons_zero, List.set_cons_succ]
  refine wpAnyH_take (i := 7) (oi := { dst := some 12, op := _, type := _, pos := _, after := _, guard := _ }) (v := .int .u8 t1) rfl (by kernel_rfl) (by kernel_rfl) (by kernel_rfl) (fun _ _ _ h => h) (Or.inl ⟨by rfl, ?_⟩) (by assumption) ?_
  · intro w' hSw
    have hcc := (HP1.out w' hSw.1).c1
    clear hSw
    go_simp
  simp only [Act.put, List.setIfInBounds_toArray, List.set_cons_zero, List.set_cons_succ]
  refine wpAnyH_take (i := 8) (oi := { dst := some 13, op := _, type := _, pos := _, after := _, guard := _ }) (v := .pointer (some ⟨w.heap.size + 1, 1, none⟩)) rfl (by kernel_rfl) (by kernel_rfl) (by kernel_rfl) (fun _ _ _ h => h) (Or.inl ⟨by rfl, ?_⟩) (by assumption) ?_
  · intro w' hSw
    clear hSw
    go_simp
  simp only [Act.put, List.setIfInBounds_toArray, List.set_cons_zero, List.set_cons_succ]
  refine wpAnyH_take (i := 9) (oi := { dst := some 14, op := _, type := _, pos := _, after := _, guard := _ }) (v := .int .u8 t1) rfl (by kernel_rfl) (by kernel_rfl) (by kernel_rfl) (fun _ _ _ h => h) (Or.inl ⟨by rfl, ?_⟩) (by assumption) ?_
  · intro w' hSw
    have hcc := (HP2.out w' hSw.2.1).c1
    clear hSw
    go_simp
  simp only [Act.put, List.setIfInBounds_toArray, List.set_cons_zero, List.set_cons_succ]
  refine wpAnyH_take (i := 10) (oi := { dst := some 15, op := _, type := _, pos := _, after := _, guard := _ }) (v := .bool true) rfl (by kernel_rfl) (by kernel_rfl) (by kernel_rfl) (fun _ _ _ h => h) (Or.inl ⟨by rfl, ?_⟩) (by assumption) ?_
  · intro w' hSw
    clear hSw
    go_simp
  simp only [Act.put, List.setIfInBounds_toArray, List.set_cons_zero, List.set_cons_succ]
  refine wpAnyH_take (i := 11) (oi := { dst := some 16, op := _, type := _, pos := _, after := _, guard := _ }) (v := .bool true) rfl (by kernel_rfl) (by kernel_rfl) (by kernel_rfl) (fun _ _ _ h => h) (Or.inl ⟨by rfl, ?_⟩) (by assumption) ?_
  · intro w' hSw
    clear hSw
    go_simp
  simp only [Act.put, List.setIfInBounds_toArray, List.set_cons_zero, List.set_cons_succ]
  refine wpAnyH_take (i := 12) (oi := { dst := some 17, op := _, type := _, pos := _, after := _, guard := _ }) (v := .bool true) rfl (by kernel_rfl) (by kernel_rfl) (by kernel_rfl) (fun _ _ _ h => h) (Or.inl ⟨by rfl, ?_⟩) (by assumption) ?_
  · intro w' hSw
    clear hSw
    go_simp
  simp only [Act.put, List.setIfInBounds_toArray, List.set_cons_zero, List.set_cons_succ]
  refine wpAnyH_take (i := 13) (oi := { dst := some 18, op := _, type := _, pos := _, after := _, guard := _ }) (v := .pointer (some ⟨w.heap.size, 2, none⟩)) rfl (by kernel_rfl) (by kernel_rfl) (by kernel_rfl) (fun _ _ _ h => h) (Or.inl ⟨by rfl, ?_⟩) (by assumption) ?_
  · intro w' hSw
    clear hSw
    go_simp
  simp only [Act.put, List.setIfInBounds_toArray, List.set_cons_zero, List.set_cons_succ]
  refine wpAnyH_take (i := 14) (oi := { dst := some 19, op := _, type := _, pos := _, after := _, guard := _ }) (v := .int .u32 t2) rfl (by kernel_rfl) (by kernel_rfl) (by kernel_rfl) (fun _ _ _ h => h) (Or.inl ⟨by rfl, ?_⟩) (by assumption) ?_
  · intro w' hSw
    have hcc := (HP1.out w' hSw.1).c2
    clear hSw
    go_simp
  simp only [Act.put, List.setIfInBounds_toArray, List.set_cons_zero, List.set_cons_succ]
  refine wpAnyH_take (i := 15) (oi := { dst := some 20, op := _, type := _, pos := _, after := _, guard := _ }) (v := .pointer (some ⟨w.heap.size + 1, 2, none⟩)) rfl (by kernel_rfl) (by kernel_rfl) (by kernel_rfl) (fun _ _ _ h => h) (Or.inl ⟨by rfl, ?_⟩) (by assumption) ?_
  · intro w' hSw
    clear hSw
    go_simp
  simp only [Act.put, List.setIfInBounds_toArray, List.set_cons_zero, List.set_cons_succ]
  refine wpAnyH_take (i := 16) (oi := { dst := some 21, op := _, type := _, pos := _, after := _, guard := _ }) (v := .int .u32 t2) rfl (by kernel_rfl) (by kernel_rfl) (by kernel_rfl) (fun _ _ _ h => h) (Or.inl ⟨by rfl, ?_⟩) (by assumption) ?_
  · intro w' hSw
    have hcc := (HP2.out w' hSw.2.1).c2
    clear hSw
    go_simp
  simp only [Act.put, List.setIfInBounds_toArray, List.set_cons_zero, List.set_cons_succ]
  refine wpAnyH_take (i := 17) (oi := { dst := some 22, op := _, type := _, pos := _, after := _, guard := _ }) (v := .bool true) rfl (by kernel_rfl) (by kernel_rfl) (by kernel_rfl) (fun _ _ _ h => h) (Or.inl ⟨by rfl, ?_⟩) (by assumption) ?_
  · intro w' hSw
    clear hSw
    go_simp
  simp only [Act.put, List.setIfInBounds_toArray, List.set_cons_zero, List.set_cons_succ]
  refine wpAnyH_take (i := 18) (oi := { dst := some 23, op := _, type := _, pos := _, after := _, guard := _ }) (v := .bool true) rfl (by kernel_rfl) (by kernel_rfl) (by kernel_rfl) (fun _ _ _ h => h) (Or.inl ⟨by rfl, ?_⟩) (by assumption) ?_
  · intro w' hSw
    clear hSw
    go_simp
  simp only [Act.put, List.setIfInBounds_toArray, List.set_cons_zero, List.set_cons_succ]
  refine wpAnyH_take (i := 19) (oi := { dst := some 24, op := _, type := _, pos := _, after := _, guard := _ }) (v := .bool true) rfl (by kernel_rfl) (by kernel_rfl) (by kernel_rfl) (fun _ _ _ h => h) (Or.inl ⟨by rfl, ?_⟩) (by assumption) ?_
  · intro w' hSw
    clear hSw
    go_simp
  simp only [Act.put, List.setIfInBounds_toArray, List.set_cons_zero, List.set_cons_succ]
  refine wpAnyH_take (i := 20) (oi := { dst := some 25, op := _, type := _, pos := _, after := _, guard := _ }) (v := .pointer (some ⟨w.heap.size, 3, none⟩)) rfl (by kernel_rfl) (by kernel_rfl) (by kernel_rfl) (fun _ _ _ h => h) (Or.inl ⟨by rfl, ?_⟩) (by assumption) ?_
  · intro w' hSw
    clear hSw
    go_simp
  simp only [Act.put, List.setIfInBounds_toArray, List.set_cons_zero, List.set_cons_succ]
  refine wpAnyH_take (i := 21) (oi := { dst := some 26, op := _, type := _, pos := _, after := _, guard := _ }) (v := .int .u32 t3) rfl (by kernel_rfl) (by kernel_rfl) (by kernel_rfl) (fun _ _ _ h => h) (Or.inl ⟨by rfl, ?_⟩) (by assumption) ?_
  · intro w' hSw
    have hcc := (HP1.out w' hSw.1).c3
    clear hSw
    go_simp
  simp only [Act.put, List.setIfInBounds_toArray, List.set_cons_zero, List.set_cons_succ]
  refine wpAnyH_take (i := 22) (oi := { dst := some 27, op := _, type := _, pos := _, after := _, guard := _ }) (v := .pointer (some ⟨w.heap.size + 1, 3, none⟩)) rfl (by kernel_rfl) (by kernel_rfl) (by kernel_rfl) (fun _ _ _ h => h) (Or.inl ⟨by rfl, ?_⟩) (by assumption) ?_
  · intro w' hSw
    clear hSw
    go_simp
  simp only [Act.put, List.setIfInBounds_toArray, List.set_cons_zero, List.set_cons_succ]
  refine wpAnyH_take (i := 23) (oi := { dst := some 28, op := _, type := _, pos := _, after := _, guard := _ }) (v := .int .u32 t3) rfl (by kernel_rfl) (by kernel_rfl) (by kernel_rfl) (fun _ _ _ h => h) (Or.inl ⟨by rfl, ?_⟩) (by assumption) ?_
  · intro w' hSw
    have hcc := (HP2.out w' hSw.2.1).c3
    clear hSw
    go_simp
  simp only [Act.put, List.setIfInBounds_toArray, List.set_cons_zero, List.set_cons_succ]
  refine wpAnyH_take (i := 24) (oi := { dst := some 29, op := _, type := _, pos := _, after := _, guard := _ }) (v := .bool true) rfl (by kernel_rfl) (by kernel_rfl) (by kernel_rfl) (fun _ _ _ h => h) (Or.inl ⟨by rfl, ?_⟩) (by assumption) ?_
  · intro w' hSw
    clear hSw
    go_simp
  simp only [Act.put, List.setIfInBounds_toArray, List.set_cons_zero, List.set_cons_succ]
  refine wpAnyH_take (i := 25) (oi := { dst := some 30, op := _, type := _, pos := _, after := _, guard := _ }) (v := .bool true) rfl (by kernel_rfl) (by kernel_rfl) (by kernel_rfl) (fun _ _ _ h => h) (Or.inl ⟨by rfl, ?_⟩) (by assumption) ?_
  · intro w' hSw
    clear hSw
    go_simp
  simp only [Act.put, List.setIfInBounds_toArray, List.set_cons_zero, List.set_cons_succ]
  refine wpAnyH_take (i := 26) (oi := { dst := some 31, op := _, type := _, pos := _, after := _, guard := _ }) (v := .bool true) rfl (by kernel_rfl) (by kernel_rfl) (by kernel_rfl) (fun _ _ _ h => h) (Or.inl ⟨by rfl, ?_⟩) (by assumption) ?_
  · intro w' hSw
    clear hSw
    go_simp
  simp only [Act.put, List.setIfInBounds_toArray, List.set_cons_zero, List.set_cons_succ]
  refine wpAnyH_take (i := 27) (oi := { dst := some 32, op := _, type := _, pos := _, after := _, guard := _ }) (v := .pointer (some ⟨w.heap.size, 4, none⟩)) rfl (by kernel_rfl) (by kernel_rfl) (by kernel_rfl) (fun _ _ _ h => h) (Or.inl ⟨by rfl, ?_⟩) (by assumption) ?_
  · intro w' hSw
    clear hSw
    go_simp
  simp only [Act.put, List.setIfInBounds_toArray, List.set_cons_zero, List.set_cons_succ]
  refine wpAnyH_take (i := 28) (oi := { dst := some 33, op := _, type := _, pos := _, after := _, guard := _ }) (v := .agg OT.toArray) rfl (by kernel_rfl) (by kernel_rfl) (by kernel_rfl) (fun _ _ _ h => h) (yieldsIf_load_mid (by rfl) 36 _ rfl w.heap.size 4 rfl OT _ (fun w' h => (HP1.out w' h.1).r4) Try.underlying36 rfl zOT6.out) (by assumption) ?_
  simp only [Act.put, List.setIfInBounds_toArray, List.set_cons_zero, List.set_cons_succ]
  refine wpAnyH_take (i := 29) (oi := { dst := some 34, op := _, type := _, pos := _, after := _, guard := _ }) (v := .pointer (some ⟨w.heap.size + 1, 4, none⟩)) rfl (by kernel_rfl) (by kernel_rfl) (by kernel_rfl) (fun _ _ _ h => h) (Or.inl ⟨by rfl, ?_⟩) (by assumption) ?_
  · intro w' hSw
    clear hSw
    go_simp
  simp only [Act.put, List.setIfInBounds_toArray, List.set_cons_zero, List.set_cons_succ]
  refine wpAnyH_take (i := 30) (oi := { dst := some 35, op := _, type := _, pos := _, after := _, guard := _ }) (v := .agg OT.toArray) rfl (by kernel_rfl) (by kernel_rfl) (by kernel_rfl) (fun _ _ _ h => h) (yieldsIf_load_mid (by rfl) 35 _ rfl (w.heap.size + 1) 4 rfl OT _ (fun w' h => (HP2.out w' h.2.1).r4) Try.underlying35 rfl zOT5.out) (by assumption) ?_
  simp only [Act.put, List.setIfInBounds_toArray, List.set_cons_zero, List.set_cons_succ]
  refine wpAnyH_take (i := 31) (oi := { dst := some 36, op := _, type := _, pos := _, after := _, guard := _ }) (v := .bool true) rfl (by kernel_rfl) (by kernel_rfl) (by kernel_rfl) (fun _ _ _ h => h) (yieldsIf_eql_agg (by rfl) 35 _ _ _ rfl OT.toArray OT.toArray rfl rfl (by kernel_rfl) eOT.out) (by assumption) ?_
  simp only [Act.put, List.setIfInBounds_toArray, List.set_cons_zero, List.set_cons_succ]
  refine wpAnyH_take (i := 32) (oi := { dst := some 37, op := _, type := _, pos := _, after := _, guard := _ }) (v := .bool true) rfl (by kernel_rfl) (by kernel_rfl) (by kernel_rfl) (fun _ _ _ h => h) (Or.inl ⟨by rfl, ?_⟩) (by assumption) ?_
  · intro w' hSw
    clear hSw
    go_simp
  simp only [Act.put, List.setIfInBounds_toArray, List.set_cons_zero, List.set_cons_succ]
  refine wpAnyH_take (i := 33) (oi := { dst := some 38, op := _, type := _, pos := _, after := _, guard := _ }) (v := .bool true) rfl (by kernel_rfl) (by kernel_rfl) (by kernel_rfl) (fun _ _ _ h => h) (Or.inl ⟨by rfl, ?_⟩) (by assumption) ?_
  · intro w' hSw
    clear hSw
    go_simp
  simp only [Act.put, List.setIfInBounds_toArray, List.set_cons_zero, List.set_cons_succ]
  refine wpAnyH_take (i := 34) (oi := { dst := some 39, op := _, type := _, pos := _, after := _, guard := _ }) (v := .pointer (some ⟨w.heap.size, 20, none⟩)) rfl (by kernel_rfl) (by kernel_rfl) (by kernel_rfl) (fun _ _ _ h => h) (Or.inl ⟨by rfl, ?_⟩) (by assumption) ?_
  · intro w' hSw
    clear hSw
    go_simp
  simp only [Act.put, List.setIfInBounds_toArray, List.set_cons_zero, List.set_cons_succ]
  refine wpAnyH_take (i := 35) (oi := { dst := some 40, op := _, type := _, pos := _, after := _, guard := _ }) (v := .agg IT.toArray) rfl (by kernel_rfl) (by kernel_rfl) (by kernel_rfl) (fun _ _ _ h => h) (yieldsIf_load_mid (by rfl) 36 _ rfl w.heap.size 20 rfl IT _ (fun w' h => (HP1.out w' h.1).r20) Try.underlying36 rfl zIT6.out) (by assumption) ?_
  simp only [Act.put, List.setIfInBounds_toArray, List.set_cons_zero, List.set_cons_succ]
  refine wpAnyH_take (i := 36) (oi := { dst := some 41, op := _, type := _, pos := _, after := _, guard := _ }) (v := .pointer (some ⟨w.heap.size + 1, 20, none⟩)) rfl (by kernel_rfl) (by kernel_rfl) (by kernel_rfl) (fun _ _ _ h => h) (Or.inl ⟨by rfl, ?_⟩) (by assumption) ?_
  · intro w' hSw
    clear hSw
    go_simp
  simp only [Act.put, List.setIfInBounds_toArray, List.set_cons_zero, List.set_cons_succ]
  refine wpAnyH_take (i := 37) (oi := { dst := some 42, op := _, type := _, pos := _, after := _, guard := _ }) (v := .agg IT.toArray) rfl (by kernel_rfl) (by kernel_rfl) (by kernel_rfl) (fun _ _ _ h => h) (yieldsIf_load_mid (by rfl) 35 _ rfl (w.heap.size + 1) 20 rfl IT _ (fun w' h => (HP2.out w' h.2.1).r20) Try.underlying35 rfl zIT5.out) (by assumption) ?_
  simp only [Act.put, List.setIfInBounds_toArray, List.set_cons_zero, List.set_cons_succ]
  refine wpAnyH_take (i := 38) (oi := { dst := some 43, op := _, type := _, pos := _, after := _, guard := _ }) (v := .bool true) rfl (by kernel_rfl) (by kernel_rfl) (by kernel_rfl) (fun _ _ _ h => h) (yieldsIf_eql_agg (by rfl) 35 _ _ _ rfl IT.toArray IT.toArray rfl rfl (by kernel_rfl) eIT.out) (by assumption) ?_
  simp only [Act.put, List.setIfInBounds_toArray, List.set_cons_zero, List.set_cons_succ]
  refine wpAnyH_take (i := 39) (oi := { dst := some 44, op := _, type := _, pos := _, after := _, guard := _ }) (v := .bool true) rfl (by kernel_rfl) (by kernel_rfl) (by kernel_rfl) (fun _ _ _ h => h) (Or.inl ⟨by rfl, ?_⟩) (by assumption) ?_
  · intro w' hSw
    clear hSw
    go_simp
  simp only [Act.put, List.setIfInBounds_toArray, List.set_cons_zero, List.set_cons_succ]
  refine wpAnyH_take (i := 40) (oi := { dst := some 45, op := _, type := _, pos := _, after := _, guard := _ }) (v := .bool true) rfl (by kernel_rfl) (by kernel_rfl) (by kernel_rfl) (fun _ _ _ h => h) (Or.inl ⟨by rfl, ?_⟩) (by assumption) ?_
  · intro w' hSw
    clear hSw
    go_simp
  simp only [Act.put, List.setIfInBounds_toArray, List.set_cons_zero, List.set_cons_succ]
  refine wpAnyH_take (i := 41) (oi := { dst := some 46, op := _, type := _, pos := _, after := _, guard := _ }) (v := .pointer (some ⟨w.heap.size, 36, none⟩)) rfl (by kernel_rfl) (by kernel_rfl) (by kernel_rfl) (fun _ _ _ h => h) (Or.inl ⟨by rfl, ?_⟩) (by assumption) ?_
  · intro w' hSw
    clear hSw
    go_simp
  simp only [Act.put, List.setIfInBounds_toArray, List.set_cons_zero, List.set_cons_succ]
  refine wpAnyH_take (i := 42) (oi := { dst := some 47, op := _, type := _, pos := _, after := _, guard := _ }) (v := .agg M.toArray) rfl (by kernel_rfl) (by kernel_rfl) (by kernel_rfl) (fun _ _ _ h => h) (yieldsIf_load_mid (by rfl) 40 _ rfl w.heap.size 36 rfl M _ (fun w' h => HM.out w' h.1) Try.underlying40 rfl zM.out) (by assumption) ?_
  simp only [Act.put, List.setIfInBounds_toArray, List.set_cons_zero, List.set_cons_succ]
  refine wpAnyH_take (i := 43) (oi := { dst := some 48, op := _, type := _, pos := _, after := _, guard := _ }) (v := .pointer (some ⟨w.heap.size + 1, 36, none⟩)) rfl (by kernel_rfl) (by kernel_rfl) (by kernel_rfl) (fun _ _ _ h => h) (Or.inl ⟨by rfl, ?_⟩) (by assumption) ?_
  · intro w' hSw
    clear hSw
    go_simp
  simp only [Act.put, List.setIfInBounds_toArray, List.set_cons_zero, List.set_cons_succ]
  refine wpAnyH_take (i := 44) (oi := { dst := some 49, op := _, type := _, pos := _, after := _, guard := _ }) (v := .pointer (some ⟨w.heap.size + 1, 36, none⟩)) rfl (by kernel_rfl) (by kernel_rfl) (by kernel_rfl) (fun _ _ _ h => h) (Or.inl ⟨by rfl, ?_⟩) (by assumption) ?_
  · intro w' hSw
    clear hSw
    go_simp
  simp only [Act.put, List.setIfInBounds_toArray, List.set_cons_zero, List.set_cons_succ]
  refine wpAnyH_take (i := 45) (oi := { dst := some 50, op := _, type := _, pos := _, after := _, guard := _ }) (v := .agg AU.toArray) rfl (by kernel_rfl) (by kernel_rfl) (by kernel_rfl) (fun _ _ _ h => h) (yieldsIf_load_mid (by rfl) 37 _ rfl (w.heap.size + 1) 36 rfl AU _ (fun w' h => (HP2.out w' h.2.1).r36) Try.underlying37 rfl zAU.out) (by assumption) ?_
  simp only [Act.put, List.setIfInBounds_toArray, List.set_cons_zero, List.set_cons_succ]
  refine wpAnyH_take (i := 46) (oi := { dst := some 51, op := _, type := _, pos := _, after := _, guard := _ }) (v := .pointer (some ⟨w.heap.size + 1, 36, none⟩)) rfl (by kernel_rfl) (by kernel_rfl) (by kernel_rfl) (fun _ _ _ h => h) (Or.inl ⟨by rfl, ?_⟩) (by assumption) ?_
  · intro w' hSw
    clear hSw
    go_simp
  simp only [Act.put, List.setIfInBounds_toArray, List.set_cons_zero, List.set_cons_succ]
  refine wpAnyH_take (i := 47) (oi := { dst := some 52, op := _, type := _, pos := _, after := _, guard := _ }) (v := .pointer (some ⟨w.heap.size + 1, 42, none⟩)) rfl (by kernel_rfl) (by kernel_rfl) (by kernel_rfl) (fun _ _ _ h => h) (Or.inl ⟨by rfl, ?_⟩) (by assumption) ?_
  · intro w' hSw
    clear hSw
    go_simp
  simp only [Act.put, List.setIfInBounds_toArray, List.set_cons_zero, List.set_cons_succ]
  refine wpAnyH_take (i := 48) (oi := { dst := some 53, op := _, type := _, pos := _, after := _, guard := _ }) (v := .int .u8 c) rfl (by kernel_rfl) (by kernel_rfl) (by kernel_rfl) (fun _ _ _ h => h) (Or.inl ⟨by rfl, ?_⟩) (by assumption) ?_
  · intro w' hSw
    have hcc := (HP2.out w' hSw.2.1).c42
    clear hSw
    go_simp
  simp only [Act.put, List.setIfInBounds_toArray, List.set_cons_zero, List.set_cons_succ]
  refine wpAnyH_take (i := 49) (oi := { dst := some 54, op := _, type := _, pos := _, after := _, guard := _ }) (v := .pointer (some ⟨w.heap.size + 1, 36, none⟩)) rfl (by kernel_rfl) (by kernel_rfl) (by kernel_rfl) (fun _ _ _ h => h) (Or.inl ⟨by rfl, ?_⟩) (by assumption) ?_
  · intro w' hSw
    clear hSw
    go_simp
  simp only [Act.put, List.setIfInBounds_toArray, List.set_cons_zero, List.set_cons_succ]
  refine wpAnyH_take (i := 50) (oi := { dst := some 55, op := _, type := _, pos := _, after := _, guard := _ }) (v := .pointer (some ⟨w.heap.size + 1, 43, none⟩)) rfl (by kernel_rfl) (by kernel_rfl) (by kernel_rfl) (fun _ _ _ h => h) (Or.inl ⟨by rfl, ?_⟩) (by assumption) ?_
  · intro w' hSw
    clear hSw
    go_simp
  simp only [Act.put, List.setIfInBounds_toArray, List.set_cons_zero, List.set_cons_succ]
  refine wpAnyH_take (i := 51) (oi := { dst := some 56, op := _, type := _, pos := _, after := _, guard := _ }) (v := .agg SB.toArray) rfl (by kernel_rfl) (by kernel_rfl) (by kernel_rfl) (fun _ _ _ h => h) (yieldsIf_load_mid (by rfl) 38 _ rfl (w.heap.size + 1) 43 rfl SB _ (fun w' h => (HP2.out w' h.2.1).r43) Try.underlying38 rfl zSB.out) (by assumption) ?_
  simp only [Act.put, List.setIfInBounds_toArray, List.set_cons_zero, List.set_cons_succ]
  refine wpAnyH_ready (rs := [52]) (by kernel_rfl) (by simp) ?_
  refine AllReadyH.cons (o := { dst := some 57, op := _, type := _, pos := _, after := _, guard := _ }) rfl (fun K hK => ?_) AllReadyH.nil
  go_simp
  refine (HMK.out _).mono ?_
  rintro e w1 ⟨rfl, hb1⟩
  go_wp2_with fail
  refine hK.out _ _ ?_ (fun hHeld1 => ?_)
  · exact ⟨range_below hHeld.1 hb1, range_below hHeld.2.1 hb1, hHeld.2.2.1.below hb1, hHeld.2.2.2.below hb1⟩
  try simp only [Act.put, List.setIfInBounds_toArray, List.set_cons_zero, List.set_cons_succ]
  refine wpAnyH_take (i := 53) (oi := { dst := some 58, op := _, type := _, pos := _, after := _, guard := _ }) (v := .bool true) rfl (by kernel_rfl) (by kernel_rfl) (by kernel_rfl) (fun _ _ _ h => h) (yieldsIf_eql_agg (by rfl) 40 _ _ _ rfl M.toArray M.toArray rfl rfl (by kernel_rfl) eM.out) (by assumption) ?_
  simp only [Act.put, List.setIfInBounds_toArray, List.set_cons_zero, List.set_cons_succ]
  refine wpAnyH_take (i := 54) (oi := { dst := some 59, op := _, type := _, pos := _, after := _, guard := _ }) (v := .bool true) rfl (by kernel_rfl) (by kernel_rfl) (by kernel_rfl) (fun _ _ _ h => h) (Or.inl ⟨by rfl, ?_⟩) (by assumption) ?_
  · intro w' hSw
    clear hSw
    go_simp
  simp only [Act.put, List.setIfInBounds_toArray, List.set_cons_zero, List.set_cons_succ]
  refine wpAnyH_take (i := 55) (oi := { dst := some 60, op := _, type := _, pos := _, after := _, guard := _ }) (v := .bool true) rfl (by kernel_rfl) (by kernel_rfl) (by kernel_rfl) (fun _ _ _ h => h) (Or.inl ⟨by rfl, ?_⟩) (by assumption) ?_
  · intro w' hSw
    clear hSw
    go_simp
  simp only [Act.put, List.setIfInBounds_toArray, List.set_cons_zero, List.set_cons_succ]
  refine wpAnyH_take (i := 56) (oi := { dst := some 61, op := _, type := _, pos := _, after := _, guard := _ }) (v := .pointer (some ⟨w.heap.size, 58, none⟩)) rfl (by kernel_rfl) (by kernel_rfl) (by kernel_rfl) (fun _ _ _ h => h) (Or.inl ⟨by rfl, ?_⟩) (by assumption) ?_
  · intro w' hSw
    clear hSw
    go_simp
  simp only [Act.put, List.setIfInBounds_toArray, List.set_cons_zero, List.set_cons_succ]
  refine wpAnyH_take (i := 57) (oi := { dst := some 62, op := _, type := _, pos := _, after := _, guard := _ }) (v := .slice a1 n1 c1) rfl (by kernel_rfl) (by kernel_rfl) (by kernel_rfl) (fun _ _ _ h => h) (Or.inl ⟨by rfl, ?_⟩) (by assumption) ?_
  · intro w' hSw
    have hcc := (HP1.out w' hSw.1).c58
    clear hSw
    go_simp
  simp only [Act.put, List.setIfInBounds_toArray, List.set_cons_zero, List.set_cons_succ]
  refine wpAnyH_take (i := 58) (oi := { dst := some 63, op := _, type := _, pos := _, after := _, guard := _ }) (v := .pointer (some ⟨w.heap.size + 1, 58, none⟩)) rfl (by kernel_rfl) (by kernel_rfl) (by kernel_rfl) (fun _ _ _ h => h) (Or.inl ⟨by rfl, ?_⟩) (by assumption) ?_
  · intro w' hSw
    clear hSw
    go_simp
  simp only [Act.put, List.setIfInBounds_toArray, List.set_cons_zero, List.set_cons_succ]
  refine wpAnyH_take (i := 59) (oi := { dst := some 64, op := _, type := _, pos := _, after := _, guard := _ }) (v := .slice a2 n2 c2) rfl (by kernel_rfl) (by kernel_rfl) (by kernel_rfl) (fun _ _ _ h => h) (Or.inl ⟨by rfl, ?_⟩) (by assumption) ?_
  · intro w' hSw
    have hcc := (HP2.out w' hSw.2.1).c58
    clear hSw
    go_simp
  simp only [Act.put, List.setIfInBounds_toArray, List.set_cons_zero, List.set_cons_succ]
  refine wpAnyH_ready (rs := [60]) (by kernel_rfl) (by simp) ?_
  refine AllReadyH.cons (o := { dst := some 65, op := _, type := _, pos := _, after := _, guard := _ }) rfl (fun K2 hK2 => ?_) AllReadyH.nil
  go_simp
  refine (same_any _ _ d _ hHeld1.2.2.1 hHeld1.2.2.2 HD.out).mono ?_
  rintro e w2 ⟨rfl, hq⟩
  have hb2 : Below w1.heap.size w1 w2 := by obtain ⟨q, rfl⟩ := hq; exact draws_below _ _
  go_wp2_with fail
  refine hK2.out _ _ ?_ (fun hHeld2 => ?_)
  · exact ⟨range_below hHeld1.1 hb2, range_below hHeld1.2.1 hb2, hHeld1.2.2.1.below hb2, hHeld1.2.2.2.below hb2⟩
  try simp only [Act.put, List.setIfInBounds_toArray, List.set_cons_zero, List.set_cons_succ]
  refine wpAnyH_take (i := 61) (oi := { dst := some 66, op := _, type := _, pos := _, after := _, guard := _ }) (v := .bool true) rfl (by kernel_rfl) (by kernel_rfl) (by kernel_rfl) (fun _ _ _ h => h) (Or.inl ⟨by rfl, ?_⟩) (by assumption) ?_
  · intro w' hSw
    clear hSw
    go_simp
  simp only [Act.put, List.setIfInBounds_toArray, List.set_cons_zero, List.set_cons_succ]
  refine wpAnyH_take (i := 62) (oi := { dst := some 4, op := _, type := _, pos := _, after := _, guard := _ }) (v := .bool true) rfl (by kernel_rfl) (by kernel_rfl) (by kernel_rfl) (fun _ _ _ h => h) (Or.inl ⟨by rfl, ?_⟩) (by assumption) ?_
  · intro w' hSw
    clear hSw
    go_simp
  simp only [Act.put, List.setIfInBounds_toArray, List.set_cons_zero, List.set_cons_succ]
  refine wpAnyH_done (by kernel_rfl) ?_ _
  have HB2 : Hid (Below w.heap.size w w2) := ((((Below.refl _ _).alloc (Nat.le_refl _) _).alloc (by simp) _).drew).trans ((hb1.trans (hb2.mono hb1.size)).mono (by simp; omega))
  clear hHeld hHeld1 hHeld2 hb1 hb2 hq
  go_wp2
  go_ret
  exact ⟨rfl, HB2.out⟩
theorem cs_ints {ns : List Int} : Ints (cs ns) := by
  intro v hv
  obtain ⟨i, hi, rfl⟩ := List.mem_iff_getElem.1 hv
  simp only [cs, List.getElem_zipWith]
  exact ⟨_, _, rfl⟩
/-- aceIs: the same element. -/
theorem is_any (ns : List Int) (da dz : Value) (d : Option (List Int)) (w : World) (h : Fit ns) (h1 : Dat 0 w da d) (h2 : Dat 0 w dz d) (hd : dlen d ≤ 1048576) :
    Calls Try.prog 14 #[.agg (cs ns ++ [da]).toArray, .agg (cs ns ++ [dz]).toArray] w fun e w' => e = .returned (.bool true) ∧ Below w.heap.size w w' := by
  obtain ⟨a1, c1, rfl, _⟩ := h1.shape
  obtain ⟨a2, c2, rfl, _⟩ := h2.shape
  refine is_seg (fN ns 0) (fN ns 1) (fN ns 2) (fN ns 3) (fN ns 42) (fOT ns) (fIT ns) (fAU ns) (fSB ns) a1 a2 _ _ c1 c2 d w (fOT_len h) (fIT_len h) (fAU_len h) (fSB_len h) ?_ ?_ ?_ ?_ h1 h2 hd _ _ ?_ ?_ (cs_fields h _) (cs_fields h _) (fun W => mk_any _ _ _ W (fAU_len h) (fSB_len h) fAU_one fSB_one)
  · exact fun v hv => cs_ints v (List.mem_of_mem_drop (List.mem_of_mem_take hv))
  · exact fun v hv => cs_ints v (List.mem_of_mem_drop (List.mem_of_mem_take hv))
  · exact fun v hv => cs_ints v (List.mem_of_mem_drop (List.mem_of_mem_take hv))
  · exact fun v hv => cs_ints v (List.mem_of_mem_drop hv)
  · rw [List.size_toArray, List.length_append, cs_len h]; rfl
  · rw [List.size_toArray, List.length_append, cs_len h]; rfl
end Go.Proofs.Qxb6604391a.Aces
