/-
  toACE. (The steps through its one region, which draws its order, are written out by program.)
-/
import Derived.Test.Qxb6604391aSid
import Derived.Deep.RegionHeld3
namespace Go.Proofs.Qxb6604391a.Aces
open Go.RowKit
/-- An element's cells, by its fields. -/
def fields (t0 t1 t2 t3 c : Int) (OT IT AU SB : List Value) (dv : Value) : List Value :=
  [.int .u8 t0, .int .u8 t1, .int .u32 t2, .int .u32 t3] ++ (OT ++ (IT ++ (AU ++ (.int .u8 c :: (SB ++ [dv])))))
theorem range_left {w : World} {b o : Nat} {A B : List Value} (h : w.rangeAt b o (A ++ B)) : w.rangeAt b o A := fun j v hv => h j v (by rw [List.getElem?_append_left (List.getElem?_eq_some_iff.1 hv).1]; exact hv)
theorem range_right {w : World} {b o p : Nat} {A B : List Value} (h : w.rangeAt b o (A ++ B)) (hp : p = o + A.length) : w.rangeAt b p B := fun j v hv => by
  subst hp
  rw [Nat.add_assoc]
  exact h (A.length + j) v (by rw [List.getElem?_append_right (Nat.le_add_right _ _), Nat.add_sub_cancel_left]; exact hv)
theorem range_head {w : World} {b o : Nat} {v : Value} {B : List Value} (h : w.rangeAt b o (v :: B)) : w.cell? ⟨b, o, none⟩ = some v := h 0 v rfl
/-- What each field's load reads. -/
structure Parts (w : World) (b : Nat) (t0 t1 t2 t3 c : Int) (OT IT AU SB : List Value) (dv : Value) : Prop where
  c0 : w.cell? ⟨b, 0, none⟩ = some (.int .u8 t0)
  c1 : w.cell? ⟨b, 1, none⟩ = some (.int .u8 t1)
  c2 : w.cell? ⟨b, 2, none⟩ = some (.int .u32 t2)
  c3 : w.cell? ⟨b, 3, none⟩ = some (.int .u32 t3)
  r4 : w.rangeAt b 4 OT
  r20 : w.rangeAt b 20 IT
  r36 : w.rangeAt b 36 AU
  c42 : w.cell? ⟨b, 42, none⟩ = some (.int .u8 c)
  r43 : w.rangeAt b 43 SB
  c58 : w.cell? ⟨b, 58, none⟩ = some dv
theorem parts {w : World} {b : Nat} {t0 t1 t2 t3 c : Int} {OT IT AU SB : List Value} {dv : Value} (hO : OT.length = 16) (hI : IT.length = 16) (hA : AU.length = 6) (hS : SB.length = 15) (h : w.rangeAt b 0 (fields t0 t1 t2 t3 c OT IT AU SB dv)) : Parts w b t0 t1 t2 t3 c OT IT AU SB dv := by
  unfold fields at h
  have h4 := range_right (p := 4) h rfl
  have h20 := range_right (p := 20) h4 (by rw [hO])
  have h36 := range_right (p := 36) h20 (by rw [hI])
  have h42 := range_right (p := 42) h36 (by rw [hA])
  have h43 : w.rangeAt b 43 (SB ++ [dv]) := range_right (A := [.int .u8 c]) (p := 43) h42 rfl
  have h58 := range_right (p := 58) h43 (by rw [hS])
  exact ⟨h 0 _ rfl, h 1 _ rfl, h 2 _ rfl, h 3 _ rfl, range_left h4, range_left h20, range_left h36, range_head h42, range_left h43, range_head h58⟩
theorem yieldsIf_build {P : Program} {ops : Array Oper} {S : World → Prop} {o : Oper} {a : Act} (hw : Region.wanted o (yielded ops a.tmps) = true) (t : TypeId) (parts : Array (Nat × Operand)) (ho : o.op = .build t parts) (cells : Array Value)
    (hc : P.built t (parts.map fun (i, x) => (i, a.eval x)).toList = some cells) : YieldsIf P ops S o (.agg cells) a :=
  .inl ⟨hw, fun w _ => by
    unfold execOp
    simp only [ho, Sem.run_bind, run_build w t _ cells hc, Result.andThen_ok]
    rfl⟩
theorem size35 : (Try.prog.info? 35).map (·.size) = some 16 := by kernel_rfl
theorem list16 {l : List Value} (h : l.length = 16) : ∃ a b c d e f g h' i j k m n o p q, l = [a, b, c, d, e, f, g, h', i, j, k, m, n, o, p, q] := by
  match l, h with
  | [a, b, c, d, e, f, g, h', i, j, k, m, n, o, p, q], _ => exact ⟨a, b, c, d, e, f, g, h', i, j, k, m, n, o, p, q, rfl⟩
theorem built43 (t0 t1 t2 t3 c : Int) (OT IT AU SB : List Value) (a : Option Addr) (n cp : Nat) (hO : OT.length = 16) (hI : IT.length = 16) (hA : AU.length = 6) (hS : SB.length = 15) :
    Try.prog.built 43 [(0, .int .u8 t0), (1, .int .u8 t1), (2, .int .u32 t2), (3, .int .u32 t3), (4, .agg OT.toArray), (5, .agg IT.toArray), (6, .agg (AU ++ (.int .u8 c :: SB)).toArray), (7, .slice a n cp)] = some (fields t0 t1 t2 t3 c OT IT AU SB (.slice a n cp)).toArray := by
  obtain ⟨_, _, _, _, _, _, _, _, _, _, _, _, _, _, _, _, rfl⟩ := list16 hO
  obtain ⟨_, _, _, _, _, _, _, _, _, _, _, _, _, _, _, _, rfl⟩ := list16 hI
  obtain ⟨_, _, _, _, _, _, rfl⟩ := list6 hA
  obtain ⟨_, _, _, _, _, _, _, _, _, _, _, _, _, _, _, rfl⟩ := list15 hS
  kernel_rfl

set_option linter.unusedSimpArgs false in
set_option maxHeartbeats 2000000 in
set_option maxRecDepth 100000 in
theorem ace_seg (t0 t1 t2 t3 c : Int) (OT IT AU SB : List Value) (a : Option Addr) (n cp : Nat) (w : World) (hO : OT.length = 16) (hI : IT.length = 16) (hA : AU.length = 6) (hS : SB.length = 15)
    (L : List Value) (sL : L.toArray.size = 59) (HL : Hid (L = fields t0 t1 t2 t3 c OT IT AU SB (.slice a n cp))) (HL1 : Hid (L.toArray.all (·.oneCell') = true)) (HM : Hid (∀ W, Calls Try.prog 22 #[.agg AU.toArray, .int .u8 c, .agg SB.toArray] W fun e w' => e = .returned (.agg (AU ++ (.int .u8 c :: SB)).toArray) ∧ Below W.heap.size W w')) :
    Calls Try.prog 21 #[.agg L.toArray] w fun e w' => e = .returned (.agg L.toArray) ∧ Below w.heap.size w w' := by
  have zOT : Hid ((Try.prog.info? 35).map (·.size) = some OT.length) := by rw [hO]; exact size35
  have zIT : Hid ((Try.prog.info? 35).map (·.size) = some IT.length) := by rw [hI]; exact size35
  have zAU : Hid ((Try.prog.info? 37).map (·.size) = some AU.length) := by rw [hA]; exact size37
  have zSB : Hid ((Try.prog.info? 38).map (·.size) = some SB.length) := by rw [hS]; exact size38
  have HB : Hid (Try.prog.built 43 [(0, .int .u8 t0), (1, .int .u8 t1), (2, .int .u32 t2), (3, .int .u32 t3), (4, .agg OT.toArray), (5, .agg IT.toArray), (6, .agg (AU ++ (.int .u8 c :: SB)).toArray), (7, .slice a n cp)] = some L.toArray) := by rw [HL.out]; exact built43 t0 t1 t2 t3 c OT IT AU SB a n cp hO hI hA hS
  have HP : Hid (∀ w' : World, w'.rangeAt w.heap.size 0 L → Parts w' w.heap.size t0 t1 t2 t3 c OT IT AU SB (.slice a n cp)) := fun w' h => parts hO hI hA hS (by rw [HL.out] at h; exact h)
  clear HL hO hI hA hS
  go_enter Try.func21, Try.ntmps21
  go_wp2
  refine wp_region_held_drew (S := fun w' => w'.rangeAt w.heap.size 0 L ∧ w'.there (w.heap.size + 1) 0 59 ∧ w.heap.size + 1 < w'.heap.size) (by kernel_rfl) ?_ (fun hHeld => ?_)
  · exact ⟨range_new _ _ rfl, there_new _ _ (by simp) rfl, by simp⟩
  refine wpAnyH_take (i := 0) (oi := { dst := some 3, op := _, type := _, pos := _, after := _, guard := _ }) (v := .pointer (some ⟨w.heap.size, 0, none⟩)) rfl (by kernel_rfl) (by kernel_rfl) (by kernel_rfl) (fun _ _ _ h => h) (Or.inl ⟨by rfl, ?_⟩) (by assumption) ?_
  · intro w' hSw
    go_simp
  simp only [Act.put, List.setIfInBounds_toArray, List.set_cons_zero, List.set_cons_succ]
  refine wpAnyH_take (i := 1) (oi := { dst := some 4, op := _, type := _, pos := _, after := _, guard := _ }) (v := .int .u8 t0) rfl (by kernel_rfl) (by kernel_rfl) (by kernel_rfl) (fun _ _ _ h => h) (Or.inl ⟨by rfl, ?_⟩) (by assumption) ?_
  · intro w' hSw
    have hcc := (HP.out w' hSw.1).c0
    clear hSw
    go_simp
  simp only [Act.put, List.setIfInBounds_toArray, List.set_cons_zero, List.set_cons_succ]
  refine wpAnyH_take (i := 2) (oi := { dst := some 5, op := _, type := _, pos := _, after := _, guard := _ }) (v := .pointer (some ⟨w.heap.size, 1, none⟩)) rfl (by kernel_rfl) (by kernel_rfl) (by kernel_rfl) (fun _ _ _ h => h) (Or.inl ⟨by rfl, ?_⟩) (by assumption) ?_
  · intro w' hSw
    go_simp
  simp only [Act.put, List.setIfInBounds_toArray, List.set_cons_zero, List.set_cons_succ]
  refine wpAnyH_take (i := 3) (oi := { dst := some 6, op := _, type := _, pos := _, after := _, guard := _ }) (v := .int .u8 t1) rfl (by kernel_rfl) (by kernel_rfl) (by kernel_rfl) (fun _ _ _ h => h) (Or.inl ⟨by rfl, ?_⟩) (by assumption) ?_
  · intro w' hSw
    have hcc := (HP.out w' hSw.1).c1
    clear hSw
    go_simp
  simp only [Act.put, List.setIfInBounds_toArray, List.set_cons_zero, List.set_cons_succ]
  refine wpAnyH_take (i := 4) (oi := { dst := some 7, op := _, type := _, pos := _, after := _, guard := _ }) (v := .pointer (some ⟨w.heap.size, 2, none⟩)) rfl (by kernel_rfl) (by kernel_rfl) (by kernel_rfl) (fun _ _ _ h => h) (Or.inl ⟨by rfl, ?_⟩) (by assumption) ?_
  · intro w' hSw
    go_simp
  simp only [Act.put, List.setIfInBounds_toArray, List.set_cons_zero, List.set_cons_succ]
  refine wpAnyH_take (i := 5) (oi := { dst := some 8, op := _, type := _, pos := _, after := _, guard := _ }) (v := .int .u32 t2) rfl (by kernel_rfl) (by kernel_rfl) (by kernel_rfl) (fun _ _ _ h => h) (Or.inl ⟨by rfl, ?_⟩) (by assumption) ?_
  · intro w' hSw
    have hcc := (HP.out w' hSw.1).c2
    clear hSw
    go_simp
  simp only [Act.put, List.setIfInBounds_toArray, List.set_cons_zero, List.set_cons_succ]
  refine wpAnyH_take (i := 6) (oi := { dst := some 9, op := _, type := _, pos := _, after := _, guard := _ }) (v := .pointer (some ⟨w.heap.size, 3, none⟩)) rfl (by kernel_rfl) (by kernel_rfl) (by kernel_rfl) (fun _ _ _ h => h) (Or.inl ⟨by rfl, ?_⟩) (by assumption) ?_
  · intro w' hSw
    go_simp
  simp only [Act.put, List.setIfInBounds_toArray, List.set_cons_zero, List.set_cons_succ]
  refine wpAnyH_take (i := 7) (oi := { dst := some 10, op := _, type := _, pos := _, after := _, guard := _ }) (v := .int .u32 t3) rfl (by kernel_rfl) (by kernel_rfl) (by kernel_rfl) (fun _ _ _ h => h) (Or.inl ⟨by rfl, ?_⟩) (by assumption) ?_
  · intro w' hSw
    have hcc := (HP.out w' hSw.1).c3
    clear hSw
    go_simp
  simp only [Act.put, List.setIfInBounds_toArray, List.set_cons_zero, List.set_cons_succ]
  refine wpAnyH_take (i := 8) (oi := { dst := some 11, op := _, type := _, pos := _, after := _, guard := _ }) (v := .pointer (some ⟨w.heap.size, 4, none⟩)) rfl (by kernel_rfl) (by kernel_rfl) (by kernel_rfl) (fun _ _ _ h => h) (Or.inl ⟨by rfl, ?_⟩) (by assumption) ?_
  · intro w' hSw
    go_simp
  simp only [Act.put, List.setIfInBounds_toArray, List.set_cons_zero, List.set_cons_succ]
  refine wpAnyH_take (i := 9) (oi := { dst := some 12, op := _, type := _, pos := _, after := _, guard := _ }) (v := .agg OT.toArray) rfl (by kernel_rfl) (by kernel_rfl) (by kernel_rfl) (fun _ _ _ h => h) (yieldsIf_load_mid (by rfl) 35 _ rfl w.heap.size 4 rfl OT _ (fun w' h => (HP.out w' h.1).r4) Try.underlying35 rfl zOT.out) (by assumption) ?_
  simp only [Act.put, List.setIfInBounds_toArray, List.set_cons_zero, List.set_cons_succ]
  refine wpAnyH_take (i := 10) (oi := { dst := some 13, op := _, type := _, pos := _, after := _, guard := _ }) (v := .pointer (some ⟨w.heap.size, 20, none⟩)) rfl (by kernel_rfl) (by kernel_rfl) (by kernel_rfl) (fun _ _ _ h => h) (Or.inl ⟨by rfl, ?_⟩) (by assumption) ?_
  · intro w' hSw
    go_simp
  simp only [Act.put, List.setIfInBounds_toArray, List.set_cons_zero, List.set_cons_succ]
  refine wpAnyH_take (i := 11) (oi := { dst := some 14, op := _, type := _, pos := _, after := _, guard := _ }) (v := .agg IT.toArray) rfl (by kernel_rfl) (by kernel_rfl) (by kernel_rfl) (fun _ _ _ h => h) (yieldsIf_load_mid (by rfl) 35 _ rfl w.heap.size 20 rfl IT _ (fun w' h => (HP.out w' h.1).r20) Try.underlying35 rfl zIT.out) (by assumption) ?_
  simp only [Act.put, List.setIfInBounds_toArray, List.set_cons_zero, List.set_cons_succ]
  refine wpAnyH_take (i := 12) (oi := { dst := some 15, op := _, type := _, pos := _, after := _, guard := _ }) (v := .pointer (some ⟨w.heap.size, 36, none⟩)) rfl (by kernel_rfl) (by kernel_rfl) (by kernel_rfl) (fun _ _ _ h => h) (Or.inl ⟨by rfl, ?_⟩) (by assumption) ?_
  · intro w' hSw
    go_simp
  simp only [Act.put, List.setIfInBounds_toArray, List.set_cons_zero, List.set_cons_succ]
  refine wpAnyH_take (i := 13) (oi := { dst := some 16, op := _, type := _, pos := _, after := _, guard := _ }) (v := .pointer (some ⟨w.heap.size, 36, none⟩)) rfl (by kernel_rfl) (by kernel_rfl) (by kernel_rfl) (fun _ _ _ h => h) (Or.inl ⟨by rfl, ?_⟩) (by assumption) ?_
  · intro w' hSw
    go_simp
  simp only [Act.put, List.setIfInBounds_toArray, List.set_cons_zero, List.set_cons_succ]
  refine wpAnyH_take (i := 14) (oi := { dst := some 17, op := _, type := _, pos := _, after := _, guard := _ }) (v := .agg AU.toArray) rfl (by kernel_rfl) (by kernel_rfl) (by kernel_rfl) (fun _ _ _ h => h) (yieldsIf_load_mid (by rfl) 37 _ rfl w.heap.size 36 rfl AU _ (fun w' h => (HP.out w' h.1).r36) Try.underlying37 rfl zAU.out) (by assumption) ?_
  simp only [Act.put, List.setIfInBounds_toArray, List.set_cons_zero, List.set_cons_succ]
  refine wpAnyH_take (i := 15) (oi := { dst := some 18, op := _, type := _, pos := _, after := _, guard := _ }) (v := .pointer (some ⟨w.heap.size, 36, none⟩)) rfl (by kernel_rfl) (by kernel_rfl) (by kernel_rfl) (fun _ _ _ h => h) (Or.inl ⟨by rfl, ?_⟩) (by assumption) ?_
  · intro w' hSw
    go_simp
  simp only [Act.put, List.setIfInBounds_toArray, List.set_cons_zero, List.set_cons_succ]
  refine wpAnyH_take (i := 16) (oi := { dst := some 19, op := _, type := _, pos := _, after := _, guard := _ }) (v := .pointer (some ⟨w.heap.size, 42, none⟩)) rfl (by kernel_rfl) (by kernel_rfl) (by kernel_rfl) (fun _ _ _ h => h) (Or.inl ⟨by rfl, ?_⟩) (by assumption) ?_
  · intro w' hSw
    go_simp
  simp only [Act.put, List.setIfInBounds_toArray, List.set_cons_zero, List.set_cons_succ]
  refine wpAnyH_take (i := 17) (oi := { dst := some 20, op := _, type := _, pos := _, after := _, guard := _ }) (v := .int .u8 c) rfl (by kernel_rfl) (by kernel_rfl) (by kernel_rfl) (fun _ _ _ h => h) (Or.inl ⟨by rfl, ?_⟩) (by assumption) ?_
  · intro w' hSw
    have hcc := (HP.out w' hSw.1).c42
    clear hSw
    go_simp
  simp only [Act.put, List.setIfInBounds_toArray, List.set_cons_zero, List.set_cons_succ]
  refine wpAnyH_take (i := 18) (oi := { dst := some 21, op := _, type := _, pos := _, after := _, guard := _ }) (v := .pointer (some ⟨w.heap.size, 36, none⟩)) rfl (by kernel_rfl) (by kernel_rfl) (by kernel_rfl) (fun _ _ _ h => h) (Or.inl ⟨by rfl, ?_⟩) (by assumption) ?_
  · intro w' hSw
    go_simp
  simp only [Act.put, List.setIfInBounds_toArray, List.set_cons_zero, List.set_cons_succ]
  refine wpAnyH_take (i := 19) (oi := { dst := some 22, op := _, type := _, pos := _, after := _, guard := _ }) (v := .pointer (some ⟨w.heap.size, 43, none⟩)) rfl (by kernel_rfl) (by kernel_rfl) (by kernel_rfl) (fun _ _ _ h => h) (Or.inl ⟨by rfl, ?_⟩) (by assumption) ?_
  · intro w' hSw
    go_simp
  simp only [Act.put, List.setIfInBounds_toArray, List.set_cons_zero, List.set_cons_succ]
  refine wpAnyH_take (i := 20) (oi := { dst := some 23, op := _, type := _, pos := _, after := _, guard := _ }) (v := .agg SB.toArray) rfl (by kernel_rfl) (by kernel_rfl) (by kernel_rfl) (fun _ _ _ h => h) (yieldsIf_load_mid (by rfl) 38 _ rfl w.heap.size 43 rfl SB _ (fun w' h => (HP.out w' h.1).r43) Try.underlying38 rfl zSB.out) (by assumption) ?_
  simp only [Act.put, List.setIfInBounds_toArray, List.set_cons_zero, List.set_cons_succ]
  refine wpAnyH_take (i := 22) (oi := { dst := some 25, op := _, type := _, pos := _, after := _, guard := _ }) (v := .pointer (some ⟨w.heap.size, 58, none⟩)) rfl (by kernel_rfl) (by kernel_rfl) (by kernel_rfl) (fun _ _ _ h => h) (Or.inl ⟨by rfl, ?_⟩) (by assumption) ?_
  · intro w' hSw
    go_simp
  simp only [Act.put, List.setIfInBounds_toArray, List.set_cons_zero, List.set_cons_succ]
  refine wpAnyH_take (i := 23) (oi := { dst := some 26, op := _, type := _, pos := _, after := _, guard := _ }) (v := .slice a n cp) rfl (by kernel_rfl) (by kernel_rfl) (by kernel_rfl) (fun _ _ _ h => h) (Or.inl ⟨by rfl, ?_⟩) (by assumption) ?_
  · intro w' hSw
    have hcc := (HP.out w' hSw.1).c58
    clear hSw
    go_simp
  simp only [Act.put, List.setIfInBounds_toArray, List.set_cons_zero, List.set_cons_succ]
  refine wpAnyH_ready (rs := [21]) (by kernel_rfl) (by simp) ?_
  refine AllReadyH.cons (o := { dst := some 24, op := _, type := _, pos := _, after := _, guard := _ }) rfl (fun K hK => ?_) AllReadyH.nil
  go_simp
  refine (HM.out _).mono ?_
  rintro e w1 ⟨rfl, hb1⟩
  go_wp2_with fail
  refine hK.out _ _ ?_ (fun hHeld1 => ?_)
  · exact ⟨range_below hHeld.1 hb1, there_below hHeld.2.1 hb1, Nat.lt_of_lt_of_le hHeld.2.2 hb1.size⟩
  try simp only [Act.put, List.setIfInBounds_toArray, List.set_cons_zero, List.set_cons_succ]
  refine wpAnyH_take (i := 24) (oi := { dst := some 27, op := _, type := _, pos := _, after := _, guard := _ }) (v := .agg L.toArray) rfl (by kernel_rfl) (by kernel_rfl) (by kernel_rfl) (fun _ _ _ h => h) (yieldsIf_build (by rfl) 43 #[(0, .tmp 4), (1, .tmp 6), (2, .tmp 8), (3, .tmp 10), (4, .tmp 12), (5, .tmp 14), (6, .tmp 24), (7, .tmp 26)] rfl L.toArray (by simp; exact HB.out)) (by assumption) ?_
  simp only [Act.put, List.setIfInBounds_toArray, List.set_cons_zero, List.set_cons_succ]
  refine wpAnyH_ready (rs := [25]) (by kernel_rfl) (by simp) ?_
  refine AllReadyH.cons (o := { dst := none, op := _, type := _, pos := _, after := _, guard := _ }) rfl (fun K2 hK2 => ?_) AllReadyH.nil
  rw [if_pos (by rfl)]
  refine wp_store_mid 43 _ _ rfl (w.heap.size + 1) 0 L.toArray rfl rfl (by rw [sL]; exact hHeld1.2.1) (by rw [sL]; exact size43) HL1.out ?_
  have hB1 : Below w.heap.size w w1 := ((((Below.refl _ _).alloc (Nat.le_refl _) _).alloc (by simp) _).drew).trans (hb1.mono (by simp; omega))
  have hW : (w1.setCells (w.heap.size + 1) 0 L.toArray.toList) = w1.setCells (w.heap.size + 1) 0 L := by rw [List.toList_toArray]
  rw [hW]
  have hT : w1.there (w.heap.size + 1) 0 L.length := by rw [show L.length = 59 by simpa using sL]; exact hHeld1.2.1
  have hRes : (w1.setCells (w.heap.size + 1) 0 L).rangeAt (w.heap.size + 1) 0 L := World.rangeAt_setCells_same _ _ _ _ hT
  have hB2 : Below w.heap.size w (w1.setCells (w.heap.size + 1) 0 L) := hB1.trans (Lib.below_setCells_w (by omega) _ _ _)
  refine hK2.out _ _ ?_ (fun hHeld2 => ?_)
  · refine ⟨World.rangeAt_setCells_apart hHeld1.1 _ _ _ (.inl (by omega)), World.there_setCells hHeld1.2.1 _ _ _, ?_⟩
    exact Nat.lt_of_lt_of_le hHeld1.2.2 (Lib.below_setCells_w (B := 0) (Nat.zero_le _) _ _ _).size
  refine wpAnyH_done (by kernel_rfl) ?_ _
  have HR : Hid ((w1.setCells (w.heap.size + 1) 0 L).rangeAt (w.heap.size + 1) 0 L) := hRes
  have HB2 : Hid (Below w.heap.size w (w1.setCells (w.heap.size + 1) 0 L)) := hB2
  clear hB1 hW hT hRes hB2 hHeld hHeld1 hHeld2 hb1
  go_wp2
  refine bodyPost_ret (v := .agg L.toArray) (results_cell (a := ⟨w.heap.size + 1, 0, none⟩) Try.results21 rfl (run_loadVar_mid _ _ _ 43 L _ HR.out Try.underlying43 rfl (by rw [show L.length = 59 by simpa using sL]; exact size43))) rfl ⟨rfl, HB2.out⟩
theorem drop_cons {L : List Value} {i : Nat} {v : Value} (h : L[i]? = some v) : L.drop i = v :: L.drop (i + 1) := by
  obtain ⟨hi, hv⟩ := List.getElem?_eq_some_iff.1 h
  rw [List.drop_eq_getElem_cons hi, hv]
theorem drop_take (L : List Value) (i k : Nat) : L.drop i = (L.drop i).take k ++ L.drop (i + k) := by
  have h := (List.take_append_drop k (L.drop i)).symm
  rwa [List.drop_drop] at h
/-- The fields of 58 numbers. -/
def fOT (ns : List Int) : List Value := ((cs ns).drop 4).take 16
def fIT (ns : List Int) : List Value := ((cs ns).drop 20).take 16
def fAU (ns : List Int) : List Value := ((cs ns).drop 36).take 6
def fSB (ns : List Int) : List Value := (cs ns).drop 43
def fN (ns : List Int) (j : Nat) : Int := ns[j]?.getD 0
theorem cs_fields {ns : List Int} (h : Fit ns) (dv : Value) : cs ns ++ [dv] = fields (fN ns 0) (fN ns 1) (fN ns 2) (fN ns 3) (fN ns 42) (fOT ns) (fIT ns) (fAU ns) (fSB ns) dv := by
  have e : cs ns = [.int .u8 (fN ns 0), .int .u8 (fN ns 1), .int .u32 (fN ns 2), .int .u32 (fN ns 3)] ++ (fOT ns ++ (fIT ns ++ (fAU ns ++ (.int .u8 (fN ns 42) :: fSB ns)))) := by
    have h0 := drop_cons (cs_get h (j := 0) (k := .u8) rfl)
    rw [List.drop_zero] at h0
    rw [h0, drop_cons (cs_get h (j := 1) (k := .u8) rfl), drop_cons (cs_get h (j := 2) (k := .u32) rfl), drop_cons (cs_get h (j := 3) (k := .u32) rfl), drop_take _ 4 16, drop_take _ 20 16, drop_take _ 36 6, drop_cons (cs_get h (j := 42) (k := .u8) rfl)]
    rfl
  rw [e]
  simp [fields]
theorem fOT_len {ns : List Int} (h : Fit ns) : (fOT ns).length = 16 := by rw [fOT, List.length_take, List.length_drop, cs_len h]; rfl
theorem fIT_len {ns : List Int} (h : Fit ns) : (fIT ns).length = 16 := by rw [fIT, List.length_take, List.length_drop, cs_len h]; rfl
theorem fAU_len {ns : List Int} (h : Fit ns) : (fAU ns).length = 6 := by rw [fAU, List.length_take, List.length_drop, cs_len h]; rfl
theorem fSB_len {ns : List Int} (h : Fit ns) : (fSB ns).length = 15 := by rw [fSB, List.length_drop, cs_len h]
theorem fAU_one {ns : List Int} : ∀ v ∈ fAU ns, v.oneCell' = true := fun v hv => cs_one v (List.mem_of_mem_drop (List.mem_of_mem_take hv))
theorem fSB_one {ns : List Int} : ∀ v ∈ fSB ns, v.oneCell' = true := fun v hv => cs_one v (List.mem_of_mem_drop hv)

/-- toACE: the same cells. -/
theorem ace_any (ns : List Int) (a : Option Addr) (n cp : Nat) (w : World) (h : Fit ns) :
    Calls Try.prog 21 #[.agg (cs ns ++ [Value.slice a n cp]).toArray] w fun e w' => e = .returned (.agg (cs ns ++ [Value.slice a n cp]).toArray) ∧ Below w.heap.size w w' := by
  refine ace_seg (fN ns 0) (fN ns 1) (fN ns 2) (fN ns 3) (fN ns 42) (fOT ns) (fIT ns) (fAU ns) (fSB ns) a n cp w (fOT_len h) (fIT_len h) (fAU_len h) (fSB_len h) (cs ns ++ [Value.slice a n cp]) ?_ (cs_fields h _) ?_ (fun W => mk_any _ _ _ W (fAU_len h) (fSB_len h) fAU_one fSB_one)
  · rw [List.size_toArray, List.length_append, cs_len h]; rfl
  · refine all_oneCell_toArray fun v hv => ?_
    rcases List.mem_append.1 hv with hv | hv
    · exact cs_one v hv
    · obtain rfl : v = .slice a n cp := by simpa using hv
      rfl
end Go.Proofs.Qxb6604391a.Aces
