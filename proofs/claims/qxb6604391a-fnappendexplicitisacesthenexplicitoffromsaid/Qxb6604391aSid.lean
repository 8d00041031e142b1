/-
  ZZmakeSID.
-/
import Derived.Test.Qxb6604391aCloneZ
namespace Go.Proofs.Qxb6604391a.Aces
open Go.RowKit
theorem results_cell {P : Program} {fn : Func} {p : Tmp} {ty : TypeId} {tmps : Array Value} {a : Addr} {v : Value} {w : World} (h : fn.results = #[.cell p ty]) (hp : tmps.getD p undef = .pointer (some a)) (hl : (loadVar ty a).run P w = .ok v w) : (results fn tmps).run P w = .ok v w := by
  have hp' : tmps[p]?.getD undef = .pointer (some a) := by simpa using hp
  simp only [results, h]
  simp [hp', asAddr, hl]
theorem wpList_built {P : Program} {ops : Array Oper} {rest : List Oper} {o : Oper} {a : Act} {w : World} {Q : Exit → Act → World → Prop} (hg : o.guard = none) (t : TypeId) (parts : Array (Nat × Operand)) (ho : o.op = .build t parts) (cells : Array Value)
    (hc : P.built t (parts.map fun (i, x) => (i, a.eval x)).toList = some cells) (h : wpList P ops Q rest (a.put o.dst (.agg cells)) w) : wpList P ops Q (o :: rest) a w :=
  wpList_build hg t parts ho (by rw [hc]; rfl) (by rw [hc]; exact h)
theorem list6 {l : List Value} (h : l.length = 6) : ∃ a b c d e f, l = [a, b, c, d, e, f] := by
  match l, h with
  | [a, b, c, d, e, f], _ => exact ⟨a, b, c, d, e, f, rfl⟩
theorem list15 {l : List Value} (h : l.length = 15) : ∃ a b c d e f g h' i j k m n o p, l = [a, b, c, d, e, f, g, h', i, j, k, m, n, o, p] := by
  match l, h with
  | [a, b, c, d, e, f, g, h', i, j, k, m, n, o, p], _ => exact ⟨a, b, c, d, e, f, g, h', i, j, k, m, n, o, p, rfl⟩
theorem built40 (A S : List Value) (c : Int) (hA : A.length = 6) (hS : S.length = 15) : Try.prog.built 40 [(0, .agg A.toArray), (1, .int .u8 c), (2, .agg S.toArray)] = some (A ++ (.int .u8 c :: S)).toArray := by
  obtain ⟨a, b, c, d, e, f, rfl⟩ := list6 hA
  obtain ⟨a, b, c, d, e, f, g, h', i, j, k, m, n, o, p, rfl⟩ := list15 hS
  kernel_rfl
theorem size37 : (Try.prog.info? 37).map (·.size) = some 6 := by kernel_rfl
theorem size38 : (Try.prog.info? 38).map (·.size) = some 15 := by kernel_rfl
theorem size40 : (Try.prog.info? 40).map (·.size) = some 22 := by kernel_rfl
theorem range_new {w : World} {C : List Value} {t : TypeId} (o : Obj) (b : Nat) (hb : b = w.heap.size) : ((w.alloc (.cells C.toArray t)).alloc o).rangeAt b 0 C := by
  subst hb
  intro j v hv
  rw [Nat.zero_add, cell_of_row _ _ j C.toArray t (0, 0) (by rw [Below.heap_alloc _ _ _ (by simp)]; exact heap_alloc_new w _)]
  simpa using hv
theorem there_new {w : World} {Z : Array Value} {t : TypeId} (b n : Nat) (hb : b = w.heap.size) (hZ : Z.size = n) : (w.alloc (.cells Z t)).there b 0 n := by
  subst hb
  intro j hj
  rw [Nat.zero_add]
  have hh := heap_alloc_new w (.cells Z t)
  exact ⟨by rw [cell_of_row _ _ j Z t (0, 0) hh, Array.getElem?_eq_getElem (by omega)]; rfl, frozen_of_row _ _ j Z t hh⟩

set_option maxHeartbeats 1000000 in
set_option maxRecDepth 100000 in
theorem mk_any (A S : List Value) (c : Int) (w : World) (hA : A.length = 6) (hS : S.length = 15) (hA1 : ∀ v ∈ A, v.oneCell' = true) (hS1 : ∀ v ∈ S, v.oneCell' = true) :
    Calls Try.prog 22 #[.agg A.toArray, .int .u8 c, .agg S.toArray] w fun e w' => e = .returned (.agg (A ++ (.int .u8 c :: S)).toArray) ∧ Below w.heap.size w w' := by
  have HB : Hid (Try.prog.built 40 [(0, .agg A.toArray), (1, .int .u8 c), (2, .agg S.toArray)] = some (A ++ (.int .u8 c :: S)).toArray) := built40 A S c hA hS
  obtain ⟨M, hM⟩ : ∃ M, M = A ++ (.int .u8 c :: S) := ⟨_, rfl⟩
  rw [← hM] at HB
  rw [← hM]
  have HMs : Hid (M.toArray.size = 22) := by show M.toArray.size = 22; rw [hM]; simp [hA, hS]
  have HM1 : Hid (M.toArray.all (·.oneCell') = true) := by
    rw [hM]
    refine all_oneCell_toArray fun v hv => ?_
    rcases List.mem_append.1 hv with h | h
    · exact hA1 v h
    · rcases List.mem_cons.1 h with rfl | h
      · rfl
      · exact hS1 v h
  clear hM hA1 hS1
  have HAs : Hid ((Try.prog.info? 37).map (·.size) = some A.length) := by rw [hA]; exact size37
  have HSs : Hid ((Try.prog.info? 38).map (·.size) = some S.length) := by rw [hS]; exact size38
  have sA : A.toArray.size = 6 := by simpa using hA
  have sS : S.toArray.size = 15 := by simpa using hS
  clear hA hS
  go_enter Try.func22, Try.ntmps22
  go_wp2_with (first
    | (refine wpList_load_mid rfl 37 (.tmp 3) rfl w.heap.size 0 rfl A _ (World.rangeAt_alloc (range_new _ _ rfl) _) Try.underlying37 rfl HAs.out ?_)
    | (refine wpList_load_mid rfl 38 (.tmp 5) rfl (w.heap.size + 1) 0 rfl S _ (range_new _ _ (by simp)) Try.underlying38 rfl HSs.out ?_)
    | (refine wpList_built rfl 40 #[(0, .tmp 7), (1, .tmp 8), (2, .tmp 9)] rfl M.toArray (by simp; exact HB.out) ?_)
    | (refine wpList_store_mid rfl 40 (.tmp 6) (.tmp 10) rfl (w.heap.size + 1 + 1) 0 M.toArray rfl rfl (by rw [HMs.out]; exact there_new _ _ (by simp) rfl) (by rw [HMs.out]; exact size40) HM1.out ?_))
  have ht : ∀ W : World, W.heap.size = w.heap.size + 1 + 1 → ∀ Z : Array Value, Z.size = 22 → ((W.alloc (.cells Z 40)).setCells (w.heap.size + 1 + 1) 0 M).rangeAt (w.heap.size + 1 + 1) 0 M := by
    intro W hW Z hZ
    exact World.rangeAt_setCells_same _ _ _ _ (by rw [show M.length = 22 by simpa using HMs.out]; exact there_new _ _ hW.symm hZ)
  refine bodyPost_ret (v := .agg M.toArray) (results_cell (a := ⟨w.heap.size + 1 + 1, 0, none⟩) Try.results22 rfl (run_loadVar_mid _ _ _ 40 M _ (ht _ (by simp) _ rfl) Try.underlying40 rfl (by rw [show M.length = 22 by simpa using HMs.out]; exact size40))) rfl ⟨rfl, ?_⟩
  exact ((((Below.refl _ _).alloc (Nat.le_refl _) _).alloc (by simp) _).alloc (by simp; omega) _).trans (Lib.below_setCells_w (by omega) _ _ _)
end Go.Proofs.Qxb6604391a.Aces
