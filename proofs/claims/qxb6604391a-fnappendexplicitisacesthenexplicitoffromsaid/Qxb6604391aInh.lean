/-
  isInherited; a store into a variable just made; a slice of one element.
-/
import Derived.Test.Qxb6604391aToAces
namespace Go.Proofs.Qxb6604391a.Aces
open Go.RowKit
set_option maxHeartbeats 400000 in
/-- isInherited. -/
theorem inh_any (X : Array Value) (f : Int) (w : World) (hX : X.size = 59) (h1 : X[1]? = some (.int .u8 f)) :
    Calls Try.prog 26 #[.agg X] w fun e w' => e = .returned (.bool (bits .and .u8 f 16 != 0)) ∧ Below w.heap.size w w' := by
  have h1' := get_of h1
  go_enter Try.func26, Try.ntmps26
  go_wp2
  go_ret
  exact ⟨rfl, (Below.refl _ _).alloc (Nat.le_refl _) _⟩
/-- A whole element stored into a variable that the round has just made. -/
theorem store_fresh {ops : Array Oper} {rest : List Oper} {op : Oper} {a : Act} {Q : Exit → Act → World → Prop} (hgd : op.guard = none) (x y : Operand) (ho : op.op = .store 43 x y) (w : World) (Z : Array Value) (hZ : Z.size = 59) (L : List Value)
    (hx : a.eval x = .pointer (some ⟨w.heap.size, 0, none⟩)) (hy : a.eval y = .agg L.toArray) (hL : L.length = 59) (h1 : L.toArray.all (·.oneCell') = true)
    (h : ∀ W1 : World, W1.rangeAt w.heap.size 0 L → W1.there w.heap.size 0 59 → Below w.heap.size w W1 → wpList Try.prog ops Q rest (a.put op.dst undef) W1) : wpList Try.prog ops Q (op :: rest) a (w.alloc (.cells Z 43)) := by
  have ht : (w.alloc (.cells Z 43)).there w.heap.size 0 59 := there_new _ _ rfl hZ
  have hs : L.toArray.size = 59 := by simpa using hL
  refine wpList_store_mid hgd 43 x y ho w.heap.size 0 L.toArray hx hy (by rw [hs]; exact ht) (by rw [hs]; exact size43) h1 ?_
  rw [List.toList_toArray]
  exact h _ (World.rangeAt_setCells_same _ _ _ _ (by rw [hL]; exact ht)) (World.there_setCells ht _ _ _) (((Below.refl _ _).alloc (Nat.le_refl _) _).trans (Lib.below_setCells_w (Nat.le_refl _) _ _ _))
theorem run_bs (t0 t1 t2 t3 c : Int) (OT IT AU SB : List Value) (dv : Value) (w : World) (hO : OT.length = 16) (hI : IT.length = 16) (hA : AU.length = 6) (hS : SB.length = 15) :
    (Instr.buildSlice 27 1 #[(0, .agg (fields t0 t1 t2 t3 c OT IT AU SB dv).toArray)]).run Try.prog w = .ok (.slice (some ⟨w.heap.size, 0, none⟩) 1 1) (w.alloc (.cells (fields t0 t1 t2 t3 c OT IT AU SB dv).toArray 43)) := by
  obtain ⟨_, _, _, _, _, _, _, _, _, _, _, _, _, _, _, _, rfl⟩ := list16 hO
  obtain ⟨_, _, _, _, _, _, _, _, _, _, _, _, _, _, _, _, rfl⟩ := list16 hI
  obtain ⟨_, _, _, _, _, _, rfl⟩ := list6 hA
  obtain ⟨_, _, _, _, _, _, _, _, _, _, _, _, _, _, _, rfl⟩ := list15 hS
  kernel_rfl
theorem run_bs' (ns : List Int) (dv : Value) (h : Fit ns) (w : World) : (Instr.buildSlice 27 1 #[(0, .agg (cs ns ++ [dv]).toArray)]).run Try.prog w = .ok (.slice (some ⟨w.heap.size, 0, none⟩) 1 1) (w.alloc (.cells (cs ns ++ [dv]).toArray 43)) := by
  rw [cs_fields h dv]
  exact run_bs _ _ _ _ _ _ _ _ _ _ w (fOT_len h) (fIT_len h) (fAU_len h) (fSB_len h)
theorem wpList_bs {P : Program} {ops : Array Oper} {rest : List Oper} {o : Oper} {a : Act} {w w' : World} {Q : Exit → Act → World → Prop} (hg : o.guard = none) (t n : Nat) (parts : Array (Nat × Operand)) (ho : o.op = .buildSlice t n parts) (v : Value)
    (hr : (Instr.buildSlice t n (parts.map fun (i, x) => (i, a.eval x))).run P w = .ok v w') (h : wpList P ops Q rest (a.put o.dst v) w') : wpList P ops Q (o :: rest) a w := by
  refine wpList_plain hg fun K hK => ?_
  unfold Oper.wp execOp
  simp only [ho, Sem.run_bind, hr, Result.andThen_ok]
  exact hK _ _ h
end Go.Proofs.Qxb6604391a.Aces
