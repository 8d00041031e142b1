/-
  Equality of rows of numbers.
-/
import Derived.Test.Qxb6604391aSame
import Derived.DeepKeys
namespace Go.Proofs.Qxb6604391a.Aces
open Go.RowKit
/-- Numbers, each in its cell. -/
def Ints (L : List Value) : Prop := ∀ v ∈ L, ∃ k x, v = Value.int k x
theorem eqItems_ints {P : Program} (w : World) (d : Nat) {e : TypeId} {k' : IntKind} (he : P.underlying e = some (.int k')) (xs : Array Value) : ∀ is : List Nat, (∀ i ∈ is, ∃ k x, xs[i]? = some (.int k x)) → (Op.eqItems (d + 1) e 1 xs xs is).run P w = .ok true w
  | [], _ => by simp [Op.eqItems]
  | i :: is, h => by
    obtain ⟨k, x, hx⟩ := h i (by simp)
    have hp : P.plainKey e = true := by simp [Program.plainKey, he]
    have p1 := run_part_plain w hp (off := i * 1) (by rw [Nat.mul_one]; exact hx)
    simp only [Op.eqItems, Sem.run_bind, p1, Result.andThen_ok, run_equalIn_int w d e k k' x x he, beq_self_eq_true, Bool.not_true, Bool.false_eq_true, if_false]
    exact eqItems_ints w d he xs is (fun j hj => h j (by simp [hj]))
theorem equal_ints {P : Program} (w : World) (d : Nat) {t e : TypeId} {n : Nat} {k' : IntKind} (hu : P.underlying t = some (.array n e)) (he : P.underlying e = some (.int k')) (hc : P.cellsOf e = 1) (L : List Value) (hn : L.length = n) (h : Ints L) :
    (Op.equalIn (d + 2) t (.agg L.toArray) (.agg L.toArray)).run P w = .ok true w := by
  obtain ⟨i, hi⟩ := info_of_underlying he
  rw [run_equalIn_array w (d + 1) L.toArray L.toArray hu hi, hc]
  refine eqItems_ints w d he _ _ fun j hj => ?_
  have hj' : j < L.length := by rw [hn]; exact List.mem_range.1 hj
  obtain ⟨k, x, hx⟩ := h L[j] (List.getElem_mem hj')
  exact ⟨k, x, by rw [List.getElem?_toArray, List.getElem?_eq_getElem hj', hx]⟩
theorem part_arr {P : Program} {e e' : TypeId} {n : Nat} {i : TypeInfo} (w : World) (xs : Array Value) (off : Nat) (hu : P.underlying e = some (.array n e')) (hi : P.info? e = some i) : (part e xs off).run P w = .ok (.agg (xs.extract off (off + P.cellsOf e))) w := by
  simp [part, isAgg, run_underlying hu, run_sizeOf w hi]
theorem eqFields3 {P : Program} (w : World) (d : Nat) (xs : Array Value) (f1 f2 f3 : Field) (v1 v2 v3 : Value) (n1 : f1.name ≠ "_") (n2 : f2.name ≠ "_") (n3 : f3.name ≠ "_")
    (p1 : (part f1.type xs f1.offset).run P w = .ok v1 w) (p2 : (part f2.type xs f2.offset).run P w = .ok v2 w) (p3 : (part f3.type xs f3.offset).run P w = .ok v3 w)
    (q1 : (Op.equalIn d f1.type v1 v1).run P w = .ok true w) (q2 : (Op.equalIn d f2.type v2 v2).run P w = .ok true w) (q3 : (Op.equalIn d f3.type v3 v3).run P w = .ok true w) :
    (Op.eqFields d xs xs [f1, f2, f3]).run P w = .ok true w := by
  simp [Op.eqFields, n1, n2, n3, p1, p2, p3, q1, q2, q3]
theorem fields40 : ∃ p b1 b2 b3, (Try.prog.fieldsOf 40).toList = [{ name := "authority", type := 37, offset := 0, embedded := false, tag := "", pkgPath := p, byteOffset := b1 }, { name := "count", type := 5, offset := 6, embedded := false, tag := "", pkgPath := p, byteOffset := b2 }, { name := "sub", type := 38, offset := 7, embedded := false, tag := "", pkgPath := p, byteOffset := b3 }] := ⟨"example.com/acewalk/acewalk", 0, 6, 8, by kernel_rfl⟩
theorem stood40 : Try.prog.stoodInHeld 40 = false := by kernel_rfl
theorem under40 : Try.prog.underlying 40 = some (.struct (Try.prog.fieldsOf 40)) := by kernel_rfl
theorem cells37 : Try.prog.cellsOf 37 = 6 := by kernel_rfl
theorem cells38 : Try.prog.cellsOf 38 = 15 := by kernel_rfl
theorem cells5 : Try.prog.cellsOf 5 = 1 := by kernel_rfl
theorem cells33 : Try.prog.cellsOf 33 = 1 := by kernel_rfl
theorem plain5 : Try.prog.plainKey 5 = true := by kernel_rfl
theorem equal_sid (d : Nat) (w : World) (A S : List Value) (c : Int) (hA : A.length = 6) (hS : S.length = 15) (iA : Ints A) (iS : Ints S) :
    (Op.equalIn (d + 3) 40 (.agg (A ++ (.int .u8 c :: S)).toArray) (.agg (A ++ (.int .u8 c :: S)).toArray)).run Try.prog w = .ok true w := by
  rw [run_equalIn_struct w (d + 2) 40 _ _ under40 stood40]
  obtain ⟨p, b1, b2, b3, hf⟩ := fields40
  rw [hf]
  obtain ⟨M, hM⟩ : ∃ M, M = A ++ (Value.int .u8 c :: S) := ⟨_, rfl⟩
  have x1 : List.take 6 M = A := by rw [hM]; exact List.take_left' hA
  have x2 : M.toArray[6]? = some (.int .u8 c) := by rw [hM, List.getElem?_toArray, List.getElem?_append_right (by omega), hA]; rfl
  have x3 : List.take 15 (List.drop 7 M) = S := by
    rw [hM, show A ++ (Value.int .u8 c :: S) = (A ++ [.int .u8 c]) ++ S by simp, List.drop_left' (by rw [List.length_append, hA]; rfl)]
    exact List.take_of_length_le (by omega)
  rw [← hM]
  clear hM
  obtain ⟨i37, hi37⟩ := info_of_underlying Try.underlying37
  obtain ⟨i38, hi38⟩ := info_of_underlying Try.underlying38
  have p1 : (part 37 M.toArray 0).run Try.prog w = .ok (.agg A.toArray) w := by
    rw [part_arr w M.toArray 0 Try.underlying37 hi37, cells37]
    have : M.toArray.extract 0 (0 + 6) = A.toArray := by rw [List.extract_toArray]; simp [x1]
    rw [this]
  have p2 : (part 5 M.toArray 6).run Try.prog w = .ok (.int .u8 c) w := run_part_plain w plain5 x2
  have p3 : (part 38 M.toArray 7).run Try.prog w = .ok (.agg S.toArray) w := by
    rw [part_arr w M.toArray 7 Try.underlying38 hi38, cells38]
    have : M.toArray.extract 7 (7 + 15) = S.toArray := by rw [List.extract_toArray]; simp [x3]
    rw [this]
  have q1 := equal_ints w d Try.underlying37 Try.underlying5 cells5 A hA iA
  have q2 : (Op.equalIn (d + 2) 5 (.int .u8 c) (.int .u8 c)).run Try.prog w = .ok true w := by rw [run_equalIn_int w (d + 1) 5 .u8 .u8 c c Try.underlying5, beq_self_eq_true]
  have q3 := equal_ints w d Try.underlying38 Try.underlying33 cells33 S hS iS
  exact eqFields3 w (d + 2) M.toArray _ _ _ _ _ _ (by simp) (by simp) (by simp) p1 p2 p3 q1 q2 q3
theorem yieldsIf_eql_agg {P : Program} {ops : Array Oper} {S : World → Prop} {o : Oper} {a : Act} (hw : Region.wanted o (yielded ops a.tmps) = true) (t : TypeId) (x y : Operand) (t' : TypeId) (ho : o.op = .binOp .eql t x y t') (xs ys : Array Value) (hx : a.eval x = .agg xs) (hy : a.eval y = .agg ys)
    (hm : P.eqGuardType P.depth t = false) (he : ∀ w, (Op.equalIn 10000 t (.agg xs) (.agg ys)).run P w = .ok true w) : YieldsIf P ops S o (.bool true) a :=
  .inl ⟨hw, fun w _ => by
    unfold execOp
    simp only [ho, hx, hy, Sem.run_bind, run_eqGuard_agg w .eql t x y xs ys hm, Result.andThen_ok, run_eql_struct w t xs ys, he w]
    rfl⟩
theorem range_new1 {w : World} {C : List Value} {t : TypeId} (b : Nat) (hb : b = w.heap.size) : (w.alloc (.cells C.toArray t)).rangeAt b 0 C := by
  subst hb
  intro j v hv
  rw [Nat.zero_add, cell_of_row _ _ j C.toArray t (0, 0) (heap_alloc_new w _)]
  simpa using hv
theorem draws_below (w : World) (q : Nat) : Below w.heap.size w (w.drewN q) := ⟨rfl, rfl, rfl, Nat.le_refl _, fun _ _ => rfl⟩
theorem size36 : (Try.prog.info? 36).map (·.size) = some 16 := by kernel_rfl
end Go.Proofs.Qxb6604391a.Aces
