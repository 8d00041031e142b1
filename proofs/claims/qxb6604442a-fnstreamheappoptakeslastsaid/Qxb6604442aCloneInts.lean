/-
  zzB1CloneInts by what it computes.
-/
import Derived.Test.Qxb6604442aRows
import Derived.WalkKit
import Derived.ProofKit
import Derived.OpenShut
import Derived.WalkSpells
namespace Go.Proofs.Qxb6604442a.Pop
open Go.RowKit
theorem info3 : (Try.prog.info? 3).map (fun i => (i.zero, i.size, i.bytes)) = some (some (.int .i64 0), 1, 8) := by kernel_rfl
/-- The copy behind k rounds. -/
def half (zs : List Int) (k : Nat) : List Int := zs.take k ++ List.replicate (zs.length - k) 0
theorem half_len (zs : List Int) (k : Nat) (h : k ≤ zs.length) : (half zs k).length = zs.length := by simp [half]; omega
theorem half_zero (zs : List Int) : half zs 0 = List.replicate zs.length 0 := by simp [half]
theorem half_all (zs : List Int) : half zs zs.length = zs := by simp [half]
theorem half_set (zs : List Int) (k : Nat) (h : k < zs.length) : (half zs k).set k (zs[k]?.getD 0) = half zs (k + 1) := by
  unfold half
  have hl : (zs.take k).length = k := by simp; omega
  rw [List.set_append_right _ _ (by omega), hl, Nat.sub_self, show zs.length - k = (zs.length - (k + 1)) + 1 by omega, List.replicate_succ, List.set_cons_zero, List.take_succ_eq_append_getElem h, List.getElem?_eq_getElem h]
  simp only [Option.getD_some, List.append_assoc, List.singleton_append]

theorem owns_of_made {w : World} {B n : Nat} {v : Value} (h : w.ownsRow B 3 1 v n (madeCells #[Value.int .i64 0] n).toList) (zs : List Int) (hz : zs.length = n) : w.ownsRow B 3 1 v n ((half zs 0).map (Value.int .i64)) := by
  have e : (madeCells #[Value.int .i64 0] n).toList = (half zs 0).map (Value.int .i64) := by
    rw [half_zero, hz, toList_madeCells_one]; simp
  rw [← e]; exact h

set_option maxHeartbeats 400000 in
set_option maxRecDepth 100000 in
/-- zzB1CloneInts, of a slice that is not nil, at a plain address. -/
theorem clone_at (b off n c : Nat) (zs : List Int) (w : World) (hz : zs.length = n) (hn : n ≤ 1099511627776) (hcell : ∀ j, j < n → w.cell? ⟨b, off + j, none⟩ = some (.int .i64 (zs.getD j 0))) :
    Calls Try.prog 20 #[.slice (some ⟨b, off, none⟩) n c] w fun e w' => ∃ v', e = .returned v' ∧ w'.ownsRow w.heap.size 3 1 v' n (zs.map (Value.int .i64)) ∧ Below w.heap.size w w' := by
  obtain ⟨i0, hi, hz0, hz1, hz2⟩ := info_parts info3
  have hnil := fun w' : World => Lib.run_eql_slice_nil (P := Try.prog) w' 41 3 (some ⟨b, off, none⟩) n c 0 0 Try.underlying41
  go_enter Try.func20, Try.ntmps20
  go_wp2_with (at_make; refine wpList_make_full _ rfl _ _ 41 rfl w.heap.size 3 i0 (.int .i64 0) 1 Try.underlying41 hi hz0 hz1 .i64 .i64 _ _ n rfl rfl rfl rfl ?c1 ?c2 ?c3 ?_)
  case c1 => rw [hz2]; omega
  case c2 => unfold maxLen; omega
  case c3 => simp
  intro w1 hown1 hg1
  have hown1 := owns_of_made hown1 zs hz
  have hb1 : Below w.heap.size w w1 := (Below.refl _ _).grown hg1 (Nat.le_refl _) (by simp)
  clear hg1
  go_wp2
  go_loopw [4] (fun i wr => ∃ k : Nat, k ≤ n ∧ i = .int .i64 k ∧ wr.ownsRow w.heap.size 3 1 (.slice (some ⟨w.heap.size, 0, none⟩) n n) n ((half zs k).map (Value.int .i64)) ∧ Below w.heap.size w wr) (fun i _ => n - (intOf i).toNat)
  case atStart => exact ⟨0, Nat.zero_le _, rfl, hown1, hb1⟩
  case round =>
    obtain ⟨k, hk, rfl, hown, hb⟩ := hrel
    clear hown1 hb1
    by_cases hlt : k < n
    · have hblk : b < w.heap.size := World.block_lt_of_cell? w _ (hcell k hlt)
      have hc0 : wr.cell? ⟨b, off + k, none⟩ = some (.int .i64 (zs.getD k 0)) := (hb.cell (p := ⟨b, off + k, none⟩) hblk).trans (hcell k hlt)
      have hc1 : ∃ u, wr.cell? ⟨w.heap.size, k, none⟩ = some u := by
        rw [hown.cellAt k (by omega)]
        exact ⟨_, List.getElem?_eq_getElem (by simp [half_len zs k (by omega)]; omega)⟩
      obtain ⟨u, hc1⟩ := hc1
      have hf1 := hown.frozenAt k
      have hst := hown.stored k (.int .i64 (zs[k]?.getD 0))
      clear hcell
      go_wp2
      go_roundw
      case rel =>
        refine ⟨k + 1, by omega, by go_num, ?_, hb.setCell (Nat.le_refl _) _⟩
        have h3 := hst.1
        rw [← List.map_set, half_set zs k (by omega), List.getElem?_eq_getElem (show k < zs.length by omega), Option.getD_some] at h3
        exact h3
      case measure => simp [intOf]; omega
    · obtain rfl : k = n := by omega
      go_wp2
      go_ret
      refine ⟨_, rfl, ?_, hb⟩
      have e := half_all zs
      rw [hz] at e
      rw [e] at hown
      exact hown

/-- zzB1CloneInts, of every slice: nil, empty, whatever its address. -/
theorem clone_any (ao : Option Addr) (n c : Nat) (zs : List Int) (w : World) (hz : zs.length = n) (hn : n ≤ 1099511627776) (hnil : ao = none → n = 0 ∧ c = 0) (hcell : ∀ a, ao = some a → ∀ j, j < n → w.cell? (a.add j) = some (.int .i64 (zs.getD j 0))) :
    Calls Try.prog 20 #[.slice ao n c] w fun e w' => ∃ v', e = .returned v' ∧ w'.ownsRow w.heap.size 3 1 v' n (zs.map (Value.int .i64)) ∧ Below w.heap.size w w' := by
  cases ao with
  | none =>
    obtain ⟨rfl, rfl⟩ := hnil rfl
    obtain rfl : zs = [] := List.eq_nil_of_length_eq_zero hz
    have hnil' := fun w' : World => Lib.run_eql_slice_nil (P := Try.prog) w' 41 3 none 0 0 0 0 Try.underlying41
    go_enter Try.func20, Try.ntmps20
    go_wp2
    go_ret
    exact ⟨_, rfl, World.ownsRow_nil _ _ _ _, Below.refl _ _⟩
  | some a =>
    by_cases h0 : 0 < n
    · obtain ⟨b, off, rfl, hc⟩ := ints_at (a := a) (k := .i64) (zs := zs) (fun i hi => hcell a rfl i (by omega)) (by omega)
      exact clone_at b off n c zs w hz hn (fun j hj => hc j (by omega))
    · obtain rfl : n = 0 := by omega
      obtain rfl : zs = [] := List.eq_nil_of_length_eq_zero hz
      obtain ⟨i0, hi, hz0, hz1, hz2⟩ := info_parts info3
      have hnil' := fun w' : World => Lib.run_eql_slice_nil (P := Try.prog) w' 41 3 (some a) 0 c 0 0 Try.underlying41
      have hmk : ∀ w', (Instr.makeSlice 41 (.int .i64 0) (.int .i64 0)).run Try.prog w' = .ok (.slice (some ⟨w'.heap.size, 0, none⟩) 0 0) (w'.alloc (.cells #[] 3)) := fun _ => by kernel_rfl
      go_enter Try.func20, Try.ntmps20
      go_wp2
      refine wp_loop_rounds 1 ?_
      rw [rounds_succ]
      go_wp2
      go_ret
      exact ⟨_, rfl, World.ownsRow_lit w #[] 0 (Nat.le_refl _) (by decide) rfl, (Below.refl _ _).alloc (Nat.le_refl _) _⟩

/-- The same, of a slice that the call owns. -/
theorem clone_own (B n : Nat) (v : Value) (zs : List Int) (w : World) (hz : zs.length = n) (hn : n ≤ 1099511627776) (hown : w.ownsRow B 3 1 v n (zs.map (Value.int .i64))) :
    Calls Try.prog 20 #[v] w fun e w' => ∃ v', e = .returned v' ∧ w'.ownsRow w.heap.size 3 1 v' n (zs.map (Value.int .i64)) ∧ Below w.heap.size w w' := by
  have hcells := fun g => hown.cells (g := g)
  rcases hown.2 with ⟨rfl, rfl⟩ | ⟨g, cap, cur, rfl, _, _⟩
  · exact clone_any none 0 0 zs w hz hn (fun _ => ⟨rfl, rfl⟩) (fun a h => by cases h)
  · refine clone_any (some ⟨g, 0, none⟩) n cap zs w hz hn (fun h => by cases h) (fun a h j hj => ?_)
    obtain rfl := Option.some.inj h
    exact hcells g rfl j _ (by simp [List.getD, List.getElem?_eq_getElem (show j < zs.length by omega)])
end Go.Proofs.Qxb6604442a.Pop
