/-
  ZZnewStreamHeap by what it lays: a cell that holds the heap; a row of pointers, one to each stream; each stream of its size.
-/
import Derived.Test.Qxb6604442aRows
import Derived.WalkKit
import Derived.ProofKit
import Derived.OpenShut
import Derived.Lib.OthersKept
import Derived.Lib.OwnKind
import Derived.Lib.SmallJoins
namespace Go.Proofs.Qxb6604442a.Pop
open Go.RowKit
theorem info48 : (Try.prog.info? 48).map (fun i => (i.zero, i.size, i.bytes)) = some (some (.pointer none), 1, 8) := by kernel_rfl
/-- A stream's cells: all zero but its size. -/
def strm (z : Int) : Array Value := #[.string ⟨#[]⟩, .int .i64 0, .int .i64 0, .int .i64 0, .string ⟨#[]⟩, .string ⟨#[]⟩, .slice none 0 0, .int .i64 z, .pointer none, .int .i64 0]
/-- A pointer to a block's head. -/
def ptr (b : Nat) : Value := .pointer (some ⟨b, 0, none⟩)
/-- Blocks bs, a stream each. -/
def Strs (wr : World) (zs : List Int) (bs : List Nat) : Prop := ∀ (i b : Nat), bs[i]? = some b → wr.heap[b]? = some (Obj.cells (strm (zs[i]?.getD 0)) 74)
/-- What lies behind k rounds: the cell H holds v, which owns the pointers to the streams. -/
def Inv (w : World) (H : Nat) (zs : List Int) (k : Nat) (wr : World) (v : Value) (bs : List Nat) : Prop :=
  bs.length = k ∧ wr.heap[H]? = some (.cells #[v] 67) ∧ wr.ownsRow w.heap.size 48 1 v k (bs.map ptr) ∧ Strs wr zs bs ∧ Below w.heap.size w wr

theorem row_ne {w : World} {B : Nat} {e T : TypeId} {v : Value} {n : Nat} {xs : List Value} {b : Nat} {cs : Array Value} {fr : Nat × Nat} (hown : w.ownsRow B e 1 v n xs) (hb : w.heap[b]? = some (.cells cs T fr)) (hTe : T ≠ e) : v.ownBlock ≠ some b := by
  intro h
  obtain ⟨c, fz, hc⟩ := Lib.ownsRow_kind hown b h
  rw [hb] at hc
  cases hc
  exact hTe rfl

theorem step {w wr w1 : World} {H k : Nat} {zs : List Int} {v v' : Value} {bs : List Nat} {z : Int} (hz : z = zs[k]?.getD 0) (h : Inv w H zs k wr v bs) (hH : w.heap.size ≤ H)
    (ho : w1.ownsRow w.heap.size 48 1 v' (k + 1) (bs.map ptr ++ [ptr wr.heap.size]))
    (hg : ((wr.alloc (.cells (strm z) 74)).alloc (.cells #[ptr wr.heap.size] 48)).grownBy w1 v.ownBlock) :
    w1.heap[H]? = some (.cells #[v] 67) ∧ Inv w H zs (k + 1) (w1.setCell ⟨H, 0, none⟩ v') v' (bs ++ [wr.heap.size]) := by
  subst hz
  obtain ⟨hl, hc, hown, hst, hb⟩ := h
  have hsz := hb.size
  have hHlt : H < wr.heap.size := (Array.getElem?_eq_some_iff.1 hc).1
  have old : ∀ j, j < wr.heap.size → ((wr.alloc (.cells (strm (zs[k]?.getD 0)) 74)).alloc (.cells #[ptr wr.heap.size] 48)).heap[j]? = wr.heap[j]? := fun j hj => by
    rw [Below.heap_alloc _ _ _ (by simp; omega), Below.heap_alloc _ _ _ hj]
  have hH1 : w1.heap[H]? = some (.cells #[v] 67) := by
    rw [hg.block H (by simp; omega) (fun e => row_ne hown hc (by decide) e.symm), old H hHlt]
    exact hc
  refine ⟨hH1, by simp [hl], ?_, ?_, ?_, ?_⟩
  · exact one_setCell hH1
  · have := ownsRow_setCell_other ho (a := ⟨H, 0, none⟩) (row_ne ho hH1 (by decide)) v'
    simpa using this
  · intro i b hi
    have key : ∀ z, w1.heap[b]? = some (.cells (strm z) 74) → (w1.setCell ⟨H, 0, none⟩ v').heap[b]? = some (.cells (strm z) 74) := by
      intro z hz
      rw [Below.heap_setCell _ _ _ _ (fun e => by have e' : b = H := e; subst e'; rw [hH1] at hz; cases hz)]
      exact hz
    by_cases hik : i < bs.length
    · rw [List.getElem?_append_left hik] at hi
      have h1 := hst i b hi
      have hlt : b < wr.heap.size := (Array.getElem?_eq_some_iff.1 h1).1
      refine key _ ?_
      rw [hg.block b (by simp; omega) (fun e => row_ne hown h1 (by decide) e.symm), old b hlt]
      exact h1
    · rw [List.getElem?_append_right (by omega)] at hi
      have hi0 : i - bs.length = 0 := by
        by_cases h0 : i - bs.length = 0
        · exact h0
        · rw [List.getElem?_eq_none (by simp; omega)] at hi; cases hi
      rw [hi0] at hi
      simp at hi
      subst hi
      have hik' : i = k := by omega
      subst hik'
      refine key _ ?_
      have hnew : ((wr.alloc (.cells (strm (zs[i]?.getD 0)) 74)).alloc (.cells #[ptr wr.heap.size] 48)).heap[wr.heap.size]? = some (.cells (strm (zs[i]?.getD 0)) 74) := by
        rw [Below.heap_alloc _ _ _ (by simp)]; exact heap_alloc_new wr _
      rw [hg.block wr.heap.size (by simp; omega) (fun e => by have := (hown.lt _ e.symm).2; omega)]
      exact hnew
  · exact (((hb.alloc (by omega) _).alloc (by simp; omega) _).grown hg (by simp; omega) (fun j hj => (hown.lt j hj).1)).setCell hH v'

set_option maxHeartbeats 1000000 in
set_option maxRecDepth 100000 in
theorem new_any (g0 n cap0 : Nat) (zs : List Int) (w : World) (hz : zs.length = n) (hn : n ≤ 65536) (hcell : ∀ j, j < n → w.cell? ⟨g0, j, none⟩ = some (.int .i64 (zs[j]?.getD 0))) :
    Calls Try.prog 21 #[.slice (some ⟨g0, 0, none⟩) n cap0] w fun e w' => e = .returned (ptr (w.heap.size + 1)) ∧ ∃ v bs, Inv w (w.heap.size + 1) zs n w' v bs := by
  obtain ⟨i0, hi, hz0, hz1, hz2⟩ := info_parts info48
  go_enter Try.func21, Try.ntmps21
  go_wp2
  go_loopw [9] (fun i wr => ∃ k : Nat, k ≤ n ∧ i = .int .i64 k ∧ Hid (∃ v bs, Inv w (w.heap.size + 1) zs k wr v bs)) (fun i _ => n - (intOf i).toNat)
  case atStart =>
    refine ⟨0, Nat.zero_le _, rfl, .slice (some ⟨w.heap.size, 0, none⟩) 0 0, [], rfl, ?_, ?_, fun i b h => by simp at h, ((Below.refl _ _).alloc (Nat.le_refl _) _).alloc (by simp) _⟩
    · have h := heap_alloc_new (w.alloc (.cells #[] 48)) (.cells #[.slice (some ⟨w.heap.size, 0, none⟩) 0 0] 67)
      simpa using h
    · exact (World.ownsRow_lit w #[] 0 (Nat.le_refl _) (by decide) rfl).alloc _
  case round =>
    obtain ⟨k, hk, rfl, HI⟩ := hrel
    by_cases hlt : k < n
    · obtain ⟨v, bs, hI⟩ := HI.out
      have hHlt : w.heap.size + 1 < wr.heap.size := (Array.getElem?_eq_some_iff.1 hI.2.1).1
      have cH : wr.cell? ⟨w.heap.size + 1, 0, none⟩ = some v := cell_of_one hI.2.1
      have hg0 : g0 < w.heap.size := World.block_lt_of_cell? w _ (hcell k hlt)
      obtain ⟨z, hzk⟩ : ∃ z, z = zs[k]?.getD 0 := ⟨_, rfl⟩
      have c0 : wr.cell? ⟨g0, k, none⟩ = some (.int .i64 z) := by rw [hzk]; exact (hI.2.2.2.2.cell (p := ⟨g0, k, none⟩) hg0).trans (hcell k hlt)
      have HZ : Hid (z = zs[k]?.getD 0) := hzk
      have HC : Hid (∀ j, j < n → w.cell? ⟨g0, j, none⟩ = some (.int .i64 (zs[j]?.getD 0))) := hcell
      have HI1 : Hid (Inv w (w.heap.size + 1) zs k wr v bs) := hI
      clear hI HI hcell hzk
      go_wp2_with (at_builtin; refine wpList_append_own _ rfl (.tmp 13) (.tmp 17) 67 rfl w.heap.size 48 i0 (.pointer none) 1 8 Try.underlying67 hi hz0 hz1 hz2 rfl (by decide) _ _ _ rfl ((HI1.out.2.2.1.alloc _).alloc _) ⟨wr.heap.size + 1, 0, none⟩ 1 1 [ptr wr.heap.size] rfl rfl ?c1 ?c2 ?c3 ?c4 ?c5 ?_)
      case c1 =>
        intro j u hj
        match j, hj with
        | 0, hj => simp at hj; subst hj; simp [Addr.add, ptr]
      case c2 => intro u hu; simp at hu; subst hu; rfl
      case c3 => unfold maxLen; omega
      case c4 => omega
      case c5 => have := HI1.out.2.2.2.2.size; simp; omega
      intro v' w1 hown' hgrow _
      have R := step (HZ.out) HI1.out (by omega) hown' hgrow
      obtain ⟨g', cap', hv'⟩ := Joins.ownsRow_form hown' (by omega)
      have R1 : Hid (Inv w (w.heap.size + 1) zs (k + 1) (w1.setCell ⟨w.heap.size + 1, 0, none⟩ v') v' (bs ++ [wr.heap.size])) := R.2
      have cH1 : w1.cell? ⟨w.heap.size + 1, 0, none⟩ = some v := cell_of_one R.1
      have fH1 : w1.frozen? ⟨w.heap.size + 1, 0, none⟩ = false := free_of_one R.1
      clear R hown' hgrow HI1 cH c0
      rw [hv'] at R1
      rw [hv']
      clear hv'
      go_wp2
      go_roundw
      case rel => exact ⟨k + 1, by omega, by go_num, _, _, R1.out⟩
      case measure => simp [intOf]; omega
    · obtain rfl : k = n := by omega
      go_wp2
      go_ret
      exact ⟨rfl, HI.out⟩
end Go.Proofs.Qxb6604442a.Pop
