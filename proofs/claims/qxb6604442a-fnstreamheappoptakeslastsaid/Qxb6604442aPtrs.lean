/-
  ZZstreamPtrs by what it computes: a copy of the heap's pointers in a row of its own.
-/
import Derived.Test.Qxb6604442aHeap
import Derived.Laws.CopyOwn
namespace Go.Proofs.Qxb6604442a.Pop
open Go.RowKit
theorem size48 : (Try.prog.info? 48).map (·.size) = some 1 := by kernel_rfl
theorem own_row {w : World} {B g n cap : Nat} {e : TypeId} {xs : List Value} (h : w.ownsRow B e 1 (.slice (some ⟨g, 0, none⟩) n cap) n xs) : ∃ cur : Array Value, w.heap[g]? = some (.cells cur e (0, 0)) ∧ cur.size = cap ∧ B ≤ g ∧ n ≤ cap ∧ cap ≤ maxLen := by
  rcases h.2 with ⟨h', _⟩ | ⟨g', cap', cur, h', hB, hg, h1, h2, h3, _⟩
  · simp at h'
  · simp only [Value.slice.injEq, Option.some.injEq, Addr.mk.injEq, and_true, true_and] at h'
    obtain ⟨rfl, rfl⟩ := h'
    exact ⟨cur, hg, by simpa using h3, hB, h1, h2⟩
set_option maxHeartbeats 1000000 in
set_option maxRecDepth 100000 in
theorem ptrs_any (B H g n cap : Nat) (bs : List Nat) (w : World) (hn : n ≤ 65536) (hl : bs.length = n) (hH : w.heap[H]? = some (.cells #[.slice (some ⟨g, 0, none⟩) n cap] 67)) (hown : w.ownsRow B 48 1 (.slice (some ⟨g, 0, none⟩) n cap) n (bs.map ptr)) :
    Calls Try.prog 22 #[ptr H] w fun e w' => e = .returned (.slice (some ⟨w.heap.size, 0, none⟩) n n) ∧ w'.ownsRow w.heap.size 48 1 (.slice (some ⟨w.heap.size, 0, none⟩) n n) n (bs.map ptr) ∧ Below w.heap.size w w' := by
  obtain ⟨i0, hi, hz0, hz1, hz2⟩ := info_parts info48
  have cH : w.cell? ⟨H, 0, none⟩ = some (.slice (some ⟨g, 0, none⟩) n cap) := cell_of_one hH
  have hHlt : H < w.heap.size := lt_of_block hH
  show Calls Try.prog 22 #[.pointer (some ⟨H, 0, none⟩)] w _
  have HO : Hid (w.ownsRow B 48 1 (.slice (some ⟨g, 0, none⟩) n cap) n (bs.map ptr)) := hown
  clear hown hH
  go_enter Try.func22, Try.ntmps22
  go_wp2_with (at_make; refine wpList_make_full _ rfl _ _ 46 rfl w.heap.size 48 i0 (.pointer none) 1 Try.underlying46 hi hz0 hz1 .i64 .i64 _ _ n rfl rfl rfl rfl ?c1 ?c2 ?c3 ?_)
  case c1 => rw [hz2]; omega
  case c2 => unfold maxLen; omega
  case c3 => simp
  intro w1 hown1 hg1
  have hb1 : Below w.heap.size w w1 := (Below.refl _ _).grown hg1 (Nat.le_refl _) (by simp)
  have cH1 : w1.cell? ⟨H, 0, none⟩ = some (.slice (some ⟨g, 0, none⟩) n cap) := (hb1.cell (p := ⟨H, 0, none⟩) hHlt).trans cH
  obtain ⟨cur, hcur, hcs, _⟩ := own_row hown1
  have HO1 : Hid (w1.ownsRow B 48 1 (.slice (some ⟨g, 0, none⟩) n cap) n (bs.map ptr)) := HO.out.kept hg1 (by simp [Value.ownBlock])
  have HB : Hid (Below w.heap.size w w1) := hb1
  have HR : Hid (w1.heap[w.heap.size]? = some (.cells cur 48 (0, 0))) := hcur
  clear hg1 hown1 hb1 hcur HO cH
  go_wp2_with (refine wpList_copy_own rfl (.tmp 9) (.tmp 12) 46 67 rfl 48 Try.underlying46 size48 w.heap.size 0 n n ⟨g, 0, none⟩ n cap rfl rfl cur 48 HR.out (bs.map ptr) ?d1 ?d2 ?d3 ?d4 ?_)
  case d1 => simp [hl]
  case d2 => intro j v hv; exact HO1.out.cells rfl j v hv
  case d3 => simp [hl, hcs]
  case d4 => intro v hv; obtain ⟨b, _, rfl⟩ := List.mem_map.1 hv; rfl
  have HW : Hid ((w1.setRow w.heap.size (bs.map ptr ++ List.drop n cur.toList).toArray).ownsRow w.heap.size 48 1 (.slice (some ⟨w.heap.size, 0, none⟩) n n) n (bs.map ptr)) := by
    have e : bs.map ptr ++ List.drop n cur.toList = bs.map ptr := by rw [List.drop_eq_nil_of_le (by simp; omega), List.append_nil]
    rw [e]
    exact ⟨by simpa using hl, .inr ⟨w.heap.size, n, (bs.map ptr).toArray, rfl, Nat.le_refl _, setRow_heap w1 w.heap.size cur _ 48 (0, 0) HR.out, Nat.le_refl _, by unfold maxLen; omega, by simp [hl], List.take_of_length_le (by simp [hl])⟩⟩
  have HB2 : Hid (Below w.heap.size w (w1.setRow w.heap.size (bs.map ptr ++ List.drop n cur.toList).toArray)) := below_setRow HB.out (Nat.le_refl _) _
  clear HR HO1 HB cH1
  go_wp2
  go_ret
  exact ⟨rfl, HW.out, HB2.out⟩
end Go.Proofs.Qxb6604442a.Pop
