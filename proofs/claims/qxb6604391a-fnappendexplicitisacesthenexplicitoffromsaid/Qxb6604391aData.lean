/-
  The last cell's slice: cloneBytes and bytes.Clone.
-/
import Derived.Test.Qxb6604391aReach
import Derived.Laws.CopyOwn
import Derived.WalkSpells
import Derived.Lib.SmallJoins
namespace Go.Proofs.Qxb6604391a.Aces
open Go.RowKit
theorem info5 : (Try.prog.info? 5).map (fun i => (i.zero, i.size, i.bytes)) = some (some (.int .u8 0), 1, 1) := by kernel_rfl
theorem size5 : (Try.prog.info? 5).map (·.size) = some 1 := by kernel_rfl
/-- A slice's bytes (none: it is nil), in a block from B on. -/
def Dat (B : Nat) (w : World) (dv : Value) (d : Option (List Int)) : Prop :=
  match d with
  | none => dv = .slice none 0 0
  | some zs => ∃ a cap, dv = .slice (some a) zs.length cap ∧ ∀ j, j < zs.length → B ≤ a.block ∧ w.cell? (a.add j) = some (.int .u8 (zs[j]?.getD 0))
def dlen : Option (List Int) → Nat
  | none => 0
  | some zs => zs.length
theorem add_block (a : Addr) (j : Nat) : (a.add j).block = a.block := by unfold Addr.add; split <;> rfl
/-- Carried to another world in which its cells read as they did. -/
theorem Dat.carry {B B' : Nat} {w wr : World} {dv : Value} {d : Option (List Int)} (h : Dat B w dv d) (hc : ∀ (x : Addr) (v : Value), B ≤ x.block → w.cell? x = some v → B' ≤ x.block ∧ wr.cell? x = some v) : Dat B' wr dv d := by
  cases d with
  | none => exact h
  | some zs =>
    obtain ⟨a, cap, hv, hk⟩ := h
    refine ⟨a, cap, hv, fun j hj => ?_⟩
    have h1 := hk j hj
    have h2 := hc _ _ (by rw [add_block]; exact h1.1) h1.2
    exact ⟨by have := h2.1; rwa [add_block] at this, h2.2⟩
theorem Dat.below {B : Nat} {w wr : World} {dv : Value} {d : Option (List Int)} (h : Dat B w dv d) (hb : Below w.heap.size w wr) : Dat B wr dv d :=
  h.carry fun _ _ hB hc => ⟨hB, (hb.cell (World.block_lt_of_cell? w _ hc)).trans hc⟩
theorem Dat.mono {B B' : Nat} {w : World} {dv : Value} {d : Option (List Int)} (h : Dat B w dv d) (hB : B' ≤ B) : Dat B' w dv d :=
  h.carry fun _ _ h1 hc => ⟨Nat.le_trans hB h1, hc⟩
theorem Dat.shape {B : Nat} {w : World} {dv : Value} {d : Option (List Int)} (h : Dat B w dv d) : ∃ a cap, dv = .slice a (dlen d) cap ∧ a.isNone = d.isNone := by
  cases d with
  | none => exact ⟨none, 0, h, rfl⟩
  | some zs => obtain ⟨a, cap, hv, _⟩ := h; exact ⟨some a, cap, hv, rfl⟩
theorem dat_own {w : World} {B n : Nat} {v : Value} {zs : List Int} (hz : zs.length = n) (h : w.ownsRow B 5 1 v n (zs.map (Value.int .u8))) (hnn : v ≠ .slice none 0 0) : Dat B w v (some zs) := by
  have hc := fun g => h.cells (g := g)
  have hlt := h.lt
  rcases h.2 with ⟨h', _⟩ | ⟨g, cap, cur, rfl, _, _⟩
  · exact absurd h' hnn
  · subst hz
    exact ⟨⟨g, 0, none⟩, cap, rfl, fun j hj => ⟨(hlt g rfl).1, hc g rfl j _ (by simp [List.getElem?_eq_getElem hj])⟩⟩

set_option maxHeartbeats 1000000 in
/-- cloneBytes. -/
theorem cloneB_any (dv : Value) (d : Option (List Int)) (w : World) (hd : Dat 0 w dv d) (hl : dlen d ≤ 1048576) :
    Calls Try.prog 19 #[dv] w fun e w' => ∃ v', e = .returned v' ∧ Dat w.heap.size w' v' d ∧ Below w.heap.size w w' := by
  cases d with
  | none =>
    obtain rfl : dv = .slice none 0 0 := hd
    have hnil := fun w' : World => Lib.run_eql_slice_nil (P := Try.prog) w' 41 5 none 0 0 0 0 Try.underlying41
    go_enter Try.func19, Try.ntmps19
    go_wp2
    go_ret
    exact ⟨_, rfl, rfl, Below.refl _ _⟩
  | some zs =>
    obtain ⟨a, cap, rfl, hc⟩ := hd
    obtain ⟨i0, hi, hz0, hz1, hz2⟩ := info_parts info5
    obtain ⟨n, hn⟩ : ∃ n, n = zs.length := ⟨_, rfl⟩
    have hl' : n ≤ 1048576 := by rw [hn]; exact hl
    rw [← hn]
    have HN : Hid (n = zs.length) := hn
    have HC : Hid (∀ j, j < zs.length → w.cell? (a.add j) = some (.int .u8 (zs[j]?.getD 0))) := fun j hj => (hc j hj).2
    clear hc hn hl
    have hnil := fun w' : World => Lib.run_eql_slice_nil (P := Try.prog) w' 41 5 (some a) n cap 0 0 Try.underlying41
    go_enter Try.func19, Try.ntmps19
    go_wp2_with (at_make; refine wpList_make_full _ rfl _ _ 41 rfl w.heap.size 5 i0 (.int .u8 0) 1 Try.underlying41 hi hz0 hz1 .i64 .i64 _ _ n rfl rfl rfl rfl ?c1 ?c2 ?c3 ?_)
    case c1 => rw [hz2]; omega
    case c2 => unfold maxLen; omega
    case c3 => simp
    intro w1 hown1 hg1
    have hb1 : Below w.heap.size w w1 := (Below.refl _ _).grown hg1 (Nat.le_refl _) (by simp)
    obtain ⟨cur, hcur, hcs⟩ : ∃ cur : Array Value, w1.heap[w.heap.size]? = some (.cells cur 5 (0, 0)) ∧ cur.size = n := by
      rcases hown1.2 with ⟨h', _⟩ | ⟨g', cap', cur, h', hB, hg, h1, h2, h3, _⟩
      · simp at h'
      · simp only [Value.slice.injEq, Option.some.injEq, Addr.mk.injEq, and_true, true_and] at h'
        obtain ⟨rfl, rfl⟩ := h'
        exact ⟨cur, hg, by simpa using h3⟩
    have HB : Hid (Below w.heap.size w w1) := hb1
    have HR : Hid (w1.heap[w.heap.size]? = some (.cells cur 5 (0, 0))) := hcur
    have hml : (zs.map (Value.int .u8)).length = n := by rw [List.length_map, HN.out]
    have HM : Hid ((zs.map (Value.int .u8)).length = n) := hml
    clear hg1 hown1 hb1 hcur hml
    go_wp2_with (refine wpList_copy_own rfl (.tmp 9) (.tmp 10) 41 41 rfl 5 Try.underlying41 size5 w.heap.size 0 n n a n cap rfl rfl cur 5 HR.out (zs.map (Value.int .u8)) ?d1 ?d2 ?d3 ?d4 ?_)
    case d1 => rw [HM.out]; simp
    case d2 =>
      intro j v hv
      have hj : j < zs.length := by have := (List.getElem?_eq_some_iff.1 hv).1; simpa using this
      have h1 := HC.out j hj
      rw [(HB.out.cell (World.block_lt_of_cell? w _ h1)), h1, ← hv]
      simp [List.getElem?_eq_getElem hj]
    case d3 => rw [HM.out, hcs]; omega
    case d4 => intro v hv; obtain ⟨b, _, rfl⟩ := List.mem_map.1 hv; rfl
    have HK : Hid (∀ A : Array Value, A = (zs.map (Value.int .u8)).toArray → Dat w.heap.size (w1.setRow w.heap.size A) (.slice (some ⟨w.heap.size, 0, none⟩) n n) (some zs)) := by
      intro A hA
      refine ⟨⟨w.heap.size, 0, none⟩, n, by rw [HN.out], fun j hj => ⟨Nat.le_refl _, ?_⟩⟩
      rw [Addr.add_mid, Nat.zero_add, cell_of_row _ _ _ A 5 (0, 0) (setRow_heap w1 w.heap.size cur A 5 (0, 0) HR.out), hA]
      simp [List.getElem?_eq_getElem hj]
    have hdrop : List.drop n cur.toList = [] := List.drop_eq_nil_of_le (by rw [Array.length_toList, hcs]; exact Nat.le_refl _)
    go_wp2
    go_ret
    refine ⟨_, rfl, HK.out _ ?_, below_setRow HB.out (Nat.le_refl _) _⟩
    have e := HN.out
    simp [hdrop, ← e]

set_option maxHeartbeats 1000000 in
/-- bytes.Clone. -/
theorem bclone_any (dv : Value) (d : Option (List Int)) (w : World) (hd : Dat 0 w dv d) (hl : dlen d ≤ 1048576) :
    Calls Try.prog 27 #[dv] w fun e w' => ∃ v', e = .returned v' ∧ Dat w.heap.size w' v' d ∧ Below w.heap.size w w' := by
  cases d with
  | none =>
    obtain rfl : dv = .slice none 0 0 := hd
    have hnil := fun w' : World => Lib.run_eql_slice_nil (P := Try.prog) w' 41 5 none 0 0 0 0 Try.underlying41
    go_enter Try.func27, Try.ntmps27
    go_wp2
    go_ret
    exact ⟨_, rfl, rfl, Below.refl _ _⟩
  | some zs =>
    obtain ⟨a, cap, rfl, hc⟩ := hd
    obtain ⟨i0, hi, hz0, hz1, hz2⟩ := info_parts info5
    obtain ⟨n, hn⟩ : ∃ n, n = zs.length := ⟨_, rfl⟩
    have hl' : n ≤ 1048576 := by rw [hn]; exact hl
    rw [← hn]
    have HN : Hid (n = zs.length) := hn
    have HC : Hid (∀ j, j < zs.length → w.cell? (a.add j) = some (.int .u8 (zs[j]?.getD 0))) := fun j hj => (hc j hj).2
    clear hc hn hl
    have hnil := fun w' : World => Lib.run_eql_slice_nil (P := Try.prog) w' 41 5 (some a) n cap 0 0 Try.underlying41
    go_enter Try.func27, Try.ntmps27
    go_wp2_with (at_builtin; refine wpList_append_own _ rfl (.tmp 5) (.tmp 6) 41 rfl w.heap.size 5 i0 (.int .u8 0) 1 1 Try.underlying41 hi hz0 hz1 hz2 rfl (by decide) _ _ _ rfl (World.ownsRow_lit w #[] 0 (Nat.le_refl _) (by decide) rfl) a n cap (zs.map (Value.int .u8)) rfl ?c0 ?c1 ?c2 ?c3 ?c4 ?c5 ?_)
    case c0 => rw [List.length_map, HN.out]; omega
    case c1 =>
      intro j v hv
      have hj : j < zs.length := by have := (List.getElem?_eq_some_iff.1 hv).1; simpa using this
      have h1 := HC.out j hj
      rw [World.cell?_alloc_lt _ _ _ (World.block_lt_of_cell? w _ h1), h1, ← hv]
      simp [List.getElem?_eq_getElem hj]
    case c2 => intro v hv; obtain ⟨b, _, rfl⟩ := List.mem_map.1 hv; rfl
    case c3 => unfold maxLen; omega
    case c4 => omega
    case c5 => simp
    intro v' w1 hown' hgrow hnn
    have HD : Hid (Dat w.heap.size w1 v' (some zs)) := by
      have h2 : w1.ownsRow w.heap.size 5 1 v' n (zs.map (Value.int .u8)) := by simpa using hown'
      exact dat_own HN.out.symm h2 hnn
    have HB : Hid (Below w.heap.size w w1) := ((Below.refl _ _).alloc (Nat.le_refl _) _).grown hgrow (by simp) (fun k hk => by simp [Value.ownBlock] at hk; omega)
    clear hown' hgrow hnn
    go_wp2
    go_ret
    exact ⟨_, rfl, HD.out, HB.out⟩
end Go.Proofs.Qxb6604391a.Aces
