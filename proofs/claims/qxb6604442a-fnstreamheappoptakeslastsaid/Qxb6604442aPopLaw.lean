/-
  THE WALK OF THE LAW 'Pop takes the last'.
-/
import Derived.Test.Qxb6604442aCloneInts
import Derived.Test.Qxb6604442aPopW
import Derived.Lib.Builder
namespace Go.Proofs.Qxb6604442a.Pop
open Go.RowKit
theorem info74 : (Try.prog.info? 74).isSome = true := by kernel_rfl
theorem neq_same (a : Addr) (w : World) : (binOp .neq 48 (.pointer (some a)) (.pointer (some a))).run Try.prog w = .ok (.bool false) w := by
  obtain ⟨j, hj⟩ := Option.isSome_iff_exists.1 info74
  exact Lib.run_neq_ptr_same w a Try.underlying48 hj
theorem own_ints {w : World} {B g n cap : Nat} {zs : List Int} (h : w.ownsRow B 3 1 (.slice (some ⟨g, 0, none⟩) n cap) n (zs.map (Value.int .i64))) (j : Nat) (hj : j < n) : w.cell? ⟨g, j, none⟩ = some (.int .i64 (zs[j]?.getD 0)) := by
  have hl : zs.length = n := by simpa using h.1
  rw [h.cellAt j (by omega)]
  simp [List.getElem?_eq_getElem (show j < zs.length by omega)]
theorem own_ptrs {w : World} {B g n cap : Nat} {bs : List Nat} (h : w.ownsRow B 48 1 (.slice (some ⟨g, 0, none⟩) n cap) n (bs.map ptr)) (j : Nat) (hj : j < n) : w.cell? ⟨g, j, none⟩ = some (.pointer (some ⟨bs[j]?.getD 0, 0, none⟩)) := by
  have hl : bs.length = n := by simpa using h.1
  rw [h.cellAt j (by omega)]
  simp [List.getElem?_eq_getElem (show j < bs.length by omega), ptr]

theorem drewN_more {w wr : World} (h : ∃ q, wr = w.drewN q) (m : Nat) : ∃ q, wr.drewN m = w.drewN q := by
  obtain ⟨q, rfl⟩ := h
  exact ⟨q + m, World.drewN_drewN ..⟩
/-- What the law knows behind Pop: the heap's cell, the streams that are left, the copy of the pointers, the sizes. -/
structure Known (w4 : World) (H g m cap N2 g0 : Nat) (zs : List Int) (bs : List Nat) : Prop where
  heap : w4.cell? ⟨H, 0, none⟩ = some (.slice (some ⟨g, 0, none⟩) m cap)
  row : ∀ j, j < m → w4.cell? ⟨g, j, none⟩ = some (.pointer (some ⟨bs[j]?.getD 0, 0, none⟩))
  bef : ∀ j, j < m + 1 → w4.cell? ⟨N2, j, none⟩ = some (.pointer (some ⟨bs[j]?.getD 0, 0, none⟩))
  sizes : ∀ j, j < m + 1 → w4.cell? ⟨g0, j, none⟩ = some (.int .i64 (zs[j]?.getD 0))
  strs : ∀ j, j < m + 1 → w4.cell? ⟨bs[j]?.getD 0, 7, none⟩ = some (.int .i64 (zs[j]?.getD 0))

theorem put_other {w : World} {b o c d : Nat} {v u : Value} (h : w.cell? ⟨b, o, none⟩ = some v) (hne : c ≠ b ∨ d ≠ o) : (w.setCell ⟨c, d, none⟩ u).cell? ⟨b, o, none⟩ = some v := by
  rw [World.cell?_setCell_other _ _ _ _ (fun e => by injection e with e1 e2; rcases hne with h | h <;> contradiction)]
  exact h

theorem known {w1 w2 w3 : World} {H m cap g N2 g0 q : Nat} {zs : List Int} {bs : List Nat} (hl : bs.length = m + 1)
    (hH2 : w2.heap[H]? = some (.cells #[.slice (some ⟨g, 0, none⟩) (m + 1) cap] 67)) (ho2 : w2.ownsRow w1.heap.size 48 1 (.slice (some ⟨g, 0, none⟩) (m + 1) cap) (m + 1) (bs.map ptr)) (hs2 : Strs w2 zs bs) (hHB : w1.heap.size ≤ H)
    (hN : N2 = w2.heap.size) (ho3 : w3.ownsRow N2 48 1 (.slice (some ⟨N2, 0, none⟩) (m + 1) (m + 1)) (m + 1) (bs.map ptr)) (hb3 : Below w2.heap.size w2 w3)
    (hg0 : g0 < w1.heap.size) (hz : ∀ j, j < m + 1 → w3.cell? ⟨g0, j, none⟩ = some (.int .i64 (zs[j]?.getD 0))) :
    H ≠ g ∧ Known (((w3.setCell ⟨g, m, none⟩ (.pointer none)).setCell ⟨H, 0, none⟩ (.slice (some ⟨g, 0, none⟩) m cap)).drewN q) H g m cap N2 g0 zs bs := by
  subst hN
  obtain ⟨cur, hcur, _, hBg, _⟩ := own_row ho2
  have hgl : g < w2.heap.size := lt_of_block hcur
  have hHl : H < w2.heap.size := lt_of_block hH2
  have hne : H ≠ g := by
    intro e
    rw [e, hcur] at hH2
    cases hH2
  have hs3 : ∀ j, j < m + 1 → (bs[j]?.getD 0 ≠ g ∧ bs[j]?.getD 0 ≠ H) ∧ w3.cell? ⟨bs[j]?.getD 0, 7, none⟩ = some (.int .i64 (zs[j]?.getD 0)) := by
    intro j hj
    have hb : bs[j]? = some (bs[j]?.getD 0) := by simp [List.getElem?_eq_getElem (show j < bs.length by omega)]
    have h1 := hs2 j _ hb
    refine ⟨⟨fun e => ?_, fun e => ?_⟩, ?_⟩
    · rw [e, hcur] at h1; cases h1
    · rw [e, hH2] at h1; cases h1
    · have hlt := lt_of_block h1
      have h2 := (hb3.block _ hlt).trans h1
      rw [cell_of_row w3 _ 7 _ 74 (0, 0) h2]
      rfl
  have cH3 : w3.cell? ⟨H, 0, none⟩ = some (.slice (some ⟨g, 0, none⟩) (m + 1) cap) := cell_of_one ((hb3.block H hHl).trans hH2)
  have ho3' : w3.ownsRow w1.heap.size 48 1 (.slice (some ⟨g, 0, none⟩) (m + 1) cap) (m + 1) (bs.map ptr) := ho2.kept (row := none) ⟨hb3.os, hb3.tape, hb3.output, hb3.size, fun k hk _ => hb3.block k hk⟩ (by simp [Value.ownBlock])
  refine ⟨hne, ⟨?_, ?_, ?_, ?_, ?_⟩⟩
  · exact World.cell?_setCell_same _ _ _ (put_other cH3 (.inl hne.symm))
  · intro j hj
    exact put_other (put_other (own_ptrs ho3' j (by omega)) (.inr (by omega))) (.inl hne)
  · intro j hj
    exact put_other (put_other (own_ptrs ho3 j hj) (.inl (by omega))) (.inl (by omega))
  · intro j hj
    exact put_other (put_other (hz j hj) (.inl (by omega))) (.inl (by omega))
  · intro j hj
    obtain ⟨⟨n1, n2⟩, h⟩ := hs3 j hj
    exact put_other (put_other h (.inl n1.symm)) (.inl n2.symm)

set_option maxHeartbeats 2000000 in
set_option maxRecDepth 100000 in
theorem law5 (ao : Option Addr) (n c : Nat) (zs : List Int) (w : World) (hz : zs.length = n) (h1 : 1 ≤ n) (hn : n ≤ 65536) (hnil : ao = none → n = 0 ∧ c = 0) (hcell : ∀ a, ao = some a → ∀ j, j < n → w.cell? (a.add j) = some (.int .i64 (zs.getD j 0))) :
    Calls Try.prog 5 #[.slice ao n c] w fun e w' => e = .returned (.bool true) ∧ Below w.heap.size w w' := by
  have hd : okN n = true := decide_eq_true (by omega)
  have HZ : Hid (zs.length = n) := hz
  have HN : Hid (ao = none → n = 0 ∧ c = 0) := hnil
  have HC : Hid (∀ a, ao = some a → ∀ j, j < n → w.cell? (a.add j) = some (.int .i64 (zs.getD j 0))) := hcell
  obtain ⟨m, hm⟩ : ∃ m, n = m + 1 := ⟨n - 1, by omega⟩
  have hm1 : m < n := by omega
  have hm2 : n ≤ m + 1 := by omega
  have e1 : (n : Int) - 1 = (m : Int) := by omega
  have HM : Hid (n = m + 1) := hm
  clear hz hnil hcell hm
  go_enter Try.func5, Try.ntmps5
  go_wp2_with (go_at_call 19; refine (bytes_any _ _ _ _ (by unfold maxLen; omega)).mono ?_; rintro e w' ⟨rfl, hw⟩; obtain rfl := hw.symm)
  refine (clone_any ao n c zs _ HZ.out (by omega) HN.out HC.out).mono ?_
  rintro e w1 ⟨v0, rfl, ho0, hb0⟩
  obtain ⟨g0, cap0, hv0⟩ := Joins.ownsRow_form ho0 (by omega)
  rw [hv0]
  rw [hv0] at ho0
  have HO : Hid (w1.ownsRow w.heap.size 3 1 (.slice (some ⟨g0, 0, none⟩) n cap0) n (zs.map (Value.int .i64))) := ho0
  clear HN HC hv0 ho0
  go_wp2_with fail
  refine (new_any g0 n cap0 zs _ HZ.out (by omega) (own_ints HO.out)).mono ?_
  rintro e w2 ⟨rfl, v, bs, hI⟩
  rw [show ptr (w1.heap.size + 1) = .pointer (some ⟨w1.heap.size + 1, 0, none⟩) from rfl]
  obtain ⟨hl, hH2, ho2, hs2, hb2⟩ := hI
  obtain ⟨g, cap, hv⟩ := Joins.ownsRow_form ho2 (by omega)
  rw [hv] at hH2 ho2
  clear hv
  have HH2 : Hid (w2.heap[w1.heap.size + 1]? = some (.cells #[.slice (some ⟨g, 0, none⟩) n cap] 67)) := hH2
  have HO2 : Hid (w2.ownsRow w1.heap.size 48 1 (.slice (some ⟨g, 0, none⟩) n cap) n (bs.map ptr)) := ho2
  have HS2 : Hid (Strs w2 zs bs) := hs2
  have HL : Hid (bs.length = n) := hl
  clear hl hH2 ho2 hs2
  go_wp2_with fail
  refine (ptrs_any w1.heap.size (w1.heap.size + 1) g n cap bs _ hn HL.out HH2.out HO2.out).mono ?_
  rintro e w3 ⟨rfl, ho3, hb3⟩
  have HO3 : Hid (w3.ownsRow w2.heap.size 48 1 (.slice (some ⟨w2.heap.size, 0, none⟩) n n) n (bs.map ptr)) := ho3
  clear ho3
  go_wp2_with fail
  have hz3 : ∀ j, j < m + 1 → w3.cell? ⟨g0, j, none⟩ = some (.int .i64 (zs[j]?.getD 0)) := by
    intro j hj
    have h := own_ints HO.out j (by omega)
    have hlt : g0 < w1.heap.size := World.block_lt_of_cell? w1 _ h
    exact ((hb3.cell (p := ⟨g0, j, none⟩) (by have := hb2.size; show g0 < _; omega)).trans (hb2.cell (p := ⟨g0, j, none⟩) hlt)).trans h
  have hg0 : g0 < w1.heap.size := World.block_lt_of_cell? w1 _ (own_ints HO.out 0 (by omega))
  have HK : Hid (∀ q, w1.heap.size + 1 ≠ g ∧ Known (((w3.setCell ⟨g, m, none⟩ (.pointer none)).setCell ⟨w1.heap.size + 1, 0, none⟩ (.slice (some ⟨g, 0, none⟩) m cap)).drewN q) (w1.heap.size + 1) g m cap w2.heap.size g0 zs bs) := by
    intro q
    have a1 := HH2.out; have a2 := HO2.out; have a3 := HO3.out; have a4 := HL.out
    rw [HM.out] at a1 a2 a3 a4
    exact known a4 a1 a2 HS2.out (by omega) rfl a3 hb3 hg0 hz3
  have hgb : w1.heap.size ≤ g := (own_row HO2.out).choose_spec.2.2.1
  have HB : Hid (∀ q, Below w.heap.size w (((w3.setCell ⟨g, m, none⟩ (.pointer none)).setCell ⟨w1.heap.size + 1, 0, none⟩ (.slice (some ⟨g, 0, none⟩) m cap)).drewN q)) := by
    intro q
    have h3 : Below w.heap.size w w3 := (hb0.trans (hb2.mono hb0.size)).trans (hb3.mono (Nat.le_trans hb0.size hb2.size))
    exact below_drewN ((h3.setCell (by have := hb0.size; show w.heap.size ≤ g; omega) _).setCell (by have := hb0.size; show w.heap.size ≤ w1.heap.size + 1; omega) _) q
  have HP : Hid (Calls Try.prog 23 #[.pointer (some ⟨w1.heap.size + 1, 0, none⟩)] w3 fun e w' => e = .returned (.pointer (some ⟨bs[m]?.getD 0, 0, none⟩)) ∧ ∃ q, w' = ((w3.setCell ⟨g, m, none⟩ (.pointer none)).setCell ⟨w1.heap.size + 1, 0, none⟩ (.slice (some ⟨g, 0, none⟩) m cap)).drewN q) := by
    have a1 := HH2.out; have a2 := HO2.out
    have hlt := lt_of_block a1
    have a1' := (hb3.block _ hlt).trans a1
    have a2' : w3.ownsRow w1.heap.size 48 1 (.slice (some ⟨g, 0, none⟩) n cap) n (bs.map ptr) := a2.kept (row := none) ⟨hb3.os, hb3.tape, hb3.output, hb3.size, fun k hk _ => hb3.block k hk⟩ (by simp [Value.ownBlock])
    have hcap := (own_row a2').choose_spec.2.2.2.1
    rw [HM.out] at a1' a2' hcap
    exact popS_any (w1.heap.size + 1) g m cap (bs[m]?.getD 0) w3 (by omega) (HK.out 0).1 (cell_of_one a1') (free_of_one a1') hcap (own_ptrs a2' m (by omega)) (a2'.frozenAt m)
  clear hz3 hg0 hgb hb0 hb2 hb3 HO HO2 HO3 HH2 HS2 HL HZ
  refine HP.out.mono ?_
  rintro e w4 ⟨rfl, hq⟩
  obtain ⟨q, hq⟩ := hq
  have HK4 : Hid (Known w4 (w1.heap.size + 1) g m cap w2.heap.size g0 zs bs) := by rw [hq]; exact (HK.out q).2
  have HB4 : Hid (Below w.heap.size w w4) := by rw [hq]; exact HB.out q
  clear hq HK HB HP
  have c1 := HK4.out.bef m (by omega)
  have c2 := HK4.out.strs m (by omega)
  have c3 := HK4.out.sizes m (by omega)
  have c4 := HK4.out.heap
  have hi : (m : Int) < (n : Int) := by omega
  have hneq := neq_same
  generalize bs[m]?.getD 0 = bm at *
  generalize zs[m]?.getD 0 = zm at *
  go_wp2_with fail
  go_quiet ((go_at_call 24; exact Calls.quiet_of_same (size_any _ zm _ (by assumption))))
  go_wp2_with fail
  refine (len_any (w1.heap.size + 1) _ m cap _ (show (w4.drewN nq).cell? _ = _ from c4)).mono ?_
  rintro e w5 ⟨rfl, hw5⟩
  obtain rfl := hw5.symm
  clear c1 c2 c3 c4
  go_wp2
  go_loopw [7] (fun i wr => ∃ k : Nat, k ≤ m ∧ i = .int .i64 k ∧ Hid (∃ q, wr = w4.drewN q)) (fun i _ => m - (intOf i).toNat)
  case atStart => exact ⟨0, Nat.zero_le _, rfl, nq, rfl⟩
  case round =>
    obtain ⟨k, hk, rfl, hq⟩ := hrel
    by_cases hlt : k < m
    · have hc : ∀ a, wr.cell? a = w4.cell? a := by obtain ⟨q, rfl⟩ := hq.out; intro a; rfl
      have d1 := (hc _).trans (HK4.out.bef k (by omega))
      have d2 := (hc _).trans (HK4.out.strs k (by omega))
      have d3 := (hc _).trans (HK4.out.sizes k (by omega))
      have d4 := (hc _).trans HK4.out.heap
      have d5 := (hc _).trans (HK4.out.row k hlt)
      clear hc
      have hik : (k : Int) < (n : Int) := by omega
      have hik' : k < n := by omega
      generalize bs[k]?.getD 0 = bk at *
      generalize zs[k]?.getD 0 = zk at *
      go_wp2_with (go_at_call 26; refine (at_any (w1.heap.size + 1) g m cap k bk _ hlt d4 d5).mono ?_; rintro e w' ⟨rfl, hw'⟩; obtain rfl := hw'.symm)
      go_quiet ((go_at_call 24; exact Calls.quiet_of_same (size_any _ zk _ (by assumption))))
      go_wp2
      go_roundw
      case rel => first | exact ⟨k + 1, by omega, by go_num, drewN_more hq.out _⟩ | ((repeat apply Exists.intro); exact ⟨⟨k + 1, by omega, by go_num, drewN_more hq.out _⟩, rfl⟩)
      case measure => simp [intOf]; omega
    · go_wp2
      go_ret
      obtain ⟨q, rfl⟩ := hq.out
      exact ⟨rfl, below_drewN HB4.out q⟩
end Go.Proofs.Qxb6604442a.Pop
