/-
  THE WALK OF THE LAW 'appendFinding's form decodes canonically'.
-/
import Derived.Test.Qxb6604442aClone
import Derived.Test.Qxb6604442aReads
import Derived.Test.Qxb6604442aSizes
namespace Go.Proofs.Qxb6604442a.Bytes
open Go.RowKit
theorem owns_shape {w : World} {B : Nat} {e : TypeId} {v : Value} {n : Nat} {xs : List Value} (h : w.ownsRow B e 1 v n xs) : ∃ ao cap, v = .slice ao n cap ∧ (0 < n → ∃ g, ao = some ⟨g, 0, none⟩) := by
  rcases h.2 with ⟨rfl, rfl⟩ | ⟨g, cap, cur, rfl, _, _⟩
  · exact ⟨none, 0, rfl, fun h => by omega⟩
  · exact ⟨_, _, rfl, fun _ => ⟨g, rfl⟩⟩
/-- What the call owns stays owned where nothing old has turned. -/
theorem owns_below {w w' : World} {B : Nat} {e : TypeId} {v : Value} {n : Nat} {xs : List Value} (h : w.ownsRow B e 1 v n xs) (hb : Below w.heap.size w w') : w'.ownsRow B e 1 v n xs := by
  refine ⟨h.1, ?_⟩
  rcases h.2 with hn | ⟨g, cap, cur, rfl, h1, hg, rest⟩
  · exact .inl hn
  · exact .inr ⟨g, cap, cur, rfl, h1, (hb.block g (Array.getElem?_eq_some_iff.1 hg).1).trans hg, rest⟩
/-- The bytes of an owned row. -/
theorem own_ints {w : World} {B g n cap : Nat} {zs : List Int} (h : w.ownsRow B 5 1 (.slice (some ⟨g, 0, none⟩) n cap) n (zs.map (Value.int .u8))) (j : Nat) (hj : j < n) : w.cell? ⟨g, j, none⟩ = some (.int .u8 (zs[j]?.getD 0)) := by
  have hl : zs.length = n := by simpa using h.1
  rw [h.cellAt j (by omega)]
  simp [List.getElem?_eq_getElem (show j < zs.length by omega)]
theorem own_left {w : World} {B g n cap : Nat} {zs : List Int} {E : List UInt8} (hz : zs.length = n) (h : w.ownsRow B 5 1 (.slice (some ⟨g, 0, none⟩) (n + E.length) cap) (n + E.length) (zs.map (Value.int .u8) ++ Lib.byteCells E)) (j : Nat) (hj : j < n) : w.cell? ⟨g, j, none⟩ = some (.int .u8 (zs[j]?.getD 0)) := by
  rw [h.cellAt j (by omega), List.getElem?_append_left (by simp; omega)]
  simp [List.getElem?_eq_getElem (show j < zs.length by omega)]
theorem own_right {w : World} {B g n cap : Nat} {zs : List Int} {E : List UInt8} (hz : zs.length = n) (h : w.ownsRow B 5 1 (.slice (some ⟨g, 0, none⟩) (n + E.length) cap) (n + E.length) (zs.map (Value.int .u8) ++ Lib.byteCells E)) : Lies w g n E := by
  intro j hj
  rw [h.cellAt (n + j) (by omega), List.getElem?_append_right (by simp; omega)]
  simp [Lib.byteCells, hz, byteAt, List.getElem?_eq_getElem hj]
/-- The form, cut into its six pieces. -/
theorem encF_cut (p r m : ByteArray) (x y z : Int) : encF p r m x y z = piece p ++ (piece r ++ (piece m ++ (Lib.uvarint (IntKind.u64.wrap x).toNat ++ (Lib.uvarint (IntKind.u64.wrap y).toNat ++ Lib.uvarint (IntKind.u64.wrap z).toNat)))) := by
  simp [encF, texts, nums, u64]
theorem ret_bool {b : Bool} (h : b = true) : Ending.returned (.bool b) = .returned (.bool true) := by rw [h]
theorem uvw_le (x : Int) : (Lib.uvarint (IntKind.u64.wrap x).toNat).length ≤ 10 := Lib.uvarint_length64 (u64_lt x)
theorem piece_le (s : ByteArray) (h : s.size ≤ 1048576) : (piece s).length ≤ 1048586 := by
  have := Lib.uvarint_length64 (x := s.size) (by omega)
  rw [piece_len]; omega

set_option maxHeartbeats 4000000 in
set_option maxRecDepth 100000 in
theorem law6 (ao : Option Addr) (n c : Nat) (zs : List Int) (p r m : ByteArray) (x y z : Int) (w : World) (hz : zs.length = n) (hs : n + p.size + r.size + m.size ≤ 1048576) (hnil : ao = none → n = 0 ∧ c = 0) (hcell : ∀ a, ao = some a → ∀ j, j < n → w.cell? (a.add j) = some (.int .u8 (zs.getD j 0))) :
    Calls Try.prog 6 #[.slice ao n c, .string p, .int .i64 x, .int .i64 y, .int .i64 z, .string r, .string m] w fun e w' => e = .returned (.bool true) ∧ Below w.heap.size w w' := by
  have hok : okB n p.size r.size m.size = true := decide_eq_true hs
  have hn : n ≤ 1048576 := by omega
  have hp : p.size ≤ 1048576 := by omega
  have hr : r.size ≤ 1048576 := by omega
  have hm : m.size ≤ 1048576 := by omega
  have HZ : Hid (zs.length = n) := hz
  have HN : Hid (ao = none → n = 0 ∧ c = 0) := hnil
  have HC : Hid (∀ a, ao = some a → ∀ j, j < n → w.cell? (a.add j) = some (.int .u8 (zs.getD j 0))) := hcell
  clear hz hnil hcell
  go_enter Try.func6, Try.ntmps6
  go_wp2_with (go_at_call 27; refine (sizes6 _ _ _ _ _ _ _ _ _ _ (by unfold maxLen; omega) (by unfold maxLen; omega) (by unfold maxLen; omega) (by unfold maxLen; omega)).mono ?_; rintro e w' ⟨rfl, hw⟩; obtain rfl := hw.symm)
  refine (clone_any ao n c zs _ HZ.out (by omega) HN.out HC.out).mono ?_
  rintro e w1 ⟨v0, rfl, ho0, hb0⟩
  clear HN HC
  obtain ⟨a0, cap0, hv0, hg0⟩ := owns_shape ho0
  rw [hv0]
  rw [hv0] at ho0
  clear hv0
  have HO : Hid (w1.ownsRow w.heap.size 5 1 (.slice a0 n cap0) n (zs.map (Value.int .u8))) := ho0
  have HG0 : Hid (0 < n → ∃ g, a0 = some ⟨g, 0, none⟩) := hg0
  clear ho0 hg0
  go_wp2_with fail
  refine (clone_own w.heap.size n (.slice a0 n cap0) zs _ HZ.out (by omega) HO.out).mono ?_
  rintro e w2 ⟨v1, rfl, ho1, hb1⟩
  have HO1 : Hid (w2.ownsRow w1.heap.size 5 1 v1 n (zs.map (Value.int .u8))) := ho1
  clear ho1
  go_wp2_with fail
  refine (zz_any w1.heap.size n v1 (zs.map (Value.int .u8)) p r m x y z _ HO1.out hb1.size (by omega) (by omega) (by omega) (by omega)).mono ?_
  rintro e w3 ⟨v2, rfl, ho2, hb2⟩
  have HE := encF_cut p r m x y z
  generalize encF p r m x y z = E at HE ho2
  have HE : Hid (E = _) := HE
  rename_i HE0
  clear HE0
  obtain ⟨a2, cap2, hv2, hg2⟩ := owns_shape ho2
  have hpp : 1 ≤ (piece p).length := by have := Lib.uvarint_pos p.size; rw [piece_len]; omega
  have pp := piece_le p hp
  have pr := piece_le r hr
  have pm := piece_le m hm
  have ux := uvw_le x
  have uy := uvw_le y
  have uz := uvw_le z
  have hEl : E.length = (piece p).length + ((piece r).length + ((piece m).length + ((Lib.uvarint (IntKind.u64.wrap x).toNat).length + ((Lib.uvarint (IntKind.u64.wrap y).toNat).length + (Lib.uvarint (IntKind.u64.wrap z).toNat).length)))) := by rw [HE.out]; simp only [List.length_append]
  obtain ⟨g2, hg2⟩ := hg2 (by omega)
  rw [hv2, hg2]
  rw [hv2, hg2] at ho2
  have HB2 : Hid (Below w1.heap.size w1 w3) := hb1.trans hb2
  have HB : Hid (Below w.heap.size w w3) := hb0.trans (HB2.out.mono hb0.size)
  have P0 : Hid (∀ g, a0 = some ⟨g, 0, none⟩ → ∀ j, j < n → w3.cell? ⟨g, j, none⟩ = some (.int .u8 (zs[j]?.getD 0))) := by
    intro g hg j hj
    have h := owns_below HO.out HB2.out
    rw [hg] at h
    exact own_ints h j hj
  have P2 : Hid (∀ j, j < n → w3.cell? ⟨g2, j, none⟩ = some (.int .u8 (zs[j]?.getD 0))) := fun j hj => own_left HZ.out ho2 j hj
  have PE : Hid (Lies w3 g2 n E) := own_right HZ.out ho2
  have HEl : Hid (E.length = _) := hEl
  have hE2 : E.length ≤ 4194304 := by omega
  clear ho2 HO HO1 HB2 hb0 hb1 hb2 hv2 hg2 hEl hpp
  go_wp2
  go_loopw [18] (fun i wr => ∃ k : Nat, k ≤ n ∧ i = .int .i64 k ∧ Hid (∃ q, wr = w3.drewN q)) (fun i _ => n - (intOf i).toNat)
  case atStart => exact ⟨0, Nat.zero_le _, rfl, 0, rfl⟩
  case round =>
    obtain ⟨k, hk, rfl, hq⟩ := hrel
    by_cases hlt : k < n
    · obtain ⟨g0, hg0⟩ := HG0.out (by omega)
      have hc : ∀ a, wr.cell? a = w3.cell? a := by obtain ⟨q, rfl⟩ := hq.out; intro a; rfl
      have c0 : wr.cell? ⟨g0, k, none⟩ = some (.int .u8 (zs[k]?.getD 0)) := (hc _).trans (P0.out g0 hg0 k hlt)
      have c3 : wr.cell? ⟨g2, k, none⟩ = some (.int .u8 (zs[k]?.getD 0)) := (hc _).trans (P2.out k hlt)
      clear hc
      rw [hg0]
      have hi0 : (k : Int) < (n : Int) := by omega
      have hi3 : (k : Int) < (n : Int) + (E.length : Int) := by omega
      have hi3' : k < n + E.length := by omega
      go_wp2
      go_quiet (fail)
      go_wp2
      go_roundw
      case rel => exact ⟨k + 1, by omega, by go_num, drewN_more hq.out _⟩
      case measure => simp [intOf]; omega
    · obtain rfl : k = n := by omega
      clear P0 P2 HG0
      have L0 := PE.out
      rw [HE.out] at L0
      have K0 : Hid (Lies w3 g2 k (piece p)) := L0.left
      have L1 := L0.right
      have K1 : Hid (Lies w3 g2 (k + (piece p).length) (piece r)) := L1.left
      have L2 := L1.right
      have K2 : Hid (Lies w3 g2 (k + (piece p).length + (piece r).length) (piece m)) := L2.left
      have L3 := L2.right
      have K3 : Hid (Lies w3 g2 (k + (piece p).length + (piece r).length + (piece m).length) (Lib.uvarint (IntKind.u64.wrap x).toNat)) := L3.left
      have L4 := L3.right
      have K4 : Hid (Lies w3 g2 (k + (piece p).length + (piece r).length + (piece m).length + (Lib.uvarint (IntKind.u64.wrap x).toNat).length) (Lib.uvarint (IntKind.u64.wrap y).toNat)) := L4.left
      have K5 : Hid (Lies w3 g2 (k + (piece p).length + (piece r).length + (piece m).length + (Lib.uvarint (IntKind.u64.wrap x).toNat).length + (Lib.uvarint (IntKind.u64.wrap y).toNat).length) (Lib.uvarint (IntKind.u64.wrap z).toNat)) := L4.right
      clear L0 L1 L2 L3 L4 PE HE
      have hE1 := HEl.out
      have hEa : (piece p).length + ((piece r).length + ((piece m).length + ((Lib.uvarint (IntKind.u64.wrap x).toNat).length + ((Lib.uvarint (IntKind.u64.wrap y).toNat).length + (Lib.uvarint (IntKind.u64.wrap z).toNat).length)))) ≤ E.length := by omega
      have hEb : E.length ≤ (piece p).length + ((piece r).length + ((piece m).length + ((Lib.uvarint (IntKind.u64.wrap x).toNat).length + ((Lib.uvarint (IntKind.u64.wrap y).toNat).length + (Lib.uvarint (IntKind.u64.wrap z).toNat).length)))) := by omega
      clear hE1 HEl hlt HZ
      obtain ⟨q, rfl⟩ := hq.out
      clear hq
      go_wp2_with fail
      refine (str_any g2 _ cap2 k _ p rfl hp _ (by omega) (by omega) (K0.out.draws _)).mono ?_
      rintro e w4 ⟨rfl, q1, rfl⟩
      go_wp2_with fail
      refine (str_any g2 _ cap2 (k + (piece p).length) _ r (by omega) hr _ (by omega) (by omega) (K1.out.draws _)).mono ?_
      rintro e w5 ⟨rfl, q2, rfl⟩
      go_wp2_with fail
      refine (str_any g2 _ cap2 (k + (piece p).length + (piece r).length) _ m (by omega) hm _ (by omega) (by omega) (K2.out.draws _)).mono ?_
      rintro e w6 ⟨rfl, q3, rfl⟩
      go_wp2_with fail
      refine (num_any g2 _ cap2 (k + (piece p).length + (piece r).length + (piece m).length) _ _ (by omega) (wrap_bd x).1 (wrap_bd x).2 _ (by omega) (by omega) (K3.out.draws _)).mono ?_
      rintro e w7 ⟨rfl, hw⟩
      obtain rfl := hw.symm
      go_wp2_with fail
      refine (num_any g2 _ cap2 (k + (piece p).length + (piece r).length + (piece m).length + (Lib.uvarint (IntKind.u64.wrap x).toNat).length) _ _ (by omega) (wrap_bd y).1 (wrap_bd y).2 _ (by omega) (by omega) (K4.out.draws _)).mono ?_
      rintro e w8 ⟨rfl, hw⟩
      obtain rfl := hw.symm
      go_wp2_with fail
      refine (num_any g2 _ cap2 (k + (piece p).length + (piece r).length + (piece m).length + (Lib.uvarint (IntKind.u64.wrap x).toNat).length + (Lib.uvarint (IntKind.u64.wrap y).toNat).length) _ _ (by omega) (wrap_bd z).1 (wrap_bd z).2 _ (by omega) (by omega) (K5.out.draws _)).mono ?_
      rintro e w9 ⟨rfl, hw⟩
      obtain rfl := hw.symm
      go_wp2
      go_ret
      exact ⟨ret_bool (beq_iff_eq.2 (by omega)), below_drewN HB.out _⟩
end Go.Proofs.Qxb6604442a.Bytes
