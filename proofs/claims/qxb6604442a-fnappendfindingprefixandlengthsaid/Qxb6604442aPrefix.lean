/-
  THE WALK OF THE LAW 'what appendFinding adds does not depend on what b held; its length'.
-/
import Derived.Test.Qxb6604442aClone
import Derived.Test.Qxb6604442aFinding
import Derived.Test.Qxb6604442aSizes
import Derived.Deep.QuietTactic
import Derived.BigQuiet
import Derived.WalkSmall
namespace Go.Proofs.Qxb6604442a.Bytes
open Go.RowKit
theorem owns_shape {w : World} {B : Nat} {e : TypeId} {v : Value} {n : Nat} {xs : List Value} (h : w.ownsRow B e 1 v n xs) : ∃ ao cap, v = .slice ao n cap ∧ (0 < n → ∃ g, ao = some ⟨g, 0, none⟩) := by
  rcases h.2 with ⟨rfl, rfl⟩ | ⟨g, cap, cur, rfl, _, _⟩
  · exact ⟨none, 0, rfl, fun h => by omega⟩
  · exact ⟨_, _, rfl, fun _ => ⟨g, rfl⟩⟩
theorem uvw_le (x : Int) : (Lib.uvarint (IntKind.u64.wrap x).toNat).length ≤ 10 := Lib.uvarint_length64 (u64_lt x)
theorem encF_len (p r m : ByteArray) (x y z : Int) : (encF p r m x y z).length = (Lib.uvarint p.size).length + p.size + (Lib.uvarint r.size).length + r.size + (Lib.uvarint m.size).length + m.size
    + (Lib.uvarint (IntKind.u64.wrap x).toNat).length + (Lib.uvarint (IntKind.u64.wrap y).toNat).length + (Lib.uvarint (IntKind.u64.wrap z).toNat).length := by
  simp only [encF, texts, nums, List.length_append, piece_len, u64]; omega

/-- What the call owns stays owned where nothing old has turned. -/
theorem owns_below {w w' : World} {B : Nat} {e : TypeId} {v : Value} {n : Nat} {xs : List Value} (h : w.ownsRow B e 1 v n xs) (hb : Below w.heap.size w w') : w'.ownsRow B e 1 v n xs := by
  refine ⟨h.1, ?_⟩
  rcases h.2 with hn | ⟨g, cap, cur, rfl, h1, hg, rest⟩
  · exact .inl hn
  · exact .inr ⟨g, cap, cur, rfl, h1, (hb.block g (Array.getElem?_eq_some_iff.1 hg).1).trans hg, rest⟩
theorem drewN_more {w wr : World} (h : ∃ q, wr = w.drewN q) (m : Nat) : ∃ q, wr.drewN m = w.drewN q := by
  obtain ⟨q, rfl⟩ := h
  exact ⟨q + m, World.drewN_drewN ..⟩
/-- The bytes of an owned row. -/
theorem own_ints {w : World} {B g n cap : Nat} {zs : List Int} (h : w.ownsRow B 5 1 (.slice (some ⟨g, 0, none⟩) n cap) n (zs.map (Value.int .u8))) (j : Nat) (hj : j < n) : w.cell? ⟨g, j, none⟩ = some (.int .u8 (zs[j]?.getD 0)) := by
  have hl : zs.length = n := by simpa using h.1
  rw [h.cellAt j (by omega)]
  simp [List.getElem?_eq_getElem (show j < zs.length by omega)]
/-- A byte of E, as a number. -/
def byteAt (E : List UInt8) (j : Nat) : Int := ((E[j]?.getD 0).toNat : Int)
theorem own_left {w : World} {B g n cap : Nat} {zs : List Int} {E : List UInt8} (hz : zs.length = n) (h : w.ownsRow B 5 1 (.slice (some ⟨g, 0, none⟩) (n + E.length) cap) (n + E.length) (zs.map (Value.int .u8) ++ Lib.byteCells E)) (j : Nat) (hj : j < n) : w.cell? ⟨g, j, none⟩ = some (.int .u8 (zs[j]?.getD 0)) := by
  rw [h.cellAt j (by omega), List.getElem?_append_left (by simp; omega)]
  simp [List.getElem?_eq_getElem (show j < zs.length by omega)]
theorem own_right {w : World} {B g n cap : Nat} {zs : List Int} {E : List UInt8} (hz : zs.length = n) (h : w.ownsRow B 5 1 (.slice (some ⟨g, 0, none⟩) (n + E.length) cap) (n + E.length) (zs.map (Value.int .u8) ++ Lib.byteCells E)) (j : Nat) (hj : j < E.length) : w.cell? ⟨g, n + j, none⟩ = some (.int .u8 (byteAt E j)) := by
  rw [h.cellAt (n + j) (by omega), List.getElem?_append_right (by simp; omega)]
  simp [Lib.byteCells, hz, byteAt, List.getElem?_eq_getElem hj]
theorem own_bytes {w : World} {B g cap : Nat} {E : List UInt8} (h : w.ownsRow B 5 1 (.slice (some ⟨g, 0, none⟩) (0 + E.length) cap) (0 + E.length) ([] ++ Lib.byteCells E)) (j : Nat) (hj : j < E.length) : w.cell? ⟨g, j, none⟩ = some (.int .u8 (byteAt E j)) := by
  rw [h.cellAt j (by omega)]
  simp [Lib.byteCells, byteAt, List.getElem?_eq_getElem hj]

set_option maxHeartbeats 4000000 in
set_option maxRecDepth 100000 in
theorem law7 (ao : Option Addr) (n c : Nat) (zs : List Int) (p r m : ByteArray) (x y z : Int) (w : World) (hz : zs.length = n) (hs : n + p.size + r.size + m.size ≤ 1048576) (hnil : ao = none → n = 0 ∧ c = 0) (hcell : ∀ a, ao = some a → ∀ j, j < n → w.cell? (a.add j) = some (.int .u8 (zs.getD j 0))) :
    Calls Try.prog 7 #[.slice ao n c, .string p, .int .i64 x, .int .i64 y, .int .i64 z, .string r, .string m] w fun e w' => e = .returned (.bool true) ∧ Below w.heap.size w w' := by
  have hok : okB n p.size r.size m.size = true := decide_eq_true hs
  have hn : n ≤ 1048576 := by omega
  have hp : p.size ≤ 1048576 := by omega
  have hr : r.size ≤ 1048576 := by omega
  have hm : m.size ≤ 1048576 := by omega
  have HZ : Hid (zs.length = n) := hz
  have HN : Hid (ao = none → n = 0 ∧ c = 0) := hnil
  have HC : Hid (∀ a, ao = some a → ∀ j, j < n → w.cell? (a.add j) = some (.int .u8 (zs.getD j 0))) := hcell
  clear hz hnil hcell
  go_enter Try.func7, Try.ntmps7
  go_wp2_with (go_at_call 32; refine (sizes7 _ _ _ _ _ _ _ _ _ _ (by unfold maxLen; omega) (by unfold maxLen; omega) (by unfold maxLen; omega) (by unfold maxLen; omega)).mono ?_; rintro e w' ⟨rfl, hw⟩; obtain rfl := hw.symm)
  refine (clone_any ao n c zs _ HZ.out (by omega) HN.out HC.out).mono ?_
  rintro e w1 ⟨v0, rfl, ho0, hb0⟩
  clear HN HC
  obtain ⟨a0, cap0, hv0, hg0⟩ := owns_shape ho0
  rw [hv0]
  rw [hv0] at ho0
  clear hv0
  have HO : Hid (w1.ownsRow w.heap.size 5 1 (.slice a0 n cap0) n (zs.map (Value.int .u8))) := ho0
  have HG0 : Hid (0 < n → ∃ g, a0 = some ⟨g, 0, none⟩) := hg0
  clear ho0 hg0
  go_wp2_with fail
  refine (zz_any w1.heap.size 0 (.slice none 0 0) [] p r m x y z _ (World.ownsRow_nil _ _ _ _) (Nat.le_refl _) (by omega) (by omega) (by omega) (by omega)).mono ?_
  rintro e w2 ⟨v1, rfl, ho1, hb1⟩
  have hL := encF_len p r m x y z
  generalize hE : encF p r m x y z = E at hL ho1
  have HE : Hid (encF p r m x y z = E) := hE
  have hL1 : (E.length : Int) ≤ (Lib.uvarint p.size).length + p.size + (Lib.uvarint r.size).length + r.size + (Lib.uvarint m.size).length + m.size + (Lib.uvarint (IntKind.u64.wrap x).toNat).length + (Lib.uvarint (IntKind.u64.wrap y).toNat).length + (Lib.uvarint (IntKind.u64.wrap z).toNat).length := by omega
  have hL2 : (Lib.uvarint p.size).length + p.size + (Lib.uvarint r.size).length + r.size + (Lib.uvarint m.size).length + m.size + (Lib.uvarint (IntKind.u64.wrap x).toNat).length + (Lib.uvarint (IntKind.u64.wrap y).toNat).length + (Lib.uvarint (IntKind.u64.wrap z).toNat).length ≤ (E.length : Int) := by omega
  clear hE hL
  obtain ⟨a1, cap1, hv1, hg1⟩ := owns_shape ho1
  rw [hv1]
  rw [hv1] at ho1
  clear hv1
  have HO1 : Hid (w2.ownsRow w1.heap.size 5 1 (.slice a1 (0 + E.length) cap1) (0 + E.length) ([] ++ Lib.byteCells E)) := ho1
  clear ho1
  have HG1 : Hid (0 < 0 + E.length → ∃ g, a1 = some ⟨g, 0, none⟩) := hg1
  clear hg1
  go_wp2_with fail
  refine (clone_own w.heap.size n (.slice a0 n cap0) zs _ HZ.out (by omega) (HO.out.kept (row := none) ⟨hb1.os, hb1.tape, hb1.output, hb1.size, fun k hk _ => hb1.block k hk⟩ (by simp [Value.ownBlock]; cases a0 <;> simp))).mono ?_
  rintro e w3 ⟨v2, rfl, ho2, hb2⟩
  have HO2 : Hid (w3.ownsRow w2.heap.size 5 1 v2 n (zs.map (Value.int .u8))) := ho2
  clear ho2
  go_wp2_with fail
  refine (zz_any w2.heap.size n v2 (zs.map (Value.int .u8)) p r m x y z _ HO2.out hb2.size (by omega) (by omega) (by omega) (by omega)).mono ?_
  rintro e w4 ⟨v3, rfl, ho3, hb3⟩
  rw [HE.out] at ho3
  obtain ⟨a3, cap3, hv3, hg3⟩ := owns_shape ho3
  rw [hv3]
  rw [hv3] at ho3
  clear hv3
  have HO3 : Hid (w4.ownsRow w2.heap.size 5 1 (.slice a3 (n + E.length) cap3) (n + E.length) (zs.map (Value.int .u8) ++ Lib.byteCells E)) := ho3
  have HG3 : Hid (0 < n + E.length → ∃ g, a3 = some ⟨g, 0, none⟩) := hg3
  clear ho3 hg3
  have up := Lib.uvarint_length64 (x := p.size) (by omega)
  have ur := Lib.uvarint_length64 (x := r.size) (by omega)
  have um := Lib.uvarint_length64 (x := m.size) (by omega)
  have ux := uvw_le x
  have uy := uvw_le y
  have uz := uvw_le z
  go_wp2_with (go_at_call 33; refine (uvlen_any _ (by first | omega | exact (wrap_bd _).1) (by first | omega | exact (wrap_bd _).2) _).mono ?_; rintro e w' ⟨rfl, hw⟩; obtain rfl := hw.symm; try rw [toNat_size])
  have hpos := Lib.uvarint_pos p.size
  have hE0 : 0 < E.length := by omega
  have hE1 : E.length ≤ 4194304 := by omega
  obtain ⟨g3, hg3⟩ := HG3.out (by omega)
  obtain ⟨g1, hg1⟩ := HG1.out (by omega)
  have HB4 : Hid (Below w2.heap.size w2 w4) := hb2.trans hb3
  have HB : Hid (Below w.heap.size w w4) := hb0.trans (((hb1.trans (HB4.out.mono hb1.size))).mono hb0.size)
  have P0 : Hid (∀ g, a0 = some ⟨g, 0, none⟩ → ∀ j, j < n → w4.cell? ⟨g, j, none⟩ = some (.int .u8 (zs[j]?.getD 0))) := by
    intro g hg j hj
    have h := owns_below (owns_below HO.out hb1) HB4.out
    rw [hg] at h
    exact own_ints h j hj
  have P1 : Hid (∀ j, j < E.length → w4.cell? ⟨g1, j, none⟩ = some (.int .u8 (byteAt E j))) := by
    intro j hj
    have h := owns_below HO1.out HB4.out
    rw [hg1] at h
    exact own_bytes h j hj
  have P3 : Hid (∀ j, j < n → w4.cell? ⟨g3, j, none⟩ = some (.int .u8 (zs[j]?.getD 0))) := by
    intro j hj
    have h := HO3.out
    rw [hg3] at h
    exact own_left HZ.out h j hj
  have P3' : Hid (∀ j, j < E.length → w4.cell? ⟨g3, n + j, none⟩ = some (.int .u8 (byteAt E j))) := by
    intro j hj
    have h := HO3.out
    rw [hg3] at h
    exact own_right HZ.out h j hj
  clear HO HO1 HO2 HO3 HG1 HG3 HB4 hb0 hb1 hb2 hb3 hL1 hL2 up ur um ux uy uz hpos HE
  rw [hg1, hg3]
  clear hg1 hg3
  go_loopw [19] (fun i wr => ∃ k : Nat, k ≤ n ∧ i = .int .i64 k ∧ Hid (∃ q, wr = w4.drewN q)) (fun i _ => n - (intOf i).toNat)
  case atStart => exact ⟨0, Nat.zero_le _, rfl, 0, rfl⟩
  case round =>
    obtain ⟨k, hk, rfl, hq⟩ := hrel
    by_cases hlt : k < n
    · obtain ⟨g0, hg0⟩ := HG0.out (by omega)
      have hc : ∀ a, wr.cell? a = w4.cell? a := by obtain ⟨q, rfl⟩ := hq.out; intro a; rfl
      have c0 : wr.cell? ⟨g0, k, none⟩ = some (.int .u8 (zs[k]?.getD 0)) := (hc _).trans (P0.out g0 hg0 k hlt)
      have c3 : wr.cell? ⟨g3, k, none⟩ = some (.int .u8 (zs[k]?.getD 0)) := (hc _).trans (P3.out k hlt)
      clear hc
      rw [hg0]
      have hi0 : (k : Int) < (n : Int) := by omega
      have hi3 : (k : Int) < (n : Int) + (E.length : Int) := by omega
      have hi3' : k < n + E.length := by omega
      go_wp2
      go_quiet (fail)
      go_wp2
      go_roundw
      case rel => exact ⟨k + 1, by omega, by go_num, drewN_more hq.out _⟩
      case measure => simp [intOf]; omega
    · obtain rfl : k = n := by omega
      go_wp2
      obtain ⟨wo, rfl⟩ : ∃ wo : World, wo = wr := ⟨_, rfl⟩
      clear P0 P3 HG0
      go_loopw [20] (fun i wr => ∃ j : Nat, j ≤ E.length ∧ i = .int .i64 j ∧ Hid (∃ q, wr = w4.drewN q)) (fun i _ => E.length - (intOf i).toNat)
      case atStart => exact ⟨0, Nat.zero_le _, rfl, hq.out⟩
      case round =>
        obtain ⟨j, hj, rfl, hq2⟩ := hrel
        clear hq
        by_cases hlt2 : j < E.length
        · have hc : ∀ a, wr.cell? a = w4.cell? a := by obtain ⟨q, rfl⟩ := hq2.out; intro a; rfl
          have c1 : wr.cell? ⟨g1, j, none⟩ = some (.int .u8 (byteAt E j)) := (hc _).trans (P1.out j hlt2)
          have c3 : wr.cell? ⟨g3, k + j, none⟩ = some (.int .u8 (byteAt E j)) := (hc _).trans (P3'.out j hlt2)
          clear hc P1 P3'
          have hi1 : (j : Int) < (E.length : Int) := by omega
          have hi3 : (k : Int) + (j : Int) < (k : Int) + (E.length : Int) := by omega
          have hi3' : k + j < k + E.length := by omega
          have ht : ((k : Int) + (j : Int)).toNat = k + j := by omega
          go_wp2
          go_quiet (fail)
          go_wp2
          go_roundw
          case rel => first | exact ⟨j + 1, by omega, by go_num, drewN_more hq2.out _⟩ | ((repeat apply Exists.intro); exact ⟨⟨j + 1, by omega, by go_num, drewN_more hq2.out _⟩, rfl⟩)
          case measure => simp [intOf]; omega
        · go_wp2
          go_ret
          obtain ⟨q, rfl⟩ := hq2.out
          exact ⟨rfl, below_drewN HB.out q⟩
end Go.Proofs.Qxb6604442a.Bytes
