/-
  SHARED: zzB1Uvarint reads back what Lib.uvarint lays. (The cases of the ten rounds are written out by program, after the kit's Derived/Shelf/Bin/Uvarint.lean.)
-/
import Derived.Test.Qxb6604442aFinding
import Derived.Lib.VarintBits
namespace Go.Proofs.Qxb6604442a.Bytes
open Go.RowKit
/-- A byte of E, as a number. -/
def byteAt (E : List UInt8) (j : Nat) : Int := ((E[j]?.getD 0).toNat : Int)
theorem byteAt_small {y : Nat} (h : y < 128) : byteAt (Lib.uvarint y) 0 = y := by
  rw [Lib.uvarint_small h]; simp [byteAt]; omega
theorem byteAt_big {y : Nat} (h : 128 ≤ y) : byteAt (Lib.uvarint y) 0 = ((y % 128 + 128 : Nat) : Int) := by
  rw [Lib.uvarint_big h]; simp [byteAt]; omega
theorem byteAt_next {y : Nat} (h : 128 ≤ y) (j : Nat) : byteAt (Lib.uvarint y) (j + 1) = byteAt (Lib.uvarint (y / 128)) j := by
  rw [Lib.uvarint_big h]; simp [byteAt]
theorem len_next {y : Nat} (h : 128 ≤ y) : (Lib.uvarint y).length = (Lib.uvarint (y / 128)).length + 1 := by
  rw [Lib.uvarint_big h]; simp
theorem ret3 {a a' b b' : Int} (h : a = a') (h2 : b = b') : Ending.returned (.tuple #[.int .u64 a, .int .i64 b, .bool true]) = .returned (.tuple #[.int .u64 a', .int .i64 b', .bool true]) := by rw [h, h2]

set_option maxHeartbeats 8000000 in
set_option maxRecDepth 100000 in
/-- zzB1Uvarint at the place i of a row in which x's varint lies there. -/
theorem dec_nat (g N cap i0 x : Nat) (hx : x < 18446744073709551616) (w : World) (hN : N ≤ 1099511627776) (hi : i0 + (Lib.uvarint x).length ≤ N) (hc : ∀ j, j < (Lib.uvarint x).length → w.cell? ⟨g, i0 + j, none⟩ = some (.int .u8 (byteAt (Lib.uvarint x) j))) :
    Calls Try.prog 37 #[.slice (some ⟨g, 0, none⟩) N cap, .int .i64 i0] w fun e w' => e = .returned (.tuple #[.int .u64 x, .int .i64 ((i0 + (Lib.uvarint x).length : Nat) : Int), .bool true]) ∧ w' = w := by
  have HX : Hid (∃ L, L = (Lib.uvarint x).length) := ⟨_, rfl⟩
  generalize hL : (Lib.uvarint x).length = L at hi
  have HL : Hid ((Lib.uvarint x).length = L) := hL
  have HLX : Hid ((Lib.uvarint x).length = L) := hL
  have HC : Hid (∀ j, j < (Lib.uvarint x).length → w.cell? ⟨g, i0 + j, none⟩ = some (.int .u8 (byteAt (Lib.uvarint x) j))) := hc
  clear hL hc HX
  go_enter Try.func37, Try.ntmps37
  go_wp2
  go_loop [1, 7, 8, 9] (fun vi vv vs vk => ∃ k acc y : Nat, vi = .int .i64 (i0 + k : Nat) ∧ vv = .int .u64 acc ∧ vs = .int .u64 (7 * k : Nat) ∧ vk = .int .i64 k ∧ k ≤ 9 ∧ acc < 2 ^ (7 * k) ∧ Hid (x = acc + y * 2 ^ (7 * k)) ∧ (0 < k → 1 ≤ y) ∧ Hid (L = k + (Lib.uvarint y).length) ∧ Hid (∀ j, j < (Lib.uvarint y).length → w.cell? ⟨g, i0 + k + j, none⟩ = some (.int .u8 (byteAt (Lib.uvarint y) j)))) (fun _ _ _ vk => 10 - (intOf vk).toNat)
  case atStart => exact ⟨0, 0, x, rfl, rfl, rfl, rfl, by omega, by simp, (by simp : x = 0 + x * 2 ^ (7 * 0)), fun h => by omega, (by rw [HL.out]; omega : L = 0 + (Lib.uvarint x).length), HC.out⟩
  case round =>
    obtain ⟨k, acc, y, rfl, rfl, rfl, rfl, hk9, hacc, HXY, hy1, HLY, HCY⟩ := hrel
    clear HC HL
    have hpos := Lib.uvarint_pos y
    have c0 := HCY.out 0 (by omega)
    have hlen : i0 + k + 1 ≤ N := by have := HLY.out; omega
    have hxy := HXY.out
    clear hpos
    by_cases hb : y < 128
    · rw [byteAt_small hb, Nat.add_zero] at c0
      have hl1 : L = k + 1 := by rw [HLY.out, Lib.uvarint_small hb]; rfl
      have HL1 : Hid (L = k + 1) := hl1
      clear HLY HCY hl1
      rcases (show k = 0 ∨ k = 1 ∨ k = 2 ∨ k = 3 ∨ k = 4 ∨ k = 5 ∨ k = 6 ∨ k = 7 ∨ k = 8 ∨ k = 9 by omega) with rfl | rfl | rfl | rfl | rfl | rfl | rfl | rfl | rfl | rfl
      · simp only [Nat.add_zero] at c0
        obtain rfl : acc = 0 := by simpa using hacc
        have hor : bits .or .u64 0 (y : Int) = (y : Int) := by rw [u64_orv0 _ _ (by omega) (by omega) (by omega) (by omega) (by omega)]; omega
        have HE : Hid ((y : Int) = (x : Int)) := by have := hxy; simp at this; exact congrArg Int.ofNat this.symm
        clear hacc hxy HXY hy1
        go_wp2
        go_ret3
        exact ⟨ret3 (by first | exact HE.out | (have := HE.out; omega)) (by have := HL1.out; have := HLX.out; omega), rfl⟩
      · have hacc' : acc < 128 := by simpa using hacc
        have hxy' : x = acc + y * 128 := by simpa using hxy
        have hy : 1 ≤ y := hy1 (by omega)
        have hor : bits .or .u64 (acc : Int) ((y : Int) * 128) = ((acc + y * 128 : Nat) : Int) := by rw [u64_orv7 _ _ (by omega) (by omega) (by omega) (by omega) (by omega)]; omega
        have HE : Hid (((acc : Int) + (y : Int) * 128) = (x : Int)) := by show _ = _; omega
        clear hxy'
        clear hacc hxy HXY hy1
        have ht : ((i0 : Int) + 1).toNat = i0 + 1 := by omega
        go_wp2
        go_ret3
        exact ⟨ret3 (by first | exact HE.out | (have := HE.out; omega)) (by have := HL1.out; have := HLX.out; omega), rfl⟩
      · have hacc' : acc < 16384 := by simpa using hacc
        have hxy' : x = acc + y * 16384 := by simpa using hxy
        have hy : 1 ≤ y := hy1 (by omega)
        have hor : bits .or .u64 (acc : Int) ((y : Int) * 16384) = ((acc + y * 16384 : Nat) : Int) := by rw [u64_orv14 _ _ (by omega) (by omega) (by omega) (by omega) (by omega)]; omega
        have HE : Hid (((acc : Int) + (y : Int) * 16384) = (x : Int)) := by show _ = _; omega
        clear hxy'
        clear hacc hxy HXY hy1
        have ht : ((i0 : Int) + 2).toNat = i0 + 2 := by omega
        go_wp2
        go_ret3
        exact ⟨ret3 (by first | exact HE.out | (have := HE.out; omega)) (by have := HL1.out; have := HLX.out; omega), rfl⟩
      · have hacc' : acc < 2097152 := by simpa using hacc
        have hxy' : x = acc + y * 2097152 := by simpa using hxy
        have hy : 1 ≤ y := hy1 (by omega)
        have hor : bits .or .u64 (acc : Int) ((y : Int) * 2097152) = ((acc + y * 2097152 : Nat) : Int) := by rw [u64_orv21 _ _ (by omega) (by omega) (by omega) (by omega) (by omega)]; omega
        have HE : Hid (((acc : Int) + (y : Int) * 2097152) = (x : Int)) := by show _ = _; omega
        clear hxy'
        clear hacc hxy HXY hy1
        have ht : ((i0 : Int) + 3).toNat = i0 + 3 := by omega
        go_wp2
        go_ret3
        exact ⟨ret3 (by first | exact HE.out | (have := HE.out; omega)) (by have := HL1.out; have := HLX.out; omega), rfl⟩
      · have hacc' : acc < 268435456 := by simpa using hacc
        have hxy' : x = acc + y * 268435456 := by simpa using hxy
        have hy : 1 ≤ y := hy1 (by omega)
        have hor : bits .or .u64 (acc : Int) ((y : Int) * 268435456) = ((acc + y * 268435456 : Nat) : Int) := by rw [u64_orv28 _ _ (by omega) (by omega) (by omega) (by omega) (by omega)]; omega
        have HE : Hid (((acc : Int) + (y : Int) * 268435456) = (x : Int)) := by show _ = _; omega
        clear hxy'
        clear hacc hxy HXY hy1
        have ht : ((i0 : Int) + 4).toNat = i0 + 4 := by omega
        go_wp2
        go_ret3
        exact ⟨ret3 (by first | exact HE.out | (have := HE.out; omega)) (by have := HL1.out; have := HLX.out; omega), rfl⟩
      · have hacc' : acc < 34359738368 := by simpa using hacc
        have hxy' : x = acc + y * 34359738368 := by simpa using hxy
        have hy : 1 ≤ y := hy1 (by omega)
        have hor : bits .or .u64 (acc : Int) ((y : Int) * 34359738368) = ((acc + y * 34359738368 : Nat) : Int) := by rw [u64_orv35 _ _ (by omega) (by omega) (by omega) (by omega) (by omega)]; omega
        have HE : Hid (((acc : Int) + (y : Int) * 34359738368) = (x : Int)) := by show _ = _; omega
        clear hxy'
        clear hacc hxy HXY hy1
        have ht : ((i0 : Int) + 5).toNat = i0 + 5 := by omega
        go_wp2
        go_ret3
        exact ⟨ret3 (by first | exact HE.out | (have := HE.out; omega)) (by have := HL1.out; have := HLX.out; omega), rfl⟩
      · have hacc' : acc < 4398046511104 := by simpa using hacc
        have hxy' : x = acc + y * 4398046511104 := by simpa using hxy
        have hy : 1 ≤ y := hy1 (by omega)
        have hor : bits .or .u64 (acc : Int) ((y : Int) * 4398046511104) = ((acc + y * 4398046511104 : Nat) : Int) := by rw [u64_orv42 _ _ (by omega) (by omega) (by omega) (by omega) (by omega)]; omega
        have HE : Hid (((acc : Int) + (y : Int) * 4398046511104) = (x : Int)) := by show _ = _; omega
        clear hxy'
        clear hacc hxy HXY hy1
        have ht : ((i0 : Int) + 6).toNat = i0 + 6 := by omega
        go_wp2
        go_ret3
        exact ⟨ret3 (by first | exact HE.out | (have := HE.out; omega)) (by have := HL1.out; have := HLX.out; omega), rfl⟩
      · have hacc' : acc < 562949953421312 := by simpa using hacc
        have hxy' : x = acc + y * 562949953421312 := by simpa using hxy
        have hy : 1 ≤ y := hy1 (by omega)
        have hor : bits .or .u64 (acc : Int) ((y : Int) * 562949953421312) = ((acc + y * 562949953421312 : Nat) : Int) := by rw [u64_orv49 _ _ (by omega) (by omega) (by omega) (by omega) (by omega)]; omega
        have HE : Hid (((acc : Int) + (y : Int) * 562949953421312) = (x : Int)) := by show _ = _; omega
        clear hxy'
        clear hacc hxy HXY hy1
        have ht : ((i0 : Int) + 7).toNat = i0 + 7 := by omega
        go_wp2
        go_ret3
        exact ⟨ret3 (by first | exact HE.out | (have := HE.out; omega)) (by have := HL1.out; have := HLX.out; omega), rfl⟩
      · have hacc' : acc < 72057594037927936 := by simpa using hacc
        have hxy' : x = acc + y * 72057594037927936 := by simpa using hxy
        have hy : 1 ≤ y := hy1 (by omega)
        have hor : bits .or .u64 (acc : Int) ((y : Int) * 72057594037927936) = ((acc + y * 72057594037927936 : Nat) : Int) := by rw [u64_orv56 _ _ (by omega) (by omega) (by omega) (by omega) (by omega)]; omega
        have HE : Hid (((acc : Int) + (y : Int) * 72057594037927936) = (x : Int)) := by show _ = _; omega
        clear hxy'
        clear hacc hxy HXY hy1
        have ht : ((i0 : Int) + 8).toNat = i0 + 8 := by omega
        go_wp2
        go_ret3
        exact ⟨ret3 (by first | exact HE.out | (have := HE.out; omega)) (by have := HL1.out; have := HLX.out; omega), rfl⟩
      · have hacc' : acc < 9223372036854775808 := by simpa using hacc
        have hxy' : x = acc + y * 9223372036854775808 := by simpa using hxy
        have hy : 1 ≤ y := hy1 (by omega)
        have hy9 : y ≤ 1 := by omega
        have hor : bits .or .u64 (acc : Int) ((y : Int) * 9223372036854775808) = ((acc + y * 9223372036854775808 : Nat) : Int) := by rw [u64_orv63 _ _ (by omega) (by omega) (by omega) (by omega) (by omega)]; omega
        have HE : Hid (((acc : Int) + (y : Int) * 9223372036854775808) = (x : Int)) := by show _ = _; omega
        clear hxy'
        clear hacc hxy HXY hy1
        have ht : ((i0 : Int) + 9).toNat = i0 + 9 := by omega
        go_wp2
        go_ret3
        exact ⟨ret3 (by first | exact HE.out | (have := HE.out; omega)) (by have := HL1.out; have := HLX.out; omega), rfl⟩
    · obtain ⟨b, hbb⟩ : ∃ b : Nat, b = y % 128 + 128 := ⟨_, rfl⟩
      rw [byteAt_big (by omega), Nat.add_zero, ← hbb] at c0
      have hb1 : 128 ≤ b := by omega
      have hb2 : b < 256 := by omega
      have HB : Hid (b = y % 128 + 128) := hbb
      have HLN : Hid (L = k + 1 + (Lib.uvarint (y / 128)).length) := by have h1 := HLY.out; have h2 := len_next (y := y) (by omega); show _ = _; omega
      have HCN : Hid (∀ j, j < (Lib.uvarint (y / 128)).length → w.cell? ⟨g, i0 + (k + 1) + j, none⟩ = some (.int .u8 (byteAt (Lib.uvarint (y / 128)) j))) := by
        intro j hj
        have h2 := len_next (y := y) (by omega)
        rw [← byteAt_next (by omega), show i0 + (k + 1) + j = i0 + k + (j + 1) by omega]
        exact HCY.out (j + 1) (by omega)
      have hyd : 1 ≤ y / 128 := by omega
      have hy128 : 128 ≤ y := by omega
      clear HLY HCY hbb
      rcases (show k = 0 ∨ k = 1 ∨ k = 2 ∨ k = 3 ∨ k = 4 ∨ k = 5 ∨ k = 6 ∨ k = 7 ∨ k = 8 ∨ k = 9 by omega) with rfl | rfl | rfl | rfl | rfl | rfl | rfl | rfl | rfl | rfl
      · simp only [Nat.add_zero] at c0
        obtain rfl : acc = 0 := by simpa using hacc
        have hv : bits .or .u64 0 (IntKind.u64.wrap (IntKind.u64.wrap (bits .and .u8 (b : Int) 127))) = ((b % 128 : Nat) : Int) := by
          simp (disch := omega) only [u8_and127, u64_wrap_id, u64_orv0]
          omega
        have HE : Hid (x = b % 128 + y / 128 * 2 ^ (7 * (0 + 1))) := by have h1 := hxy; have h2 := HB.out; show x = b % 128 + y / 128 * 128; simp at h1; omega
        clear hacc hxy HXY hy1
        go_wp2
        go_round
        case rel => exact ⟨0 + 1, b % 128, y / 128, by go_num, (by first | rfl | (congr 1; omega) | go_num), by go_num, by go_num, by omega, (by show b % 128 < 128; omega), HE, fun _ => hyd, HLN, HCN⟩
        case measure => simp [intOf]
      · have hacc' : acc < 128 := by simpa using hacc
        have hxy' : x = acc + y * 128 := by simpa using hxy
        have hv : bits .or .u64 (acc : Int) (IntKind.u64.wrap (IntKind.u64.wrap (bits .and .u8 (b : Int) 127) * 128)) = ((acc + b % 128 * 128 : Nat) : Int) := by
          simp (disch := omega) only [u8_and127, u64_wrap_id, u64_orv7]
          omega
        have HE : Hid (x = acc + b % 128 * 128 + y / 128 * 2 ^ (7 * (1 + 1))) := by have h2 := HB.out; show x = acc + b % 128 * 128 + y / 128 * 16384; omega
        clear hxy'
        clear hacc hxy HXY hy1
        have ht : ((i0 : Int) + 1).toNat = i0 + 1 := by omega
        go_wp2
        go_round
        case rel => exact ⟨1 + 1, acc + b % 128 * 128, y / 128, by go_num, (by first | rfl | (congr 1; omega) | go_num), by go_num, by go_num, by omega, (by show acc + b % 128 * 128 < 16384; omega), HE, fun _ => hyd, HLN, HCN⟩
        case measure => simp [intOf]
      · have hacc' : acc < 16384 := by simpa using hacc
        have hxy' : x = acc + y * 16384 := by simpa using hxy
        have hv : bits .or .u64 (acc : Int) (IntKind.u64.wrap (IntKind.u64.wrap (bits .and .u8 (b : Int) 127) * 16384)) = ((acc + b % 128 * 16384 : Nat) : Int) := by
          simp (disch := omega) only [u8_and127, u64_wrap_id, u64_orv14]
          omega
        have HE : Hid (x = acc + b % 128 * 16384 + y / 128 * 2 ^ (7 * (2 + 1))) := by have h2 := HB.out; show x = acc + b % 128 * 16384 + y / 128 * 2097152; omega
        clear hxy'
        clear hacc hxy HXY hy1
        have ht : ((i0 : Int) + 2).toNat = i0 + 2 := by omega
        go_wp2
        go_round
        case rel => exact ⟨2 + 1, acc + b % 128 * 16384, y / 128, by go_num, (by first | rfl | (congr 1; omega) | go_num), by go_num, by go_num, by omega, (by show acc + b % 128 * 16384 < 2097152; omega), HE, fun _ => hyd, HLN, HCN⟩
        case measure => simp [intOf]
      · have hacc' : acc < 2097152 := by simpa using hacc
        have hxy' : x = acc + y * 2097152 := by simpa using hxy
        have hv : bits .or .u64 (acc : Int) (IntKind.u64.wrap (IntKind.u64.wrap (bits .and .u8 (b : Int) 127) * 2097152)) = ((acc + b % 128 * 2097152 : Nat) : Int) := by
          simp (disch := omega) only [u8_and127, u64_wrap_id, u64_orv21]
          omega
        have HE : Hid (x = acc + b % 128 * 2097152 + y / 128 * 2 ^ (7 * (3 + 1))) := by have h2 := HB.out; show x = acc + b % 128 * 2097152 + y / 128 * 268435456; omega
        clear hxy'
        clear hacc hxy HXY hy1
        have ht : ((i0 : Int) + 3).toNat = i0 + 3 := by omega
        go_wp2
        go_round
        case rel => exact ⟨3 + 1, acc + b % 128 * 2097152, y / 128, by go_num, (by first | rfl | (congr 1; omega) | go_num), by go_num, by go_num, by omega, (by show acc + b % 128 * 2097152 < 268435456; omega), HE, fun _ => hyd, HLN, HCN⟩
        case measure => simp [intOf]
      · have hacc' : acc < 268435456 := by simpa using hacc
        have hxy' : x = acc + y * 268435456 := by simpa using hxy
        have hv : bits .or .u64 (acc : Int) (IntKind.u64.wrap (IntKind.u64.wrap (bits .and .u8 (b : Int) 127) * 268435456)) = ((acc + b % 128 * 268435456 : Nat) : Int) := by
          simp (disch := omega) only [u8_and127, u64_wrap_id, u64_orv28]
          omega
        have HE : Hid (x = acc + b % 128 * 268435456 + y / 128 * 2 ^ (7 * (4 + 1))) := by have h2 := HB.out; show x = acc + b % 128 * 268435456 + y / 128 * 34359738368; omega
        clear hxy'
        clear hacc hxy HXY hy1
        have ht : ((i0 : Int) + 4).toNat = i0 + 4 := by omega
        go_wp2
        go_round
        case rel => exact ⟨4 + 1, acc + b % 128 * 268435456, y / 128, by go_num, (by first | rfl | (congr 1; omega) | go_num), by go_num, by go_num, by omega, (by show acc + b % 128 * 268435456 < 34359738368; omega), HE, fun _ => hyd, HLN, HCN⟩
        case measure => simp [intOf]
      · have hacc' : acc < 34359738368 := by simpa using hacc
        have hxy' : x = acc + y * 34359738368 := by simpa using hxy
        have hv : bits .or .u64 (acc : Int) (IntKind.u64.wrap (IntKind.u64.wrap (bits .and .u8 (b : Int) 127) * 34359738368)) = ((acc + b % 128 * 34359738368 : Nat) : Int) := by
          simp (disch := omega) only [u8_and127, u64_wrap_id, u64_orv35]
          omega
        have HE : Hid (x = acc + b % 128 * 34359738368 + y / 128 * 2 ^ (7 * (5 + 1))) := by have h2 := HB.out; show x = acc + b % 128 * 34359738368 + y / 128 * 4398046511104; omega
        clear hxy'
        clear hacc hxy HXY hy1
        have ht : ((i0 : Int) + 5).toNat = i0 + 5 := by omega
        go_wp2
        go_round
        case rel => exact ⟨5 + 1, acc + b % 128 * 34359738368, y / 128, by go_num, (by first | rfl | (congr 1; omega) | go_num), by go_num, by go_num, by omega, (by show acc + b % 128 * 34359738368 < 4398046511104; omega), HE, fun _ => hyd, HLN, HCN⟩
        case measure => simp [intOf]
      · have hacc' : acc < 4398046511104 := by simpa using hacc
        have hxy' : x = acc + y * 4398046511104 := by simpa using hxy
        have hv : bits .or .u64 (acc : Int) (IntKind.u64.wrap (IntKind.u64.wrap (bits .and .u8 (b : Int) 127) * 4398046511104)) = ((acc + b % 128 * 4398046511104 : Nat) : Int) := by
          simp (disch := omega) only [u8_and127, u64_wrap_id, u64_orv42]
          omega
        have HE : Hid (x = acc + b % 128 * 4398046511104 + y / 128 * 2 ^ (7 * (6 + 1))) := by have h2 := HB.out; show x = acc + b % 128 * 4398046511104 + y / 128 * 562949953421312; omega
        clear hxy'
        clear hacc hxy HXY hy1
        have ht : ((i0 : Int) + 6).toNat = i0 + 6 := by omega
        go_wp2
        go_round
        case rel => exact ⟨6 + 1, acc + b % 128 * 4398046511104, y / 128, by go_num, (by first | rfl | (congr 1; omega) | go_num), by go_num, by go_num, by omega, (by show acc + b % 128 * 4398046511104 < 562949953421312; omega), HE, fun _ => hyd, HLN, HCN⟩
        case measure => simp [intOf]
      · have hacc' : acc < 562949953421312 := by simpa using hacc
        have hxy' : x = acc + y * 562949953421312 := by simpa using hxy
        have hv : bits .or .u64 (acc : Int) (IntKind.u64.wrap (IntKind.u64.wrap (bits .and .u8 (b : Int) 127) * 562949953421312)) = ((acc + b % 128 * 562949953421312 : Nat) : Int) := by
          simp (disch := omega) only [u8_and127, u64_wrap_id, u64_orv49]
          omega
        have HE : Hid (x = acc + b % 128 * 562949953421312 + y / 128 * 2 ^ (7 * (7 + 1))) := by have h2 := HB.out; show x = acc + b % 128 * 562949953421312 + y / 128 * 72057594037927936; omega
        clear hxy'
        clear hacc hxy HXY hy1
        have ht : ((i0 : Int) + 7).toNat = i0 + 7 := by omega
        go_wp2
        go_round
        case rel => exact ⟨7 + 1, acc + b % 128 * 562949953421312, y / 128, by go_num, (by first | rfl | (congr 1; omega) | go_num), by go_num, by go_num, by omega, (by show acc + b % 128 * 562949953421312 < 72057594037927936; omega), HE, fun _ => hyd, HLN, HCN⟩
        case measure => simp [intOf]
      · have hacc' : acc < 72057594037927936 := by simpa using hacc
        have hxy' : x = acc + y * 72057594037927936 := by simpa using hxy
        have hv : bits .or .u64 (acc : Int) (IntKind.u64.wrap (IntKind.u64.wrap (bits .and .u8 (b : Int) 127) * 72057594037927936)) = ((acc + b % 128 * 72057594037927936 : Nat) : Int) := by
          simp (disch := omega) only [u8_and127, u64_wrap_id, u64_orv56]
          omega
        have HE : Hid (x = acc + b % 128 * 72057594037927936 + y / 128 * 2 ^ (7 * (8 + 1))) := by have h2 := HB.out; show x = acc + b % 128 * 72057594037927936 + y / 128 * 9223372036854775808; omega
        clear hxy'
        clear hacc hxy HXY hy1
        have ht : ((i0 : Int) + 8).toNat = i0 + 8 := by omega
        go_wp2
        go_round
        case rel => exact ⟨8 + 1, acc + b % 128 * 72057594037927936, y / 128, by go_num, (by first | rfl | (congr 1; omega) | go_num), by go_num, by go_num, by omega, (by show acc + b % 128 * 72057594037927936 < 9223372036854775808; omega), HE, fun _ => hyd, HLN, HCN⟩
        case measure => simp [intOf]
      · exfalso; have h9 : x = acc + y * 9223372036854775808 := by simpa using hxy
        omega

/-- The same, the number as it stands in the law. -/
theorem dec_any (g N cap i0 : Nat) (I : Int) (hI : I = i0) (x : Nat) (hx : x < 18446744073709551616) (w : World) (hN : N ≤ 1099511627776) (hi : i0 + (Lib.uvarint x).length ≤ N) (hc : ∀ j, j < (Lib.uvarint x).length → w.cell? ⟨g, i0 + j, none⟩ = some (.int .u8 (byteAt (Lib.uvarint x) j))) :
    Calls Try.prog 37 #[.slice (some ⟨g, 0, none⟩) N cap, .int .i64 I] w fun e w' => e = .returned (.tuple #[.int .u64 x, .int .i64 ((i0 + (Lib.uvarint x).length : Nat) : Int), .bool true]) ∧ w' = w := by
  subst hI
  exact dec_nat g N cap i0 x hx w hN hi hc
end Go.Proofs.Qxb6604442a.Bytes
