/-
  SHARED: binary.AppendUvarint and the law's own count of 7-bit groups, each by what it computes. (After the kit's Derived/Shelf/Bin/AppendUvarint.lean, whose frame says 'Below' alone; here also: every block that is no row of bytes stands.)
-/
import Derived.Test.Qxb6604442aRows
import Derived.WalkKit
import Derived.ProofKit
import Derived.OpenShut
import Derived.Lib.VarintMem
import Derived.Lib.OthersKept
import Derived.Lib.OwnKind
namespace Go.Proofs.Qxb6604442a.Bytes
open Go.RowKit

theorem info5 : (Try.prog.info? 5).map (fun i => (i.zero, i.size, i.bytes)) = some (some (.int .u8 0), 1, 1) := by kernel_rfl

/-- What an appender leaves: the value owns the old cells and the new; below B nothing has turned; nor has any block that is no row of bytes. -/
def Grew (B : Nat) (w : World) (v' : Value) (n : Nat) (xs : List Value) (w' : World) : Prop := w'.ownsRow B 5 1 v' n xs ∧ Below B w w' ∧ Lib.OthersKept 5 none w w'

set_option maxHeartbeats 1000000 in
set_option maxRecDepth 100000 in
theorem uv_nat (B n x : Nat) (hx : x < 18446744073709551616) (sv : Value) (xs : List Value) (w : World) (hown : w.ownsRow B 5 1 sv n xs) (hBw : B ≤ w.heap.size) (hlim : n + 10 ≤ 140737488355328) :
    Calls Try.prog 38 #[sv, .int .u64 x] w fun e w' => ∃ v', e = .returned v' ∧ Grew B w v' (n + (Lib.uvarint x).length) (xs ++ Lib.byteCells (Lib.uvarint x)) w' := by
  obtain ⟨i0, hi, hz0, hz1, hz2⟩ := info_parts info5
  have hlen := Lib.uvarint_length64 hx
  go_enter Try.func38, Try.ntmps38
  go_wp2
  go_loopw [0, 1] (fun vb vx wr => ∃ (y : Nat) (pre : List UInt8), vx = .int .u64 y ∧ y ≤ x ∧ Lib.uvarint x = pre ++ Lib.uvarint y ∧ wr.ownsRow B 5 1 vb (n + pre.length) (xs ++ Lib.byteCells pre) ∧ Below B w wr ∧ Lib.OthersKept 5 none w wr)
    (fun _ vx _ => (intOf vx).toNat)
  case atStart => exact ⟨x, [], rfl, Nat.le_refl _, rfl, by simpa [Lib.byteCells] using hown, Below.refl _ _, Lib.OthersKept.refl _ _ _⟩
  case round =>
    obtain ⟨y, pre, rfl, hy, hsplit, hown1, hnx, hok⟩ := hrel
    have hpl : pre.length + (Lib.uvarint y).length ≤ 10 := by
      have h2 := congrArg List.length hsplit
      rw [List.length_append] at h2
      omega
    have hyp := Lib.uvarint_pos y
    have HS : Hid (Lib.uvarint x = pre ++ Lib.uvarint y) := hsplit
    clear hsplit
    by_cases h128 : 128 ≤ y
    · have hor : bits .or .u8 ((y : Int) % 256) 128 = ((y % 128 + 128 : Nat) : Int) := by
        rw [Lib.u8_or128_any _ (by omega) (by omega)]
        omega
      go_wp2_with (at_builtin; refine wpList_append_own _ rfl _ _ 53 rfl B 5 i0 (.int .u8 0) 1 1 Try.underlying53 hi hz0 hz1 hz2 rfl (by decide) _ _ _ rfl (hown1.alloc _) ⟨wr.heap.size, 0, none⟩ 1 1 [Value.int .u8 ((y % 128 + 128 : Nat) : Int)] rfl rfl ?c1 ?c2 ?c3 ?c4 ?c5 ?_)
      case c1 =>
        intro j u hj
        match j, hj with
        | 0, hj => simp at hj; subst hj; simp [Addr.add]
      case c2 => intro u hu; simp at hu; subst hu; rfl
      case c3 => unfold maxLen; omega
      case c4 => omega
      case c5 => have := hnx.size; simp; omega
      intro v' w1 hown' hgrow _
      have hnx1 : Below B w w1 := (hnx.alloc (by have := hnx.size; omega) _).grown hgrow (by have := hnx.size; simp; omega) (fun k hk => (hown1.lt k hk).1)
      have hok1 : Lib.OthersKept 5 none w w1 := (hok.alloc _).grown hgrow (Lib.ownsRow_kind (hown1.alloc _))
      go_wp2
      go_roundw
      case rel =>
        refine ⟨y / 128, pre ++ [(y % 128 + 128).toUInt8], by go_num, by omega, by rw [HS.out, Lib.uvarint_big h128]; simp, ?_, hnx1, hok1⟩
        have ec : ((y % 128 + 128 : Nat) : Int) = (y : Int) % 128 + 128 := by omega
        rw [Lib.byteCells_snoc pre (by omega), List.length_append, List.length_singleton, ← Nat.add_assoc, ec]
        exact hown'
      case measure => simp [intOf]; omega
    · have hsm : Lib.uvarint y = [y.toUInt8] := Lib.uvarint_small (by omega)
      go_wp2_with (at_builtin; refine wpList_append_own _ rfl _ _ 53 rfl B 5 i0 (.int .u8 0) 1 1 Try.underlying53 hi hz0 hz1 hz2 rfl (by decide) _ _ _ rfl (hown1.alloc _) ⟨wr.heap.size, 0, none⟩ 1 1 [Value.int .u8 (y : Int)] rfl rfl ?c1 ?c2 ?c3 ?c4 ?c5 ?_)
      case c1 =>
        intro j u hj
        match j, hj with
        | 0, hj => simp at hj; subst hj; simp [Addr.add]
      case c2 => intro u hu; simp at hu; subst hu; rfl
      case c3 => unfold maxLen; omega
      case c4 => omega
      case c5 => have := hnx.size; simp; omega
      intro v' w1 hown' hgrow _
      have hnx1 : Below B w w1 := (hnx.alloc (by have := hnx.size; omega) _).grown hgrow (by have := hnx.size; simp; omega) (fun k hk => (hown1.lt k hk).1)
      have hok1 : Lib.OthersKept 5 none w w1 := (hok.alloc _).grown hgrow (Lib.ownsRow_kind (hown1.alloc _))
      go_wp2
      go_ret
      refine ⟨v', rfl, ?_, hnx1, hok1⟩
      rw [HS.out, hsm, Lib.byteCells_snoc pre (by omega), List.length_append, List.length_singleton, ← Nat.add_assoc]
      exact hown'

/-- The same, the number an Int within its bounds. -/
theorem uv_any (B n : Nat) (X : Int) (h0 : 0 ≤ X) (h1 : X < 18446744073709551616) (sv : Value) (xs : List Value) (w : World) (hown : w.ownsRow B 5 1 sv n xs) (hBw : B ≤ w.heap.size) (hlim : n + 10 ≤ 140737488355328) :
    Calls Try.prog 38 #[sv, .int .u64 X] w fun e w' => ∃ v', e = .returned v' ∧ Grew B w v' (n + (Lib.uvarint X.toNat).length) (xs ++ Lib.byteCells (Lib.uvarint X.toNat)) w' := by
  obtain ⟨x, rfl⟩ := Int.eq_ofNat_of_zero_le h0
  rw [Int.toNat_natCast]
  exact uv_nat B n x (by omega) sv xs w hown hBw hlim

set_option maxHeartbeats 400000 in
set_option maxRecDepth 100000 in
/-- zzB1UvLen: how many bytes the number's varint has. -/
theorem uvlen_nat (x : Nat) (hx : x < 18446744073709551616) (w : World) :
    Calls Try.prog 33 #[.int .u64 x] w fun e w' => e = .returned (.int .i64 (Lib.uvarint x).length) ∧ w' = w := by
  have hlen := Lib.uvarint_length64 hx
  go_enter Try.func33, Try.ntmps33
  go_wp2
  go_loop [0, 3] (fun vx vn => ∃ y k : Nat, vx = .int .u64 y ∧ vn = .int .i64 (k + 1 : Nat) ∧ y ≤ x ∧ (Lib.uvarint x).length = k + (Lib.uvarint y).length) (fun vx _ => (intOf vx).toNat)
  case atStart => exact ⟨x, 0, rfl, rfl, Nat.le_refl _, by omega⟩
  case round =>
    obtain ⟨y, k, rfl, rfl, hy, hk⟩ := hrel
    have hyp := Lib.uvarint_pos y
    have HK : Hid ((Lib.uvarint x).length = k + (Lib.uvarint y).length) := hk
    have hkb : k ≤ 10 := by omega
    clear hk
    by_cases h128 : 128 ≤ y
    · go_wp2
      go_round
      case rel => exact ⟨y / 128, k + 1, by go_num, by go_num, by omega, by rw [HK.out, Lib.uvarint_big h128, List.length_cons]; omega⟩
      case measure => simp [intOf]; omega
    · go_wp2
      go_ret
      exact ⟨by rw [HK.out, Lib.uvarint_small (by omega)]; rfl, rfl⟩
theorem uvlen_any (X : Int) (h0 : 0 ≤ X) (h1 : X < 18446744073709551616) (w : World) :
    Calls Try.prog 33 #[.int .u64 X] w fun e w' => e = .returned (.int .i64 (Lib.uvarint X.toNat).length) ∧ w' = w := by
  obtain ⟨x, rfl⟩ := Int.eq_ofNat_of_zero_le h0
  rw [Int.toNat_natCast]
  exact uvlen_nat x (by omega) w
end Go.Proofs.Qxb6604442a.Bytes
