/-
  SHARED: zzB1ReadString, zzB1ReadNumber, at the place where a text's or a number's form lies.
-/
import Derived.Test.Qxb6604442aDecode
import Derived.Deep.QuietTactic
import Derived.BigQuiet
import Derived.WalkSmall
namespace Go.Proofs.Qxb6604442a.Bytes
open Go.RowKit
/-- E's bytes lie from the place i on in block g. -/
def Lies (w : World) (g i : Nat) (E : List UInt8) : Prop := ∀ j, j < E.length → w.cell? ⟨g, i + j, none⟩ = some (.int .u8 (byteAt E j))
theorem byteAt_left {A B : List UInt8} {j : Nat} (h : j < A.length) : byteAt (A ++ B) j = byteAt A j := by
  simp only [byteAt, List.getElem?_append_left h]
theorem byteAt_right (A B : List UInt8) (j : Nat) : byteAt (A ++ B) (A.length + j) = byteAt B j := by
  simp only [byteAt, List.getElem?_append_right (Nat.le_add_right _ _), Nat.add_sub_cancel_left]
theorem Lies.left {w : World} {g i : Nat} {A B : List UInt8} (h : Lies w g i (A ++ B)) : Lies w g i A := by
  intro j hj
  rw [← byteAt_left (B := B) hj]
  exact h j (by rw [List.length_append]; omega)
theorem Lies.right {w : World} {g i : Nat} {A B : List UInt8} (h : Lies w g i (A ++ B)) : Lies w g (i + A.length) B := by
  intro j hj
  rw [← byteAt_right A B j, Nat.add_assoc]
  exact h (A.length + j) (by rw [List.length_append]; omega)
theorem Lies.draws {w : World} {g i : Nat} {E : List UInt8} (h : Lies w g i E) (q : Nat) : Lies (w.drewN q) g i E := h
theorem Lies.byte {w : World} {g i : Nat} {s : ByteArray} (h : Lies w g i s.data.toList) (k : Nat) (hk : k < s.size) : w.cell? ⟨g, i + k, none⟩ = some (.int .u8 (s[k].toNat)) := by
  have hl : s.data.toList.length = s.size := Array.length_toList ..
  rw [h k (by omega)]
  have e : s.data.toList[k]? = some s[k] := by
    rw [Array.getElem?_toList]
    exact Array.getElem?_eq_getElem hk
  simp only [byteAt, e, Option.getD_some]
theorem drewN_more {w wr : World} (h : ∃ q, wr = w.drewN q) (m : Nat) : ∃ q, wr.drewN m = w.drewN q := by
  obtain ⟨q, rfl⟩ := h
  exact ⟨q + m, World.drewN_drewN ..⟩
theorem ret2 {a a' : Int} {b b' : Bool} (h : a = a') (h2 : b = b') : Ending.returned (.tuple #[.int .i64 a, .bool b]) = .returned (.tuple #[.int .i64 a', .bool b']) := by rw [h, h2]

set_option maxHeartbeats 1000000 in
set_option maxRecDepth 100000 in
theorem num_any (g N cap i0 : Nat) (I X : Int) (hI : I = i0) (h0 : 0 ≤ X) (h1 : X < 18446744073709551616) (w : World) (hN : N ≤ 1099511627776) (hi : i0 + (Lib.uvarint X.toNat).length ≤ N) (hc : Lies w g i0 (Lib.uvarint X.toNat)) :
    Calls Try.prog 31 #[.slice (some ⟨g, 0, none⟩) N cap, .int .i64 I, .int .u64 X] w fun e w' => e = .returned (.tuple #[.int .i64 ((i0 + (Lib.uvarint X.toNat).length : Nat) : Int), .bool true]) ∧ w' = w := by
  subst hI
  obtain ⟨x, rfl⟩ := Int.eq_ofNat_of_zero_le h0
  rw [Int.toNat_natCast] at *
  have HC : Hid (Lies w g i0 (Lib.uvarint x)) := hc
  generalize hL : (Lib.uvarint x).length = L at hi
  have HL : Hid ((Lib.uvarint x).length = L) := hL
  clear hc hL
  go_enter Try.func31, Try.ntmps31
  go_wp2_with (go_at_call 37; refine (dec_nat g N cap i0 x (by omega) _ hN (by rw [HL.out]; exact hi) HC.out).mono ?_; rintro e w' ⟨rfl, hw⟩; obtain rfl := hw.symm; try rw [HL.out])
  go_ret2
  exact ⟨ret2 (by omega) (by simp), rfl⟩

set_option maxHeartbeats 1000000 in
set_option maxRecDepth 100000 in
theorem str_any (g N cap i0 : Nat) (I : Int) (s : ByteArray) (hI : I = i0) (hs : s.size ≤ 1048576) (w : World) (hN : N ≤ 1099511627776) (hi : i0 + (piece s).length ≤ N) (hc : Lies w g i0 (piece s)) :
    Calls Try.prog 30 #[.slice (some ⟨g, 0, none⟩) N cap, .int .i64 I, .string s] w fun e w' => e = .returned (.tuple #[.int .i64 ((i0 + (piece s).length : Nat) : Int), .bool true]) ∧ ∃ q, w' = w.drewN q := by
  subst hI
  rw [piece_len] at *
  have HC : Hid (Lies w g i0 (Lib.uvarint s.size)) := hc.left
  have HS : Hid (Lies w g (i0 + (Lib.uvarint s.size).length) s.data.toList) := hc.right
  have hu := Lib.uvarint_length64 (x := s.size) (by omega)
  generalize hL : (Lib.uvarint s.size).length = L at hi hu HS
  have HL : Hid ((Lib.uvarint s.size).length = L) := hL
  have hd : decide ((N : Int) - ((i0 : Int) + (L : Int)) < (s.size : Int)) = false := decide_eq_false (by omega)
  clear hc hL
  go_enter Try.func30, Try.ntmps30
  go_wp2_with (go_at_call 37; refine (dec_nat g N cap i0 s.size (by omega) _ hN (by rw [HL.out]; omega) HC.out).mono ?_; rintro e w' ⟨rfl, hw⟩; obtain rfl := hw.symm; try rw [HL.out])
  clear HC HL
  go_loopw [11] (fun i wr => ∃ k : Nat, k ≤ s.size ∧ i = .int .i64 k ∧ Hid (∃ q, wr = w.drewN q)) (fun i _ => s.size - (intOf i).toNat)
  case atStart => exact ⟨0, Nat.zero_le _, rfl, 0, rfl⟩
  case round =>
    obtain ⟨k, hk, rfl, hq⟩ := hrel
    by_cases hlt : k < s.size
    · have c0 : wr.cell? ⟨g, i0 + L + k, none⟩ = some (.int .u8 (s[k].toNat)) := by
        obtain ⟨q, rfl⟩ := hq.out
        exact (HS.out.draws q).byte k hlt
      have hi0 : (k : Int) < (s.size : Int) := by omega
      have hi3 : (i0 : Int) + (L : Int) + (k : Int) < (N : Int) := by omega
      have hi3' : i0 + L + k < N := by omega
      have ht : ((i0 : Int) + (L : Int) + (k : Int)).toNat = i0 + L + k := by omega
      go_wp2
      go_quiet (fail)
      go_wp2
      go_roundw
      case rel => first | exact ⟨k + 1, by omega, by go_num, drewN_more hq.out _⟩ | ((repeat apply Exists.intro); exact ⟨⟨k + 1, by omega, by go_num, drewN_more hq.out _⟩, rfl⟩)
      case measure => simp [intOf]; omega
    · go_wp2
      go_ret2
      exact ⟨ret2 (by omega) rfl, hq.out⟩
end Go.Proofs.Qxb6604442a.Bytes
