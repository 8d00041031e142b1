/-
  THE FOURTH LAW OF THIS SEAT: the readers of a row of 59-cell elements: zzBytes_.., dataBytes, countExplicit.
-/
import Derived.Test.Qxb6604391aRows
import Derived.WalkKit
import Derived.ProofKit
import Derived.OpenShut
import Derived.Deep.MidRow
namespace Go.Proofs.Qxb6604391a.Aces
open Go.RowKit
/-- A bool comes back. -/
def IsBool (e : Ending) : Prop := ∃ b : Bool, e = .returned (.bool b)
/-- Each element's last cell is a slice, of the length 'ls i'. -/
def Lens (w : World) (ao : Option Addr) (n : Nat) (ls : Nat → Nat) : Prop := ∀ i, i < n → ls i ≤ 9223372036854775807 ∧ ∃ b o a cp, ao = some ⟨b, o, none⟩ ∧ w.cell? ⟨b, o + i * 59 + 58, none⟩ = some (.slice a (ls i) cp)
/-- Each element's second cell is a byte, 'fs i'. -/
def Flgs (w : World) (ao : Option Addr) (n : Nat) (fs : Nat → Int) : Prop := ∀ i, i < n → ∃ b o, ao = some ⟨b, o, none⟩ ∧ w.cell? ⟨b, o + i * 59 + 1, none⟩ = some (.int .u8 (fs i))

set_option maxHeartbeats 1000000 in
/-- dataBytes: where it says no more than 1<<20 each element's Data is no longer than that. -/
theorem data_any (ao : Option Addr) (n c : Nat) (w : World) (ls : Nat → Nat) (hn : n ≤ 1048576) (hl : Lens w ao n ls) :
    Calls Try.prog 8 #[.slice ao n c] w fun e w' => (∃ z : Int, e = .returned (.int .i64 z) ∧ 0 ≤ z ∧ z ≤ 1048577 ∧ (z ≤ 1048576 → ∀ i, i < n → ls i ≤ 1048576)) ∧ w' = w := by
  go_enter Try.func8, Try.ntmps8
  go_wp2
  go_loop [3, 4] (fun vn vi => ∃ (k : Nat) (z : Int), k ≤ n ∧ vi = .int .i64 k ∧ vn = .int .i64 z ∧ 0 ≤ z ∧ z ≤ 1048576 ∧ Hid (∀ i, i < k → ls i ≤ 1048576)) (fun _ vi => n - (intOf vi).toNat)
  case atStart => exact ⟨0, 0, by omega, rfl, rfl, by omega, by omega, fun i hi => by omega⟩
  case round =>
    obtain ⟨k, z, hk, rfl, rfl, h0, h1, HI⟩ := hrel
    by_cases hlt : k < n
    · obtain ⟨hlk, b, o, a, cp, hao, hck⟩ := hl k hlt
      clear hl
      rw [hao]
      have hki : (k : Int) < (n : Int) := by omega
      by_cases hfit : (1048576 : Int) - z < (ls k : Int)
      · go_wp2
        go_ret
        exact ⟨⟨_, rfl, by omega, by omega, fun h => by omega⟩, rfl⟩
      · have hfit' : (ls k : Int) ≤ (1048576 : Int) - z := by omega
        go_wp2
        go_round
        case rel => exact ⟨k + 1, z + ls k, by omega, by go_num, by go_num, by omega, by omega, fun i hi => by
          by_cases e : i = k
          · subst e; omega
          · exact HI.out i (by omega)⟩
        case measure => simp [intOf]; omega
    · go_wp2
      go_ret
      exact ⟨⟨_, rfl, by omega, by omega, fun _ i hi => HI.out i (by omega)⟩, rfl⟩

/-- How many of the first k elements are explicit. -/
def cnt (fs : Nat → Int) : Nat → Nat
  | 0 => 0
  | k + 1 => cnt fs k + if bits .and .u8 (fs k) 16 == 0 then 1 else 0
theorem cnt_le (fs : Nat → Int) (k : Nat) : cnt fs k ≤ k := by
  induction k with
  | zero => exact Nat.le_refl _
  | succ k ih => unfold cnt; split <;> omega

set_option maxHeartbeats 1000000 in
/-- countExplicit. -/
theorem count_any (ao : Option Addr) (n c : Nat) (w : World) (fs : Nat → Int) (hn : n ≤ 1048576) (hf : Flgs w ao n fs) :
    Calls Try.prog 13 #[.slice ao n c] w fun e w' => e = .returned (.int .i64 (cnt fs n)) ∧ w' = w := by
  go_enter Try.func13, Try.ntmps13
  go_wp2
  go_loop [3, 4] (fun vn vi => ∃ (k z : Nat), k ≤ n ∧ vi = .int .i64 k ∧ vn = .int .i64 z ∧ z ≤ k ∧ Hid (z = cnt fs k)) (fun _ vi => n - (intOf vi).toNat)
  case atStart => exact ⟨0, 0, by omega, rfl, rfl, by omega, rfl⟩
  case round =>
    obtain ⟨k, z, hk, rfl, rfl, hz, HC⟩ := hrel
    by_cases hlt : k < n
    · obtain ⟨b, o, hao, hck⟩ := hf k hlt
      clear hf
      rw [hao]
      have hki : (k : Int) < (n : Int) := by omega
      have HC0 : Hid (cnt fs (k + 1) = cnt fs k + if bits .and .u8 (fs k) 16 == 0 then 1 else 0) := rfl
      cases hb : (bits .and .u8 (fs k) 16 == 0)
      · go_wp2
        go_round
        case rel => exact ⟨k + 1, z, by omega, by go_num, by go_num, by omega, by show z = _; rw [HC0.out, hb, HC.out]; rfl⟩
        case measure => simp [intOf]; omega
      · go_wp2
        go_round
        case rel => exact ⟨k + 1, z + 1, by omega, by go_num, by go_num, by omega, by show z + 1 = _; rw [HC0.out, hb, HC.out]; rfl⟩
        case measure => simp [intOf]; omega
    · obtain rfl : k = n := by omega
      go_wp2
      go_ret
      exact ⟨by rw [← HC.out]; rfl, rfl⟩

set_option maxHeartbeats 4000000 in
/-- zzBytes_..: it says yes or no; nothing turns. -/
theorem bytes_any (ao a1 : Option Addr) (n c n1 c1 : Nat) (w : World) (ls l1 : Nat → Nat) (hn : n ≤ 9223372036854775807) (hn1 : n1 ≤ 9223372036854775807) (hl : Lens w ao n ls) (hl1 : Lens w a1 n1 l1) :
    Calls Try.prog 7 #[.slice ao n c, .slice a1 n1 c1] w fun e w' => IsBool e ∧ w' = w := by
  by_cases hbig : 1048576 < (n : Int)
  · go_enter Try.func7, Try.ntmps7
    go_wp2
    go_ret
    exact ⟨⟨_, rfl⟩, rfl⟩
  have hsm : (n : Int) ≤ 1048576 := by omega
  go_enter Try.func7, Try.ntmps7
  go_wp2
  go_loop [5, 6] (fun vn vi => ∃ (k : Nat) (z : Int), k ≤ n ∧ vi = .int .i64 k ∧ vn = .int .i64 z ∧ 0 ≤ z ∧ z ≤ 1048576) (fun _ vi => n - (intOf vi).toNat)
  case atStart => exact ⟨0, n, by omega, rfl, rfl, by omega, by omega⟩
  case round =>
    obtain ⟨k, z, hk, rfl, rfl, h0, h1⟩ := hrel
    by_cases hlt : k < n
    · obtain ⟨hlk, b, o, a, cp, hao, hck⟩ := hl k hlt
      clear hl hl1
      rw [hao]
      have hki : (k : Int) < (n : Int) := by omega
      go_wp2
      all_goals first
        | (go_ret; exact ⟨⟨_, rfl⟩, rfl⟩)
        | (go_round
           case rel => exact ⟨k + 1, z + 16 + 16 + 6 + ls k, by omega, by go_num, by go_num, by omega, by omega⟩
           case measure => simp [intOf]; omega)
    · clear hl
      by_cases hbig1 : 1048576 < (n1 : Int)
      · go_wp2
        go_ret
        exact ⟨⟨_, rfl⟩, rfl⟩
      have hsm1 : (n1 : Int) ≤ 1048576 := by omega
      by_cases hz1 : 1048576 < z + (n1 : Int)
      · go_wp2
        go_ret
        exact ⟨⟨_, rfl⟩, rfl⟩
      have hz2 : z + (n1 : Int) ≤ 1048576 := by omega
      go_wp2
      go_loop [5, 7] (fun vn vi => ∃ (k : Nat) (z : Int), k ≤ n1 ∧ vi = .int .i64 k ∧ vn = .int .i64 z ∧ 0 ≤ z ∧ z ≤ 1048576) (fun _ vi => n1 - (intOf vi).toNat)
      case atStart => exact ⟨0, z + n1, by omega, rfl, rfl, by omega, by omega⟩
      case round =>
        obtain ⟨k1, z1, hk1, rfl, rfl, g0, g1⟩ := hrel
        by_cases hlt1 : k1 < n1
        · obtain ⟨hlk1, b1, o1, a1', cp1, hao1, hck1⟩ := hl1 k1 hlt1
          clear hl1
          rw [hao1]
          have hki1 : (k1 : Int) < (n1 : Int) := by omega
          go_wp2
          all_goals first
            | (go_ret; exact ⟨⟨_, rfl⟩, rfl⟩)
            | (go_round
               case rel => exact ⟨k1 + 1, z1 + 16 + 16 + 6 + l1 k1, by omega, by go_num, by go_num, by omega, by omega⟩
               case measure => simp [intOf]; omega)
        · go_wp2
          go_ret
          exact ⟨⟨_, rfl⟩, rfl⟩
end Go.Proofs.Qxb6604391a.Aces
