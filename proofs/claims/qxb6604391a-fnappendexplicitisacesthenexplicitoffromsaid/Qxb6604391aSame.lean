/-
  sameBytes, of two slices of the same bytes.
-/
import Derived.Test.Qxb6604391aGot
import Derived.Deep.QuietTactic
import Derived.BigQuiet
import Derived.WalkSmall
namespace Go.Proofs.Qxb6604391a.Aces
open Go.RowKit
theorem drewN_more {w wr : World} (h : ∃ q, wr = w.drewN q) (m : Nat) : ∃ q, wr.drewN m = w.drewN q := by
  obtain ⟨q, rfl⟩ := h
  exact ⟨q + m, World.drewN_drewN ..⟩
/-- A byte's plain address. -/
theorem byte_at {w : World} {a : Addr} {zs : List Int} (h : ∀ j, j < zs.length → w.cell? (a.add j) = some (.int .u8 (zs[j]?.getD 0))) (hp : 0 < zs.length) : ∃ b o, a = ⟨b, o, none⟩ ∧ ∀ j, j < zs.length → w.cell? ⟨b, o + j, none⟩ = some (.int .u8 (zs[j]?.getD 0)) := by
  obtain ⟨b, o, rfl, hc⟩ := ints_at (a := a) (k := .u8) (zs := zs) (fun i hi => by rw [h i hi]; simp [List.getD]) hp
  exact ⟨b, o, rfl, fun j hj => by rw [hc j hj]; simp [List.getD]⟩
set_option maxHeartbeats 1000000 in
theorem same_any (d1 d2 : Value) (d : Option (List Int)) (w : World) (h1 : Dat 0 w d1 d) (h2 : Dat 0 w d2 d) (hl : dlen d ≤ 1048576) :
    Calls Try.prog 23 #[d1, d2] w fun e w' => e = .returned (.bool true) ∧ ∃ q, w' = w.drewN q := by
  cases d with
  | none =>
    obtain rfl : d1 = .slice none 0 0 := h1
    obtain rfl : d2 = .slice none 0 0 := h2
    have hnil := fun w' : World => Lib.run_eql_slice_nil (P := Try.prog) w' 41 5 none 0 0 0 0 Try.underlying41
    go_enter Try.func23, Try.ntmps23
    go_wp2
    refine wp_loop_rounds 1 ?_
    rw [rounds_succ]
    go_wp2
    go_ret
    exact ⟨rfl, 0, rfl⟩
  | some zs =>
    obtain ⟨a1, c1, rfl, hc1⟩ := h1
    obtain ⟨a2, c2, rfl, hc2⟩ := h2
    obtain ⟨n, hn⟩ : ∃ n, n = zs.length := ⟨_, rfl⟩
    have hl' : n ≤ 1048576 := by rw [hn]; exact hl
    rw [← hn]
    have HN : Hid (n = zs.length) := hn
    have HC1 : Hid (∀ j, j < zs.length → w.cell? (a1.add j) = some (.int .u8 (zs[j]?.getD 0))) := fun j hj => (hc1 j hj).2
    have HC2 : Hid (∀ j, j < zs.length → w.cell? (a2.add j) = some (.int .u8 (zs[j]?.getD 0))) := fun j hj => (hc2 j hj).2
    clear hc1 hc2 hn hl
    have hnil1 := fun w' : World => Lib.run_eql_slice_nil (P := Try.prog) w' 41 5 (some a1) n c1 0 0 Try.underlying41
    have hnil2 := fun w' : World => Lib.run_eql_slice_nil (P := Try.prog) w' 41 5 (some a2) n c2 0 0 Try.underlying41
    go_enter Try.func23, Try.ntmps23
    go_wp2
    go_loopw [5] (fun i wr => ∃ k : Nat, k ≤ n ∧ i = .int .i64 k ∧ Hid (∃ q, wr = w.drewN q)) (fun i _ => n - (intOf i).toNat)
    case atStart => exact ⟨0, Nat.zero_le _, rfl, 0, rfl⟩
    case round =>
      obtain ⟨k, hk, rfl, hq⟩ := hrel
      by_cases hlt : k < n
      · have hpos : 0 < zs.length := by have := HN.out; omega
        obtain ⟨b1, o1, e1, p1⟩ := byte_at HC1.out hpos
        obtain ⟨b2, o2, e2, p2⟩ := byte_at HC2.out hpos
        have hc : ∀ a, wr.cell? a = w.cell? a := by obtain ⟨q, rfl⟩ := hq.out; intro a; rfl
        have q1 : wr.cell? ⟨b1, o1 + k, none⟩ = some (.int .u8 (zs[k]?.getD 0)) := (hc _).trans (p1 k (by have := HN.out; omega))
        have q2 : wr.cell? ⟨b2, o2 + k, none⟩ = some (.int .u8 (zs[k]?.getD 0)) := (hc _).trans (p2 k (by have := HN.out; omega))
        rw [e1, e2]
        clear hc p1 p2 e1 e2 hnil1 hnil2
        generalize zs[k]?.getD 0 = zk at q1 q2
        have hki : (k : Int) < (n : Int) := by omega
        go_wp2
        go_quiet (fail)
        go_wp2
        go_roundw
        case rel => first | exact ⟨k + 1, by omega, by go_num, drewN_more hq.out _⟩ | ((repeat apply Exists.intro); exact ⟨⟨k + 1, by omega, by go_num, drewN_more hq.out _⟩, rfl⟩)
        case measure => simp [intOf]; omega
      · go_wp2
        go_ret
        exact ⟨rfl, hq.out⟩
end Go.Proofs.Qxb6604391a.Aces
