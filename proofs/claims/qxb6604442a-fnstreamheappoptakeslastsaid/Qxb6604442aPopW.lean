/-
  (*streamHeap).Pop and the law's readers, by what they do.
-/
import Derived.Test.Qxb6604442aPtrs
import Derived.Deep.QuietTactic
import Derived.BigQuiet
import Derived.RegionTactic
import Derived.BigRegion
import Derived.WalkSmall
import Derived.WalkSpells
import Derived.Laws.Pointers
namespace Go.Proofs.Qxb6604442a.Pop
open Go.RowKit
set_option maxHeartbeats 1000000 in
set_option maxRecDepth 100000 in
theorem pop_any (H g m cap b : Nat) (w : World) (hm : m ≤ 65536) (hne : H ≠ g) (cH : w.cell? ⟨H, 0, none⟩ = some (.slice (some ⟨g, 0, none⟩) (m + 1) cap)) (fH : w.frozen? ⟨H, 0, none⟩ = false) (hcap : m + 1 ≤ cap) (cR : w.cell? ⟨g, m, none⟩ = some (.pointer (some ⟨b, 0, none⟩))) (fR : w.frozen? ⟨g, m, none⟩ = false) :
    Calls Try.prog 35 #[.pointer (some ⟨H, 0, none⟩)] w fun e w' => e = .returned (.iface 48 (.pointer (some ⟨b, 0, none⟩))) ∧ ∃ q, w' = ((w.setCell ⟨g, m, none⟩ (.pointer none)).setCell ⟨H, 0, none⟩ (.slice (some ⟨g, 0, none⟩) m cap)).drewN q := by
  have hi : (m : Int) < (m : Int) + 1 := by omega
  have hi' : m < m + 1 := by omega
  have ht : ((m : Int) + 1 - 1) = (m : Int) := by omega
  go_enter Try.func35, Try.ntmps35
  go_wp2
  go_quiet (fail)
  go_wp2
  go_region
  go_wp2
  go_region
  go_wp2
  go_ret
  exact ⟨rfl, nq + 2, rfl⟩

/-- A pointer to a stream, asked for as one. -/
theorem as48 (v : Value) (w : World) : (Instr.typeAssert (.iface 48 v) 20 48 true).run Try.prog w = .ok (.tuple #[v, .bool true]) w := by kernel_rfl
set_option maxHeartbeats 400000 in
/-- ZZpopStream. -/
theorem popS_any (H g m cap b : Nat) (w : World) (hm : m ≤ 65536) (hne : H ≠ g) (cH : w.cell? ⟨H, 0, none⟩ = some (.slice (some ⟨g, 0, none⟩) (m + 1) cap)) (fH : w.frozen? ⟨H, 0, none⟩ = false) (hcap : m + 1 ≤ cap) (cR : w.cell? ⟨g, m, none⟩ = some (.pointer (some ⟨b, 0, none⟩))) (fR : w.frozen? ⟨g, m, none⟩ = false) :
    Calls Try.prog 23 #[.pointer (some ⟨H, 0, none⟩)] w fun e w' => e = .returned (.pointer (some ⟨b, 0, none⟩)) ∧ ∃ q, w' = ((w.setCell ⟨g, m, none⟩ (.pointer none)).setCell ⟨H, 0, none⟩ (.slice (some ⟨g, 0, none⟩) m cap)).drewN q := by
  have has := as48
  go_enter Try.func23, Try.ntmps23
  go_wp2_with fail
  refine (pop_any H g m cap b w hm hne cH fH hcap cR fR).mono ?_
  rintro e w1 ⟨rfl, HQ⟩
  have HQ : Hid (∃ q, w1 = ((w.setCell ⟨g, m, none⟩ (.pointer none)).setCell ⟨H, 0, none⟩ (.slice (some ⟨g, 0, none⟩) m cap)).drewN q) := HQ
  rename_i HQ0
  clear HQ0 cH fH cR fR
  go_wp2
  go_ret
  exact ⟨rfl, HQ.out⟩

/-- ZZstreamSize. -/
theorem size_any (b : Nat) (z : Int) (w : World) (c : w.cell? ⟨b, 7, none⟩ = some (.int .i64 z)) :
    Calls Try.prog 24 #[.pointer (some ⟨b, 0, none⟩)] w fun e w' => e = .returned (.int .i64 z) ∧ w' = w := by
  go_enter Try.func24, Try.ntmps24
  go_wp2
  go_ret
  exact ⟨rfl, rfl⟩

/-- ZZstreamHeapLen. -/
theorem len_any (H : Nat) (a : Option Addr) (m cap : Nat) (w : World) (c : w.cell? ⟨H, 0, none⟩ = some (.slice a m cap)) :
    Calls Try.prog 25 #[.pointer (some ⟨H, 0, none⟩)] w fun e w' => e = .returned (.int .i64 m) ∧ w' = w := by
  go_enter Try.func25, Try.ntmps25
  go_wp2
  go_ret
  exact ⟨rfl, rfl⟩

/-- ZZstreamAt. -/
theorem at_any (H g m cap i b : Nat) (w : World) (hi : i < m) (c : w.cell? ⟨H, 0, none⟩ = some (.slice (some ⟨g, 0, none⟩) m cap)) (cR : w.cell? ⟨g, i, none⟩ = some (.pointer (some ⟨b, 0, none⟩))) :
    Calls Try.prog 26 #[.pointer (some ⟨H, 0, none⟩), .int .i64 i] w fun e w' => e = .returned (.pointer (some ⟨b, 0, none⟩)) ∧ w' = w := by
  have hi' : (i : Int) < (m : Int) := by omega
  go_enter Try.func26, Try.ntmps26
  go_wp2
  go_ret
  exact ⟨rfl, rfl⟩

/-- The law's own bound. -/
def okN (n : Nat) : Bool := decide (n ≤ 1048576)
/-- zzBytes_..: the law's own bound. -/
theorem bytes_any (a : Option Addr) (n c : Nat) (w : World) (hn : n ≤ maxLen) :
    Calls Try.prog 19 #[.slice a n c] w fun e w' => e = .returned (.bool (okN n)) ∧ w' = w := by
  unfold maxLen at hn
  go_enter Try.func19, Try.ntmps19
  go_wp2
  all_goals go_ret
  all_goals refine ⟨?_, rfl⟩
  all_goals first | (have h : okN n = true := decide_eq_true (by omega); rw [h]; rfl) | (have h : okN n = false := decide_eq_false (by omega); rw [h]; rfl)
end Go.Proofs.Qxb6604442a.Pop
