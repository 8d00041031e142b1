/-
  SHARED: the laws' own bound on the sum of their arguments' lengths.
-/
import Derived.Test.Qxb6604442aRows
import Derived.WalkKit
import Derived.ProofKit
import Derived.OpenShut
namespace Go.Proofs.Qxb6604442a.Bytes
open Go.RowKit
/-- Do the lengths sum to at most 1<<20? -/
def okB (n p r m : Nat) : Bool := decide (n + p + r + m ≤ 1048576)
set_option maxHeartbeats 400000 in
theorem sizes7 (a : Option Addr) (n c : Nat) (p r m : ByteArray) (x y z : Int) (w : World) (hn : n ≤ maxLen) (hp : p.size ≤ maxLen) (hr : r.size ≤ maxLen) (hm : m.size ≤ maxLen) :
    Calls Try.prog 32 #[.slice a n c, .string p, .int .i64 x, .int .i64 y, .int .i64 z, .string r, .string m] w fun e w' => e = .returned (.bool (okB n p.size r.size m.size)) ∧ w' = w := by
  unfold maxLen at hn hp hr hm
  go_enter Try.func32, Try.ntmps32
  go_wp2
  all_goals go_ret
  all_goals refine ⟨?_, rfl⟩
  all_goals first | (have h : okB n p.size r.size m.size = true := decide_eq_true (by omega); rw [h]; rfl) | (have h : okB n p.size r.size m.size = false := decide_eq_false (by omega); rw [h]; rfl)
set_option maxHeartbeats 400000 in
theorem sizes6 (a : Option Addr) (n c : Nat) (p r m : ByteArray) (x y z : Int) (w : World) (hn : n ≤ maxLen) (hp : p.size ≤ maxLen) (hr : r.size ≤ maxLen) (hm : m.size ≤ maxLen) :
    Calls Try.prog 27 #[.slice a n c, .string p, .int .i64 x, .int .i64 y, .int .i64 z, .string r, .string m] w fun e w' => e = .returned (.bool (okB n p.size r.size m.size)) ∧ w' = w := by
  unfold maxLen at hn hp hr hm
  go_enter Try.func27, Try.ntmps27
  go_wp2
  all_goals go_ret
  all_goals refine ⟨?_, rfl⟩
  all_goals first | (have h : okB n p.size r.size m.size = true := decide_eq_true (by omega); rw [h]; rfl) | (have h : okB n p.size r.size m.size = false := decide_eq_false (by omega); rw [h]; rfl)
end Go.Proofs.Qxb6604442a.Bytes
