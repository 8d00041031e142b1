/-
  THE CALLEES OF THE LAW: zzOutOfSpan, ZZallows, (allowance).allows: what each computes.
-/
import Derived.Test.Qxb6604542aRows
import Derived.WalkKit
import Derived.ProofKit
import Derived.OpenShut
namespace Go.Proofs.Qxb6604542a.Allows
open Go.RowKit
/-- x is out of the law's span. -/
def outB (x : Int) : Bool := decide (1073741824 < x) || decide (x < -1073741824)
theorem out_any (x : Int) (w : World) : Calls Try.prog 4 #[.int .i64 x] w fun e w' => e = .returned (.bool (outB x)) ∧ w' = w := by
  by_cases h : 1073741824 < x
  · go_enter Try.func4, Try.ntmps4
    go_wp2
    go_ret
    exact ⟨by simp [outB, h], rfl⟩
  · have h' : decide (1073741824 < x) = false := by simpa using h
    go_enter Try.func4, Try.ntmps4
    go_wp2
    go_ret
    exact ⟨by simp [outB, h'], rfl⟩
/-- What may be taken: behind 'free' bytes 'per' more a byte. -/
def allowB (l p f s b : Int) : Bool := if b < f then decide (s ≤ l) else decide (s ≤ l + p * (b - f))
theorem mul_bd (p d : Int) (hp : -1073741824 ≤ p) (hp' : p ≤ 1073741824) (hd : 0 ≤ d) (hd' : d ≤ 2147483649) : -2305843010287435776 ≤ p * d ∧ p * d ≤ 2305843010287435776 := by
  have h1 : p * d ≤ 1073741824 * d := Int.mul_le_mul_of_nonneg_right hp' hd
  have h2 : -1073741824 * d ≤ p * d := Int.mul_le_mul_of_nonneg_right hp hd
  omega
theorem allows_any (l p f s b : Int) (hl : -1073741824 ≤ l) (hl' : l ≤ 1073741824) (hp : -1073741824 ≤ p) (hp' : p ≤ 1073741824) (hf : -1073741824 ≤ f) (hf' : f ≤ 1073741824) (hb : -1073741824 ≤ b) (hb' : b ≤ 1073741825) (w : World) :
    Calls Try.prog 6 #[.agg #[.int .i64 l, .int .i64 p, .int .i64 f], .int .i64 s, .int .i64 b] w fun e w' => e = .returned (.bool (allowB l p f s b)) ∧ ∃ c : Array Value, w' = w.alloc (.cells c 25) := by
  by_cases h : b < f
  · have hd : b - f < 0 := by omega
    go_enter Try.func6, Try.ntmps6
    go_wp2
    go_ret
    exact ⟨by simp [allowB, h], _, rfl⟩
  · obtain ⟨m1, m2⟩ := mul_bd p (b - f) hp hp' (by omega) (by omega)
    have hd : 0 ≤ b - f := by omega
    go_enter Try.func6, Try.ntmps6
    go_wp2
    go_ret
    exact ⟨by rw [allowB, if_neg (by omega)]; rfl, _, rfl⟩
/-- ZZallows. -/
theorem zz_any (l p f s b : Int) (hl : -1073741824 ≤ l) (hl' : l ≤ 1073741824) (hp : -1073741824 ≤ p) (hp' : p ≤ 1073741824) (hf : -1073741824 ≤ f) (hf' : f ≤ 1073741824) (hb : -1073741824 ≤ b) (hb' : b ≤ 1073741825) (w : World) :
    Calls Try.prog 5 #[.int .i64 l, .int .i64 p, .int .i64 f, .int .i64 s, .int .i64 b] w fun e w' => e = .returned (.bool (allowB l p f s b)) ∧ ∃ c : Array Value, w' = w.alloc (.cells c 25) := by
  go_enter Try.func5, Try.ntmps5
  go_wp2_with (go_at_call 6; refine (allows_any _ _ _ _ _ hl hl' hp hp' hf hf' hb hb' _).mono ?_; rintro e w' ⟨rfl, c, rfl⟩)
  go_ret
  exact ⟨rfl, _, rfl⟩

/-! ### THE PLAIN LAW -/
theorem at_free (l p f : Int) : allowB l p f l f = true := by simp [allowB]
theorem at_free' (l p f : Int) : allowB l p f (l + 1) f = false := by simp [allowB]; omega
theorem behind (l p f s b : Int) (h : f ≤ b) : allowB l p f (s + p) (b + 1) = allowB l p f s b := by
  unfold allowB
  rw [if_neg (by omega), if_neg (by omega)]
  have e : p * (b + 1 - f) = p * (b - f) + p := by rw [show b + 1 - f = (b - f) + 1 by omega, Int.mul_add, Int.mul_one]
  rw [e, decide_eq_decide]
  omega
theorem ahead (l p f s b : Int) (h : b < f) : allowB l p f s (b + 1) = allowB l p f s b := by
  unfold allowB
  rw [if_pos h]
  by_cases h' : b + 1 < f
  · rw [if_pos h']
  · rw [if_neg h', show b + 1 - f = 0 by omega]; simp
theorem in_span {x : Int} (h : outB x = false) : -1073741824 ≤ x ∧ x ≤ 1073741824 := by
  simp [outB] at h; omega
end Go.Proofs.Qxb6604542a.Allows
