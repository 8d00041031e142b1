/-
  SHARED BY TWO LAWS: what 'inheritedFlags', 'ZZinheritedFlags' and 'inheritTable' compute, as plain functions; the plain laws by a look at all 256 flag bytes.
-/
import Derived.Test.Qxb6604391aRows
import Derived.WalkKit
import Derived.ProofKit
import Derived.OpenShut
namespace Go.Proofs.Qxb6604391a.Flags
open Go.RowKit
/-- Is one of the bits k set in f? -/
def t (k f : Int) : Bool := bits .and .u8 f k != 0
/-- Does an ACE with flags f pass to a child? -/
def ps (f : Int) (c : Bool) : Bool := if c then t 2 f || (t 1 f && !t 4 f) else t 1 f
/-- The copy's flags. -/
def fl (f : Int) (c : Bool) : Int :=
  if c then
    if t 2 f then (if t 4 f then bits .or .u8 16 (bits .and .u8 f 192) else bits .or .u8 (bits .or .u8 16 (bits .and .u8 f 192)) (bits .and .u8 f 3))
    else if t 1 f && !t 4 f then bits .or .u8 (bits .or .u8 (bits .or .u8 16 (bits .and .u8 f 192)) 1) 8 else 0
  else if t 1 f then bits .or .u8 16 (bits .and .u8 f 192) else 0
theorem ne_of_eq {f k : Int} {b : Bool} (h : (bits .and .u8 f k == 0) = b) : (bits .and .u8 f k != 0) = !b := by simp [bne, h]

set_option maxHeartbeats 400000 in
/-- inheritedFlags. -/
theorem flags_any (f : Int) (c : Bool) (w : World) :
    Calls Try.prog 24 #[.int .u8 f, .bool c] w fun e w' => e = .returned (.tuple #[.int .u8 (fl f c), .bool (ps f c)]) ∧ w' = w := by
  cases c
  · cases h1 : (bits .and .u8 f 1 != 0)
    all_goals
      go_enter Try.func24, Try.ntmps24
      go_wp2
      go_ret2
      exact ⟨by simp [fl, ps, t, h1], rfl⟩
  · cases h2 : (bits .and .u8 f 2 != 0)
    · cases h1 : (bits .and .u8 f 1 != 0)
      · go_enter Try.func24, Try.ntmps24
        go_wp2
        go_ret2
        exact ⟨by simp [fl, ps, t, h1, h2], rfl⟩
      · cases h4 : (bits .and .u8 f 4 == 0)
        all_goals
          go_enter Try.func24, Try.ntmps24
          go_wp2
          go_ret2
          exact ⟨by simp [fl, ps, t, h1, h2, ne_of_eq h4], rfl⟩
    · cases h4 : (bits .and .u8 f 4 == 0)
      all_goals
        go_enter Try.func24, Try.ntmps24
        go_wp2
        go_ret2
        exact ⟨by simp [fl, ps, t, h2, ne_of_eq h4], rfl⟩

/-- ZZinheritedFlags. -/
theorem zz_any (f : Int) (c : Bool) (w : World) :
    Calls Try.prog 15 #[.int .u8 f, .bool c] w fun e w' => e = .returned (.tuple #[.int .u8 (fl f c), .bool (ps f c)]) ∧ w' = w := by
  go_enter Try.func15, Try.ntmps15
  go_wp2_with (go_at_call 24; refine (flags_any _ _ _).mono ?_; rintro e w' ⟨rfl, rfl⟩)
  go_ret2
  exact ⟨rfl, rfl⟩

/-- The table: the copy's flags without the two audit bits; does it pass? -/
def tb (n : Int) (c : Bool) : Int × Bool :=
  if c then (if n == 1 then (25, true) else if n == 2 then (18, true) else if n == 3 then (19, true) else if n == 6 then (16, true) else if n == 7 then (16, true) else (0, false))
  else (if n == 1 then (16, true) else if n == 3 then (16, true) else if n == 5 then (16, true) else if n == 7 then (16, true) else (0, false))

set_option maxHeartbeats 400000 in
/-- inheritTable, at a number of three bits. -/
theorem table_any (n : Int) (c : Bool) (h0 : 0 ≤ n) (h7 : n ≤ 7) (w : World) :
    Calls Try.prog 16 #[.int .u8 n, .bool c] w fun e w' => e = .returned (.tuple #[.int .u8 (tb n c).1, .bool (tb n c).2]) ∧ w' = w := by
  obtain h | h | h | h | h | h | h | h : n = 0 ∨ n = 1 ∨ n = 2 ∨ n = 3 ∨ n = 4 ∨ n = 5 ∨ n = 6 ∨ n = 7 := by omega
  all_goals
    subst h
    cases c
    all_goals
      go_enter Try.func16, Try.ntmps16
      go_wp2
      go_ret2
      exact ⟨rfl, rfl⟩

/-- Every byte, by a look at all 256. -/
theorem all256 {p : Int → Bool} (h : (List.range 256).all (fun n => p n) = true) (a : Int) (w : (Lit.int .u8 a).wf = true) : p a = true := by
  have hb := bounds_u8 w
  obtain ⟨n, rfl⟩ := Int.eq_ofNat_of_zero_le hb.1
  exact List.all_eq_true.1 h n (List.mem_range.2 (by omega))

/-- THE PLAIN LAW of the second statement: 'one level down'. -/
def downB (f : Int) (c : Bool) : Bool :=
  if ps f true then
    !(bits .and .u8 (fl f true) 16 == 0) && !(bits .and .u8 (fl f true) 192 != bits .and .u8 f 192) && !(bits .and .u8 (fl f true) 36 != 0)
      && (if t 4 f then !ps (fl f true) c && fl (fl f true) c == 0 else ps (fl f true) c == ps f c && fl (fl f true) c == fl f c)
  else fl f true == 0
theorem down (f : Int) (c : Bool) (w : (Lit.int .u8 f).wf = true) : downB f c = true := by
  cases c
  · exact all256 (p := fun f => downB f false) (by decide +kernel) f w
  · exact all256 (p := fun f => downB f true) (by decide +kernel) f w

/-- THE PLAIN LAW of the first statement: the table. -/
def tabB (f : Int) (c : Bool) : Bool :=
  decide (0 ≤ bits .and .u8 f 7) && decide (bits .and .u8 f 7 ≤ 7) &&
    if (tb (bits .and .u8 f 7) c).2 then ps f c && fl f c == bits .or .u8 (tb (bits .and .u8 f 7) c).1 (bits .and .u8 f 192) else !ps f c && fl f c == 0
theorem tab (f : Int) (c : Bool) (w : (Lit.int .u8 f).wf = true) : tabB f c = true := by
  cases c
  · exact all256 (p := fun f => tabB f false) (by decide +kernel) f w
  · exact all256 (p := fun f => tabB f true) (by decide +kernel) f w
end Go.Proofs.Qxb6604391a.Flags
