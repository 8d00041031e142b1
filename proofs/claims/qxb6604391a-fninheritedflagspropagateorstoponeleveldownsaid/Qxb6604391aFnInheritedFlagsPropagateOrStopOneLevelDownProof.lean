/-
  'FnInheritedFlagsPropagateOrStopOneLevelDown': the walk, and the row's step by the guide's template (proof-skeleton.mjs).
-/
import Derived.Test.Qxb6604391aRows
import Derived.WalkKit
import Derived.ProofKit
import Derived.OpenShut
import Derived.ShutString
import Derived.Test.Qxb6604391aFlags
namespace Go.Proofs.Qxb6604391a.fnInheritedFlagsPropagateOrStopOneLevelDown
open Go.ChangeShapes Go.WideShapes Go.ChangeAt Go.RowKit
open Go.ChangeMaps (open_string shut_string)
set_option linter.unusedVariables false      -- a walk need not use every 'w<i>' (that an integer argument fits its kind)

theorem own : ownKnob Try.prog.godebug = none := by kernel_rfl

/-- The plain law's limbs, the mark 'no propagate' not set. -/
theorem parts_no {a b d e : Bool} {x y : Int} {p : Bool} (h : (if true = true then !a && !b && !d && (if (!true) = true then !p && x == 0 else p == e && x == y) else y == 0) = true) : a = false ∧ b = false ∧ d = false ∧ p = e ∧ x = y := by
  simpa [and_assoc] using h
/-- The plain law's limbs, the mark set. -/
theorem parts_yes {a b d e : Bool} {x y : Int} {p : Bool} (h : (if true = true then !a && !b && !d && (if (!false) = true then !p && x == 0 else p == e && x == y) else y == 0) = true) : a = false ∧ b = false ∧ d = false ∧ p = false ∧ (x == 0) = true := by
  simpa [and_assoc] using h

/-! ### STEP 1: THE WALK: the Go text returns true. 'Grown w w'': the world has at most new blocks (Derived/RowKit3.lean). Part the cases AHEAD of 'go_enter' where a test parts the walk; take each callee by a contract of your own. -/
theorem walk (a0 : Int) (a1 : Bool) (w0 : (Lit.int .u8 a0).wf = true) (w : World) :
    Calls Try.prog 5 #[.int .u8 a0, .bool a1] w fun e w' => e = .returned (.bool true) ∧ Grown w w' := by
  have hl := Flags.down a0 a1 w0
  unfold Flags.downB at hl
  have hps : Flags.ps a0 true = (Flags.t 2 a0 || (Flags.t 1 a0 && !Flags.t 4 a0)) := rfl
  unfold Flags.t at hl hps
  cases h2 : (bits .and .u8 a0 2 != 0)
  · cases h1 : (bits .and .u8 a0 1 != 0)
    · have hp : Flags.ps a0 true = false := by rw [hps, h2, h1]; rfl
      rw [hp] at hl
      have hg : (Flags.fl a0 true == 0) = true := by simpa using hl
      clear hl hps
      go_enter Try.func5, Try.ntmps5
      go_wp2_with (go_at_call 15; refine (Flags.zz_any _ _ _).mono ?_; rintro e w' ⟨rfl, rfl⟩)
      go_ret
      exact ⟨rfl, Grown.refl _⟩
    · cases h4 : (bits .and .u8 a0 4 == 0)
      · have hp : Flags.ps a0 true = false := by rw [hps, h2, h1, Flags.ne_of_eq h4]; rfl
        rw [hp] at hl
        have hg : (Flags.fl a0 true == 0) = true := by simpa using hl
        clear hl hps
        go_enter Try.func5, Try.ntmps5
        go_wp2_with (go_at_call 15; refine (Flags.zz_any _ _ _).mono ?_; rintro e w' ⟨rfl, rfl⟩)
        go_ret
        exact ⟨rfl, Grown.refl _⟩
      · have hp : Flags.ps a0 true = true := by rw [hps, h2, h1, Flags.ne_of_eq h4]; rfl
        have h4' := Flags.ne_of_eq h4
        rw [hp, h4'] at hl
        obtain ⟨k16, k192, k36, kp, kf⟩ := parts_no hl
        clear hl hps
        go_enter Try.func5, Try.ntmps5
        go_wp2_with (go_at_call 15; refine (Flags.zz_any _ _ _).mono ?_; rintro e w' ⟨rfl, rfl⟩)
        go_ret
        exact ⟨by simp, Grown.refl _⟩
  · cases h4 : (bits .and .u8 a0 4 == 0)
    · have hp : Flags.ps a0 true = true := by rw [hps, h2]; rfl
      have h4' := Flags.ne_of_eq h4
      rw [hp, h4'] at hl
      obtain ⟨k16, k192, k36, kp, kf⟩ := parts_yes hl
      clear hl hps
      go_enter Try.func5, Try.ntmps5
      go_wp2_with (go_at_call 15; refine (Flags.zz_any _ _ _).mono ?_; rintro e w' ⟨rfl, rfl⟩)
      go_ret
      exact ⟨by simp, Grown.refl _⟩
    · have hp : Flags.ps a0 true = true := by rw [hps, h2]; rfl
      have h4' := Flags.ne_of_eq h4
      rw [hp, h4'] at hl
      obtain ⟨k16, k192, k36, kp, kf⟩ := parts_no hl
      clear hl hps
      go_enter Try.func5, Try.ntmps5
      go_wp2_with (go_at_call 15; refine (Flags.zz_any _ _ _).mono ?_; rintro e w' ⟨rfl, rfl⟩)
      go_ret
      exact ⟨by simp, Grown.refl _⟩

/-! ### THE ROW's STEP: WRITTEN OUT: LEAVE IT -/
set_option maxRecDepth 100000 in
theorem lifted (os : Os) (started : os.Started) (H : Type) (enc : TypeId × Value → H) :
    ReturnsInHanded {} Try.checked os 5 .any (Rows.fnInheritedFlagsPropagateOrStopOneLevelDownSpec.pre6 enc Try.prog Try.f5 Rows.fnInheritedFlagsPropagateOrStopOneLevelDownRow.domain false) (Rows.fnInheritedFlagsPropagateOrStopOneLevelDownSpec.post enc Try.prog Try.f5 false true false false) := by
  refine returnsInHanded_of_change (C := Try.checked) own started (by kernel_rfl) Try.func5
    (ChangeSpec.witness6 (enc := enc) (C := Try.checked) false ⟨#[], #[.int .u8 0, .bool false], []⟩ 8 (by kernel_rfl) (by kernel_rfl) (by kernel_rfl) (by kernel_rfl)) ?_
  intro W base args ds gs before hval0 hW hcnd _
  have hval : ∀ (j : Nat) t v, Try.f5.params[j]? = some t → args[j]? = some v → Value.okWide Try.prog W .any base t v := hval0
  have hW' := hW
  obtain ⟨p, q, hA0, hV, rfl, hfz, hnd⟩ := hW
  have hA : DataW.TrodAll enc Try.prog W 0 (fun _ => true) true Try.f5.params.toList args.toList ds p := hA0
  rw [Try.params5] at hA hval
  obtain ⟨v0, vs0, d0, ds0, p0, q0, hargs, rfl, rfl, h0, r0⟩ := trodAll_cons hA
  obtain ⟨v1, vs1, d1, ds1, p1, q1, rfl, rfl, rfl, h1, r1⟩ := trodAll_cons r0
  obtain ⟨rfl, rfl, rfl⟩ := trodAll_nil r1
  obtain rfl : args = #[v0, v1] := by cases args; simp_all
  obtain ⟨rfl, rfl⟩ := trodVars_none hV
  obtain ⟨a0, rfl, rfl, rfl, w0⟩ := open_int Try.underlying5 (hval 0 5 v0 rfl rfl) h0
  obtain ⟨a1, rfl, rfl, rfl⟩ := open_bool Try.underlying4 (hval 1 4 v1 rfl rfl) h1
  clear hA0 hval0
  simp only [List.append_nil] at hW'
  refine (walk a0 a1 w0 W).mono fun e W' ⟨he, hg⟩ => ?_
  subst he
  exact ⟨_, rfl, post_of_same (pa := []) (pv := []) hW' (fun _ _ _ => (trodAll_cons_mk (shut_bool Try.underlying4 _) trodAll_mk0)) (fun sp _ => (trodAll_cons_mk (shut_int Try.underlying5 w0) (trodAll_cons_mk (shut_bool Try.underlying4 _) trodAll_mk0))) (fun _ _ => rfl) rfl
    (hg.frame _) hg.2.1 (ok_one (by kernel_rfl) rfl (okWide_bool_mk Try.underlying4 _))⟩

theorem over : Rows.fnInheritedFlagsPropagateOrStopOneLevelDownRow.holds Try.pinned (OpenSpec.ofChange Rows.fnInheritedFlagsPropagateOrStopOneLevelDownSpec) :=
  OpenClaim.holds_of_wide 5 Try.f5 rfl rfl rfl rfl rfl rfl rfl ⟨rfl, rfl, rfl, rfl, rfl⟩ rfl rfl rfl rfl rfl (by kernel_rfl) Try.func5 (by kernel_rfl)
    (of_decide_eq_true (by kernel_rfl)) (by unfold Func.isWrapper; first | (rw [if_pos (by decide +kernel)]; kernel_rfl) | (rw [if_neg (by decide +kernel)]; exact ⟨rfl, rfl⟩))
    (fun os started H enc _ => lifted os started H enc)

/-- ████ THE STATEMENT ████ -/
theorem proved : Rows.FnInheritedFlagsPropagateOrStopOneLevelDownSaid :=
  over
#print axioms proved
end Go.Proofs.Qxb6604391a.fnInheritedFlagsPropagateOrStopOneLevelDown
