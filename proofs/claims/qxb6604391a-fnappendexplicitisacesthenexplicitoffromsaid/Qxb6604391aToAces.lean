/-
  toACEs.
-/
import Derived.Test.Qxb6604391aToAce
namespace Go.Proofs.Qxb6604391a.Aces
open Go.RowKit
/-- k elements of the new row are filled; their bytes lie where they lay. -/
def Part2 (w : World) (N : Nat) (wr : World) (n k : Nat) (ns : Nat → List Int) (d : Nat → Option (List Int)) : Prop :=
  wr.there N 0 (n * 59) ∧ ∀ i, i < k → ∃ dv, El wr N (i * 59) (ns i) dv ∧ Dat 0 w dv (d i)
theorem toaces_step {w wr w2 : World} {n k : Nat} {ns : Nat → List Int} {d : Nat → Option (List Int)} {dv : Value} (h : Part2 w w.heap.size wr n k ns d) (hb : Below w.heap.size w wr) (hk : k < n) (hF : Fit (ns k)) (hD : Dat 0 w dv (d k)) (hb2 : Below wr.heap.size wr w2) :
    w2.there w.heap.size (k * 59) 59 ∧ Part2 w w.heap.size (w2.setCells w.heap.size (k * 59) (cs (ns k) ++ [dv])) n (k + 1) ns d ∧ Below w.heap.size w (w2.setCells w.heap.size (k * 59) (cs (ns k) ++ [dv])) := by
  obtain ⟨ht, hi⟩ := h
  have hkn : (k + 1) * 59 ≤ n * 59 := Nat.mul_le_mul_right 59 hk
  have hlt := there_lt ht (by omega)
  have ht2 := there_below ht hb2
  have hlen : (cs (ns k) ++ [dv]).length = 59 := by rw [List.length_append, cs_len hF]; rfl
  have hts := there_sub ht2 (k * 59) 59 (by omega)
  refine ⟨hts, ⟨World.there_setCells ht2 _ _ _, ?_⟩, (hb.trans (hb2.mono (by omega))).trans (Lib.below_setCells_w (Nat.le_refl _) _ _ _)⟩
  intro i hi'
  by_cases hik : i = k
  · subst hik
    exact ⟨dv, ⟨hF, World.rangeAt_setCells_same _ _ _ _ (by rw [hlen]; exact hts)⟩, hD⟩
  · obtain ⟨dvi, hEi, hDi⟩ := hi i (by omega)
    have hik' : (i + 1) * 59 ≤ k * 59 := Nat.mul_le_mul_right 59 (by omega)
    exact ⟨dvi, (hEi.below hb2).put _ _ (.inr (.inl (by omega))), hDi⟩

set_option maxHeartbeats 2000000 in
set_option maxRecDepth 100000 in
theorem toaces_some (a : Addr) (n c : Nat) (w : World) (ns : Nat → List Int) (d : Nat → Option (List Int)) (hn : n ≤ 65536) (hr : Row w (some a) n ns d) :
    Calls Try.prog 12 #[.slice (some a) n c] w fun e w' => e = .returned (.slice (some ⟨w.heap.size, 0, none⟩) n n) ∧ Row w' (some ⟨w.heap.size, 0, none⟩) n ns d ∧ Below w.heap.size w w' := by
  obtain ⟨i0, z, hi, hz0, hz1, hz2, hz3⟩ := parts59 info43'
  have hnil := fun w' : World => Lib.run_eql_slice_nil (P := Try.prog) w' 22 47 (some a) n c 0 0 Try.underlying22
  have HR : Hid (Row w (some a) n ns d) := hr
  clear hr
  go_enter Try.func12, Try.ntmps12
  go_wp2_with (at_make; refine wpList_make_full _ rfl _ _ 27 rfl w.heap.size 43 i0 (.agg z) 59 Try.underlying27 hi hz0 hz1 .i64 .i64 _ _ n rfl rfl rfl rfl ?c1 ?c2 ?c3 ?_)
  case c1 => rw [hz2]; omega
  case c2 => unfold maxLen; omega
  case c3 => simp
  intro w1 hown1 hg1
  have HP : Hid (Part2 w w.heap.size w1 n 0 ns d) := ⟨there_of_own hown1, fun i h => by omega⟩
  have HB : Hid (Below w.heap.size w w1) := (Below.refl _ _).grown hg1 (Nat.le_refl _) (by simp)
  clear hown1 hg1 hi hz0 hz1 hz2 hz3
  go_wp2
  go_loopw [4] (fun i wr => ∃ k : Nat, k ≤ n ∧ i = .int .i64 k ∧ Hid (Part2 w w.heap.size wr n k ns d) ∧ Hid (Below w.heap.size w wr)) (fun i _ => n - (intOf i).toNat)
  case atStart => exact ⟨0, Nat.zero_le _, rfl, HP, HB⟩
  case round =>
    obtain ⟨k, hk, rfl, HPr, HBr⟩ := hrel
    clear HP HB
    by_cases hlt : k < n
    · obtain ⟨b, o, dv, ha, hE, hDt⟩ := HR.out k hlt
      rw [ha]
      have hki : (k : Int) < (n : Int) := by omega
      have hF : Hid (Fit (ns k)) := hE.1
      obtain ⟨a', cap', hv', _⟩ := hDt.shape
      obtain ⟨L, hL⟩ : ∃ L, L = cs (ns k) ++ [dv] := ⟨_, rfl⟩
      have hl59 : L.length = 59 := by rw [hL, List.length_append, cs_len hE.1]; rfl
      have HONE : Hid (L.toArray.all (·.oneCell') = true) := by
        refine all_oneCell_toArray fun v hv => ?_
        rw [hL] at hv
        rcases List.mem_append.1 hv with h | h
        · exact cs_one v h
        · obtain rfl : v = dv := by simpa using h
          rw [hv']; rfl
      have HRg : Hid (wr.rangeAt b (o + k * 59) L) := by rw [hL]; exact (hE.below HBr.out).2
      have HLs : Hid (L.toArray.size = 59) := by rw [List.size_toArray]; exact hl59
      have HSz : Hid ((Try.prog.info? 47).map (·.size) = some L.length) := by rw [hl59]; exact size47
      have HSz' : Hid ((Try.prog.info? 43).map (·.size) = some L.toArray.size) := by rw [HLs.out]; exact size43
      have HC : Hid (Calls Try.prog 21 #[.agg L.toArray] wr fun e w' => e = .returned (.agg L.toArray) ∧ Below wr.heap.size wr w') := by
        rw [hL, hv']
        exact ace_any (ns k) a' (dlen (d k)) cap' wr hE.1
      have HLe : Hid (L = cs (ns k) ++ [dv]) := hL
      have HDt : Hid (Dat 0 w dv (d k)) := hDt
      clear hE hDt hl59 ha hL hv'
      go_wp2_with (refine wpList_load_mid rfl 47 (.tmp 20) rfl b (o + k * 59) rfl L _ HRg.out Try.underlying47 rfl HSz.out ?_)
      refine HC.out.mono ?_
      rintro e w2 ⟨rfl, hb2⟩
      have R := toaces_step HPr.out HBr.out hlt hF.out HDt.out hb2
      rw [← HLe.out] at R
      have HT' : Hid (w2.there w.heap.size (k * 59) L.toArray.size) := by rw [HLs.out]; exact R.1
      have HP2 : Hid (Part2 w w.heap.size (w2.setCells w.heap.size (k * 59) L) n (k + 1) ns d) := R.2.1
      have HB2 : Hid (Below w.heap.size w (w2.setCells w.heap.size (k * 59) L)) := R.2.2
      clear R hb2 HC HRg HLs HSz HLe HDt hF HPr HBr
      go_wp2_with (refine wpList_store_mid rfl 43 (.tmp 23) (.tmp 22) rfl w.heap.size (k * 59) L.toArray rfl rfl HT'.out HSz'.out HONE.out ?_)
      go_roundw
      case rel => first | exact ⟨k + 1, by omega, by go_num, HP2, HB2⟩ | ((repeat apply Exists.intro); exact ⟨⟨k + 1, by omega, by go_num, HP2, HB2⟩, rfl⟩)
      case measure => simp [intOf]; omega
    · obtain rfl : k = n := by omega
      go_wp2
      go_ret
      refine ⟨rfl, fun i hi => ?_, HBr.out⟩
      obtain ⟨dv, hE, hDt⟩ := HPr.out.2 i hi
      exact ⟨w.heap.size, 0, dv, rfl, by rw [Nat.zero_add]; exact hE, hDt.below HBr.out⟩

/-- toACEs. -/
theorem toaces_any (ao : Option Addr) (n c : Nat) (w : World) (ns : Nat → List Int) (d : Nat → Option (List Int)) (hn : n ≤ 65536) (hnil : ao = none → n = 0 ∧ c = 0) (hr : Row w ao n ns d) :
    Calls Try.prog 12 #[.slice ao n c] w fun e w' => ∃ a', e = .returned (.slice a' n n) ∧ a'.isNone = ao.isNone ∧ (a' = none → n = 0) ∧ Row w' a' n ns d ∧ Below w.heap.size w w' := by
  cases ao with
  | none =>
    obtain ⟨rfl, rfl⟩ := hnil rfl
    have hnil' := fun w' : World => Lib.run_eql_slice_nil (P := Try.prog) w' 22 47 none 0 0 0 0 Try.underlying22
    go_enter Try.func12, Try.ntmps12
    go_wp2
    go_ret
    exact ⟨none, rfl, rfl, fun i hi => absurd hi (Nat.not_lt_zero i), Below.refl _ _⟩
  | some a =>
    refine (toaces_some a n c w ns d hn hr).mono ?_
    rintro e w' ⟨rfl, h1, h2⟩
    exact ⟨_, rfl, rfl, (fun h => by cases h), h1, h2⟩
end Go.Proofs.Qxb6604391a.Aces
