/-
  The law's walk.
-/
import Derived.Test.Qxb6604391aAceIs
namespace Go.Proofs.Qxb6604391a.Aces
open Go.RowKit
theorem Row.lens {w : World} {ao : Option Addr} {n : Nat} {ns : Nat → List Int} {d : Nat → Option (List Int)} (h : Row w ao n ns d) (hd : ∀ i, i < n → dlen (d i) ≤ 9223372036854775807) : Lens w ao n (fun i => dlen (d i)) := by
  intro i hi
  obtain ⟨b, o, dv, ha, hE, hD⟩ := h i hi
  obtain ⟨a, cp, rfl, _⟩ := hD.shape
  exact ⟨hd i hi, b, o, a, cp, ha, hE.last⟩
theorem Row.flgs {w : World} {ao : Option Addr} {n : Nat} {ns : Nat → List Int} {d : Nat → Option (List Int)} (h : Row w ao n ns d) : Flgs w ao n (flg ns) := by
  intro i hi
  obtain ⟨b, o, dv, ha, hE, hD⟩ := h i hi
  exact ⟨b, o, ha, hE.cell (j := 1) rfl⟩
theorem Row.reach {w : World} {ao : Option Addr} {n c : Nat} {ns : Nat → List Int} {d : Nat → Option (List Int)} (h : Row w ao n ns d) (hn : n ≤ 1048576) : Calls Try.prog 9 #[.slice ao n c] w fun e w' => IsBool e ∧ Below w.heap.size w w' := by
  obtain ⟨dv, hdv⟩ : ∃ dv : Nat → Value, ∀ i, i < n → ∃ b o, ao = some ⟨b, o, none⟩ ∧ El w b (o + i * 59) (ns i) (dv i) := by
    have hx : ∀ i, ∃ dv, i < n → ∃ b o, ao = some ⟨b, o, none⟩ ∧ El w b (o + i * 59) (ns i) dv := by
      intro i
      by_cases hi : i < n
      · obtain ⟨b, o, dv, ha, hE, hD⟩ := h i hi
        exact ⟨dv, fun _ => ⟨b, o, ha, hE⟩⟩
      · exact ⟨.nilFunc, fun h => absurd h hi⟩
    exact ⟨fun i => Classical.choose (hx i), fun i => Classical.choose_spec (hx i)⟩
  exact reach_any ao n c w ns dv hn hdv

set_option linter.unusedSimpArgs false in
set_option maxHeartbeats 4000000 in
set_option maxRecDepth 100000 in
theorem law_any (ao af : Option Addr) (n m c cF : Nat) (w : World) (nsA nsF : Nat → List Int) (dA dF : Nat → Option (List Int)) (hn : n ≤ 9223372036854775807) (hm : m ≤ 9223372036854775807) (hnilA : ao = none → n = 0 ∧ c = 0) (hnilF : af = none → m = 0 ∧ cF = 0)
    (hA : Row w ao n nsA dA) (hF : Row w af m nsF dF) (hdA : ∀ i, i < n → dlen (dA i) ≤ 9223372036854775807) (hdF : ∀ i, i < m → dlen (dF i) ≤ 9223372036854775807) :
    Calls Try.prog 3 #[.slice ao n c, .slice af m cF] w fun e w' => e = .returned (.bool true) ∧ Below w.heap.size w w' := by
  have HA : Hid (Row w ao n nsA dA) := hA
  have HF : Hid (Row w af m nsF dF) := hF
  have HLA : Hid (Lens w ao n (fun i => dlen (dA i))) := hA.lens hdA
  have HLF : Hid (Lens w af m (fun i => dlen (dF i))) := hF.lens hdF
  have HNA : Hid (ao = none → n = 0 ∧ c = 0) := hnilA
  have HNF : Hid (af = none → m = 0 ∧ cF = 0) := hnilF
  clear hA hF hdA hdF hnilA hnilF
  go_enter Try.func3, Try.ntmps3
  go_wp2_with fail
  refine (bytes_any ao af n c m cF w _ _ hn hm HLA.out HLF.out).mono ?_
  rintro e w1 ⟨⟨r, rfl⟩, hw⟩
  obtain rfl := hw.symm
  cases r
  · go_wp2
    go_ret
    exact ⟨rfl, Below.refl _ _⟩
  by_cases hn1 : (65536 : Int) < n
  · go_wp2
    go_ret
    exact ⟨rfl, Below.refl _ _⟩
  by_cases hm1 : (65536 : Int) < m
  · go_wp2
    go_ret
    exact ⟨rfl, Below.refl _ _⟩
  go_wp2_with fail
  refine (data_any ao n c w _ (by omega) HLA.out).mono ?_
  rintro e w1 ⟨⟨z1, rfl, hz10, hz11, hz12⟩, hw⟩
  obtain rfl := hw.symm
  have HZ1 : Hid (z1 ≤ 1048576 → ∀ i, i < n → dlen (dA i) ≤ 1048576) := hz12
  clear hz12
  go_wp2_with fail
  refine (data_any af m cF w _ (by omega) HLF.out).mono ?_
  rintro e w1 ⟨⟨z2, rfl, hz20, hz21, hz22⟩, hw⟩
  obtain rfl := hw.symm
  have HZ2 : Hid (z2 ≤ 1048576 → ∀ i, i < m → dlen (dF i) ≤ 1048576) := hz22
  clear hz22
  by_cases hz : (1048576 : Int) < 136 * ((n : Int) + m) + z1 + z2
  · go_wp2
    go_ret
    exact ⟨rfl, Below.refl _ _⟩
  go_wp2_with fail
  have HDA : Hid (∀ i, i < n → dlen (dA i) ≤ 1048576) := HZ1.out (by omega)
  have HDF : Hid (∀ i, i < m → dlen (dF i) ≤ 1048576) := HZ2.out (by omega)
  clear HZ1 HZ2 HLA HLF
  have hnN : n ≤ 65536 := by omega
  have hmN : m ≤ 65536 := by omega
  clear hn hm hz hz10 hz11 hz20 hz21 hn1 hm1
  refine (HA.out.reach (by omega)).mono ?_
  rintro e w1 ⟨⟨r, rfl⟩, hb⟩
  have HB1 : Hid (Below w.heap.size w w1) := hb
  clear hb
  cases r
  · go_wp2
    go_ret
    exact ⟨rfl, HB1.out⟩
  go_wp2_with fail
  refine ((HF.out.below HB1.out).reach (by omega)).mono ?_
  rintro e w2 ⟨⟨r, rfl⟩, hb⟩
  have HB2 : Hid (Below w.heap.size w w2) := HB1.out.trans (hb.mono HB1.out.size)
  clear hb HB1
  cases r
  · go_wp2
    go_ret
    exact ⟨rfl, HB2.out⟩
  go_wp2_with fail
  refine (cloneZ_any ao n c w2 nsA dA hnN HNA.out (HA.out.below HB2.out) HDA.out).mono ?_
  rintro e w3 ⟨a1, c1, rfl, i1, n1, r1, hb⟩
  have HB3 : Hid (Below w.heap.size w w3) := HB2.out.trans (hb.mono HB2.out.size)
  have HA1 : Hid (Row w3 a1 n nsA dA) := r1
  have HN1 : Hid (a1 = none → n = 0 ∧ c1 = 0) := n1
  clear hb HB2 r1 n1 i1 HA HNA
  go_wp2_with fail
  refine (cloneZ_any af m cF w3 nsF dF hmN HNF.out (HF.out.below HB3.out) HDF.out).mono ?_
  rintro e w4 ⟨a2, c2, rfl, i2, n2, r2, hb⟩
  have HB4 : Hid (Below w.heap.size w w4) := HB3.out.trans (hb.mono HB3.out.size)
  have HA2 : Hid (Row w4 a1 n nsA dA) := HA1.out.below hb
  have HF2 : Hid (Row w4 a2 m nsF dF) := r2
  have HN2 : Hid (a2 = none → m = 0 ∧ c2 = 0) := n2
  clear hb HB3 r2 n2 i2 HF HNF HA1
  go_wp2_with fail
  refine (toaces_any a1 n c1 w4 nsA dA hnN HN1.out HA2.out).mono ?_
  rintro e w5 ⟨a3, rfl, i3, n3, r3, hb⟩
  have HB5 : Hid (Below w.heap.size w w5) := HB4.out.trans (hb.mono HB4.out.size)
  have HA3 : Hid (Row w5 a1 n nsA dA) := HA2.out.below hb
  have HF3 : Hid (Row w5 a2 m nsF dF) := HF2.out.below hb
  have HX3 : Hid (Row w5 a3 n nsA dA) := r3
  have HI3 : Hid (a3.isNone = a1.isNone) := i3
  have HN3 : Hid (a3 = none → n = 0) := n3
  clear hb HB4 r3 i3 n3 HA2 HF2 HN1
  go_wp2_with fail
  refine (toaces_any a2 m c2 w5 nsF dF hmN HN2.out HF3.out).mono ?_
  rintro e w6 ⟨a4, rfl, i4, n4, r4, hb⟩
  have HB6 : Hid (Below w.heap.size w w6) := HB5.out.trans (hb.mono HB5.out.size)
  have HA4 : Hid (Row w6 a1 n nsA dA) := HA3.out.below hb
  have HF4 : Hid (Row w6 a2 m nsF dF) := HF3.out.below hb
  have HX4 : Hid (Row w6 a3 n nsA dA) := HX3.out.below hb
  have HY4 : Hid (Row w6 a4 m nsF dF) := r4
  clear hb HB5 r4 i4 n4 HA3 HF3 HX3 HN2
  go_wp2_with fail
  refine (zzapp_any a3 a4 n m m w6 nsA nsF dA dF hnN hmN HN3.out HX4.out HY4.out HDF.out).mono ?_
  obtain ⟨x, hx⟩ : ∃ x, x = cnt (flg nsF) m := ⟨_, rfl⟩
  have hxm : x ≤ m := by rw [hx]; exact cnt_le _ _
  rw [← hx]
  rintro e w7 ⟨ag, cg, rfl, ig, rg, hb⟩
  have HX : Hid (x = cnt (flg nsF) m) := hx
  have HB7 : Hid (Below w.heap.size w w7) := HB6.out.trans (hb.mono HB6.out.size)
  have HA5 : Hid (Row w7 a1 n nsA dA) := HA4.out.below hb
  have HF5 : Hid (Row w7 a2 m nsF dF) := HF4.out.below hb
  have HG5 : Hid (Row w7 ag (n + x) (outOf n nsA nsF (exl (flg nsF) m)) (outOf n dA dF (exl (flg nsF) m))) := rg
  have HIG : Hid (ag.isNone = (a1.isNone && (x == 0))) := by rw [← HI3.out]; exact ig
  clear hb HB6 rg ig HA4 HF4 HX4 HY4 HI3 HN3 hx
  go_wp2_with fail
  refine (count_any a2 m c2 w7 (flg nsF) (by omega) HF5.out.flgs).mono ?_
  rw [← HX.out]
  rintro e w8 ⟨rfl, hw⟩
  obtain rfl := hw.symm
  clear hw
  have hnil1 := fun w' : World => Lib.run_eql_slice_nil (P := Try.prog) w' 22 47 a1 n c1 0 0 Try.underlying22
  have hnilG := fun w' : World => Lib.run_eql_slice_nil (P := Try.prog) w' 27 43 ag (n + x) cg 0 0 Try.underlying27
  have hcase : (a1.isNone = false ∧ ag.isNone = false) ∨ (a1.isNone = true ∧ ag.isNone = true ∧ ((x : Int) == 0) = true) ∨ (a1.isNone = true ∧ ag.isNone = false ∧ ((x : Int) == 0) = false) := by
    have h := HIG.out
    cases hh : a1.isNone
    · rw [hh] at h
      exact .inl ⟨rfl, h⟩
    · rw [hh] at h
      by_cases h0 : x = 0
      · subst h0
        exact .inr (.inl ⟨rfl, h, rfl⟩)
      · refine .inr (.inr ⟨rfl, ?_, ?_⟩)
        · rw [h]; simpa using h0
        · simpa using h0
  rcases hcase with ⟨h1, h2⟩ | ⟨h1, h2, h3⟩ | ⟨h1, h2, h3⟩
  all_goals (
    simp only [h1] at hnil1
    simp only [h2] at hnilG
    clear HIG h1 h2
    go_wp2
    clear hnil1 hnilG)
  all_goals (
    go_loopw [7] (fun vi wr => ∃ k : Nat, k ≤ n ∧ vi = .int .i64 k ∧ Hid (Below w7.heap.size w7 wr)) (fun vi _ => n - (intOf vi).toNat)
    case atStart => exact ⟨0, Nat.zero_le _, rfl, Below.refl _ _⟩
    case round =>
      obtain ⟨k, hk, rfl, HB⟩ := hrel
      by_cases hlt : k < n
      · have hki : (k : Int) < (n : Int) := by omega
        have hkg : k < n + x := by omega
        have hkgi : (k : Int) < (n : Int) + x := by omega
        obtain ⟨b1, o1, dv1, e1, hE1, hD1⟩ := (HA5.out.below HB.out) k hlt
        obtain ⟨bg, og, dvg, eg, hEg, hDg⟩ := (HG5.out.below HB.out) k hkg
        rw [show outOf n nsA nsF (exl (flg nsF) m) k = nsA k from if_pos hlt] at hEg
        rw [show outOf n dA dF (exl (flg nsF) m) k = dA k from if_pos hlt] at hDg
        rw [e1, eg]
        clear e1 eg
        have HR1 : Hid (wr.rangeAt b1 (o1 + k * 59) (cs (nsA k) ++ [dv1])) := hE1.2
        have HRg : Hid (wr.rangeAt bg (og + k * 59) (cs (nsA k) ++ [dvg])) := hEg.2
        have HIS : Hid (∀ W, Below wr.heap.size wr W → Calls Try.prog 14 #[.agg (cs (nsA k) ++ [dvg]).toArray, .agg (cs (nsA k) ++ [dv1]).toArray] W fun e w' => e = .returned (.bool true) ∧ Below W.heap.size W w') := fun W hW => is_any (nsA k) dvg dv1 (dA k) W hE1.1 (hDg.below hW) (hD1.below hW) (HDA.out k hlt)
        have Z1 : Hid ((Try.prog.info? 47).map (·.size) = some (cs (nsA k) ++ [dv1]).length) := by rw [List.length_append, cs_len hE1.1]; exact size47
        have Zg : Hid ((Try.prog.info? 43).map (·.size) = some (cs (nsA k) ++ [dvg]).length) := by rw [List.length_append, cs_len hE1.1]; exact size43
        obtain ⟨L1, hL1⟩ : ∃ L, L = cs (nsA k) ++ [dv1] := ⟨_, rfl⟩
        obtain ⟨Lg, hLg⟩ : ∃ L, L = cs (nsA k) ++ [dvg] := ⟨_, rfl⟩
        rw [← hL1] at HR1 Z1 HIS
        rw [← hLg] at HRg Zg HIS
        clear hE1 hEg hD1 hDg hL1 hLg
        go_wp2_with fail
        refine wp_region_held_drew (S := fun w' => Below wr.heap.size wr w') (by kernel_rfl) ((Below.refl _ _).drew) (fun hHeld => ?_)
        refine wpAnyH_take (i := 0) (oi := { dst := some 76, op := _, type := _, pos := _, after := _, guard := _ }) (v := .slice (some ⟨bg, og, none⟩) (n + x) cg) rfl (by kernel_rfl) (by kernel_rfl) (by kernel_rfl) (fun _ _ _ h => h) (Or.inl ⟨by rfl, ?_⟩) (by assumption) ?_
        · intro w' hSw
          clear hSw
          go_simp
        simp only [Act.put, List.setIfInBounds_toArray, List.set_cons_zero, List.set_cons_succ]
        refine wpAnyH_take (i := 1) (oi := { dst := some 77, op := _, type := _, pos := _, after := _, guard := _ }) (v := .int .i64 k) rfl (by kernel_rfl) (by kernel_rfl) (by kernel_rfl) (fun _ _ _ h => h) (Or.inl ⟨by rfl, ?_⟩) (by assumption) ?_
        · intro w' hSw
          clear hSw
          go_simp
        simp only [Act.put, List.setIfInBounds_toArray, List.set_cons_zero, List.set_cons_succ]
        refine wpAnyH_take (i := 2) (oi := { dst := some 78, op := _, type := _, pos := _, after := _, guard := _ }) (v := .pointer (some ⟨bg, og + k * 59, none⟩)) rfl (by kernel_rfl) (by kernel_rfl) (by kernel_rfl) (fun _ _ _ h => h) (Or.inl ⟨by rfl, ?_⟩) (by assumption) ?_
        · intro w' hSw
          clear hSw
          go_simp
        simp only [Act.put, List.setIfInBounds_toArray, List.set_cons_zero, List.set_cons_succ]
        refine wpAnyH_take (i := 3) (oi := { dst := some 79, op := _, type := _, pos := _, after := _, guard := _ }) (v := .agg Lg.toArray) rfl (by kernel_rfl) (by kernel_rfl) (by kernel_rfl) (fun _ _ _ h => h) (yieldsIf_load_mid (by rfl) 43 _ rfl bg (og + k * 59) rfl Lg _ (fun w' h => range_below HRg.out h) Try.underlying43 rfl Zg.out) (by assumption) ?_
        simp only [Act.put, List.setIfInBounds_toArray, List.set_cons_zero, List.set_cons_succ]
        refine wpAnyH_take (i := 4) (oi := { dst := some 80, op := _, type := _, pos := _, after := _, guard := _ }) (v := .slice (some ⟨b1, o1, none⟩) n c1) rfl (by kernel_rfl) (by kernel_rfl) (by kernel_rfl) (fun _ _ _ h => h) (Or.inl ⟨by rfl, ?_⟩) (by assumption) ?_
        · intro w' hSw
          clear hSw
          go_simp
        simp only [Act.put, List.setIfInBounds_toArray, List.set_cons_zero, List.set_cons_succ]
        refine wpAnyH_take (i := 5) (oi := { dst := some 81, op := _, type := _, pos := _, after := _, guard := _ }) (v := .int .i64 k) rfl (by kernel_rfl) (by kernel_rfl) (by kernel_rfl) (fun _ _ _ h => h) (Or.inl ⟨by rfl, ?_⟩) (by assumption) ?_
        · intro w' hSw
          clear hSw
          go_simp
        simp only [Act.put, List.setIfInBounds_toArray, List.set_cons_zero, List.set_cons_succ]
        refine wpAnyH_take (i := 6) (oi := { dst := some 82, op := _, type := _, pos := _, after := _, guard := _ }) (v := .pointer (some ⟨b1, o1 + k * 59, none⟩)) rfl (by kernel_rfl) (by kernel_rfl) (by kernel_rfl) (fun _ _ _ h => h) (Or.inl ⟨by rfl, ?_⟩) (by assumption) ?_
        · intro w' hSw
          clear hSw
          go_simp
        simp only [Act.put, List.setIfInBounds_toArray, List.set_cons_zero, List.set_cons_succ]
        refine wpAnyH_take (i := 7) (oi := { dst := some 83, op := _, type := _, pos := _, after := _, guard := _ }) (v := .agg L1.toArray) rfl (by kernel_rfl) (by kernel_rfl) (by kernel_rfl) (fun _ _ _ h => h) (yieldsIf_load_mid (by rfl) 47 _ rfl b1 (o1 + k * 59) rfl L1 _ (fun w' h => range_below HR1.out h) Try.underlying47 rfl Z1.out) (by assumption) ?_
        simp only [Act.put, List.setIfInBounds_toArray, List.set_cons_zero, List.set_cons_succ]
        refine wpAnyH_ready (rs := [8]) (by kernel_rfl) (by simp) ?_
        refine AllReadyH.cons (o := { dst := some 84, op := _, type := _, pos := _, after := _, guard := _ }) rfl (fun K hK => ?_) AllReadyH.nil
        go_simp
        refine (HIS.out _ hHeld).mono ?_
        rintro e w9 ⟨rfl, hb9⟩
        have hb9' : Below wr.heap.size wr w9 := hHeld.trans (hb9.mono hHeld.size)
        go_wp2_with fail
        refine hK.out _ _ hb9' (fun hHeld1 => ?_)
        try simp only [Act.put, List.setIfInBounds_toArray, List.set_cons_zero, List.set_cons_succ]
        refine wpAnyH_take (i := 9) (oi := { dst := some 85, op := _, type := _, pos := _, after := _, guard := _ }) (v := .bool false) rfl (by kernel_rfl) (by kernel_rfl) (by kernel_rfl) (fun _ _ _ h => h) (Or.inl ⟨by rfl, ?_⟩) (by assumption) ?_
        · intro w' hSw
          clear hSw
          go_simp
        simp only [Act.put, List.setIfInBounds_toArray, List.set_cons_zero, List.set_cons_succ]
        refine wpAnyH_done (by kernel_rfl) ?_ _
        have HBn : Hid (Below w7.heap.size w7 w9) := HB.out.trans (hb9'.mono HB.out.size)
        clear hHeld hHeld1 hb9 hb9' HB HIS HR1 HRg Z1 Zg
        go_wp2
        go_roundw
        case rel => first | exact ⟨k + 1, by omega, by go_num, HBn⟩ | ((repeat apply Exists.intro); exact ⟨⟨k + 1, by omega, by go_num, HBn⟩, rfl⟩)
        case measure => simp [intOf]; omega
      · go_wp2
        clear hlt hk
        go_loopw [8, 9] (fun vr vi wr => ∃ k r : Nat, k ≤ m ∧ r ≤ k ∧ vi = .int .i64 k ∧ vr = .int .i64 r ∧ Hid (r = cnt (flg nsF) k) ∧ Hid (Below w7.heap.size w7 wr)) (fun _ vi _ => m - (intOf vi).toNat)
        case atStart => exact ⟨0, 0, Nat.zero_le _, Nat.le_refl _, rfl, rfl, rfl, HB.out⟩
        case round =>
          clear HB
          obtain ⟨k, r, hk, hrk, rfl, rfl, HR, HB⟩ := hrel
          by_cases hlt : k < m
          · have hki : (k : Int) < (m : Int) := by omega
            obtain ⟨b1, o1, dv1, e1, hE1, hD1⟩ := (HF5.out.below HB.out) k hlt
            have hfc : wr.cell? ⟨b1, o1 + k * 59 + 1, none⟩ = some (.int .u8 (flg nsF k)) := hE1.cell (j := 1) rfl
            rw [e1]
            clear e1
            by_cases hz : (bits .and .u8 (flg nsF k) 16 == 0) = true
            · have hat := exl_at hlt hz
              obtain ⟨q, hq⟩ : ∃ q, q = n + r := ⟨_, rfl⟩
              have hqx : q < n + x := by
                have h1 := (List.getElem?_eq_some_iff.1 hat).1
                rw [exl_len, ← HX.out, ← HR.out] at h1
                omega
              have hqi : (n : Int) + r = q := by omega
              have hq64 : IntKind.i64.wrap (q : Int) = q := wrap_small _ (by omega) (by omega)
              have hqgi : (q : Int) < (n : Int) + x := by omega
              obtain ⟨bg, og, dvg, eg, hEg, hDg⟩ := (HG5.out.below HB.out) q hqx
              have hix : (exl (flg nsF) m)[q - n]?.getD 0 = k := by
                rw [hq, Nat.add_sub_cancel_left, HR.out, hat]
                rfl
              rw [show outOf n nsA nsF (exl (flg nsF) m) q = nsF k by rw [outOf, if_neg (by omega), hix]] at hEg
              rw [show outOf n dA dF (exl (flg nsF) m) q = dF k by rw [outOf, if_neg (by omega), hix]] at hDg
              have HR' : Hid (r + 1 = cnt (flg nsF) (k + 1)) := by
                show r + 1 = cnt (flg nsF) k + if bits .and .u8 (flg nsF k) 16 == 0 then 1 else 0
                rw [if_pos hz, HR.out]
              have hz' : (bits .and .u8 (flg nsF k) 16 != 0) = false := by rw [bne, hz]; rfl
              have HQ : Hid (q = n + r) := hq
              rw [eg]
              clear eg hat hix hq hz HR
              have HR1 : Hid (wr.rangeAt b1 (o1 + k * 59) (cs (nsF k) ++ [dv1])) := hE1.2
              have HRg : Hid (wr.rangeAt bg (og + q * 59) (cs (nsF k) ++ [dvg])) := hEg.2
              have HIS : Hid (∀ W, Below wr.heap.size wr W → Calls Try.prog 14 #[.agg (cs (nsF k) ++ [dvg]).toArray, .agg (cs (nsF k) ++ [dv1]).toArray] W fun e w' => e = .returned (.bool true) ∧ Below W.heap.size W w') := fun W hW => is_any (nsF k) dvg dv1 (dF k) W hE1.1 (hDg.below hW) (hD1.below hW) (HDF.out k hlt)
              have Z1 : Hid ((Try.prog.info? 47).map (·.size) = some (cs (nsF k) ++ [dv1]).length) := by rw [List.length_append, cs_len hE1.1]; exact size47
              have Zg : Hid ((Try.prog.info? 43).map (·.size) = some (cs (nsF k) ++ [dvg]).length) := by rw [List.length_append, cs_len hE1.1]; exact size43
              obtain ⟨L1, hL1⟩ : ∃ L, L = cs (nsF k) ++ [dv1] := ⟨_, rfl⟩
              obtain ⟨Lg, hLg⟩ : ∃ L, L = cs (nsF k) ++ [dvg] := ⟨_, rfl⟩
              rw [← hL1] at HR1 Z1 HIS
              rw [← hLg] at HRg Zg HIS
              clear hE1 hEg hD1 hDg hL1 hLg
              go_wp2_with fail
              refine wp_region_held_drew (S := fun w' => Below wr.heap.size wr w') (by kernel_rfl) ((Below.refl _ _).drew) (fun hHeld => ?_)
              refine wpAnyH_take (i := 0) (oi := { dst := some 99, op := _, type := _, pos := _, after := _, guard := _ }) (v := .slice (some ⟨bg, og, none⟩) (n + x) cg) rfl (by kernel_rfl) (by kernel_rfl) (by kernel_rfl) (fun _ _ _ h => h) (Or.inl ⟨by rfl, ?_⟩) (by assumption) ?_
              · intro w' hSw
                clear hSw
                go_simp
              simp only [Act.put, List.setIfInBounds_toArray, List.set_cons_zero, List.set_cons_succ]
              refine wpAnyH_take (i := 1) (oi := { dst := some 100, op := _, type := _, pos := _, after := _, guard := _ }) (v := .slice a1 n c1) rfl (by kernel_rfl) (by kernel_rfl) (by kernel_rfl) (fun _ _ _ h => h) (Or.inl ⟨by rfl, ?_⟩) (by assumption) ?_
              · intro w' hSw
                clear hSw
                go_simp
              simp only [Act.put, List.setIfInBounds_toArray, List.set_cons_zero, List.set_cons_succ]
              refine wpAnyH_take (i := 2) (oi := { dst := some 101, op := _, type := _, pos := _, after := _, guard := _ }) (v := .int .i64 n) rfl (by kernel_rfl) (by kernel_rfl) (by kernel_rfl) (fun _ _ _ h => h) (Or.inl ⟨by rfl, ?_⟩) (by assumption) ?_
              · intro w' hSw
                clear hSw
                go_simp
              simp only [Act.put, List.setIfInBounds_toArray, List.set_cons_zero, List.set_cons_succ]
              refine wpAnyH_take (i := 3) (oi := { dst := some 102, op := _, type := _, pos := _, after := _, guard := _ }) (v := .int .i64 r) rfl (by kernel_rfl) (by kernel_rfl) (by kernel_rfl) (fun _ _ _ h => h) (Or.inl ⟨by rfl, ?_⟩) (by assumption) ?_
              · intro w' hSw
                clear hSw
                go_simp
              simp only [Act.put, List.setIfInBounds_toArray, List.set_cons_zero, List.set_cons_succ]
              refine wpAnyH_take (i := 4) (oi := { dst := some 103, op := _, type := _, pos := _, after := _, guard := _ }) (v := .int .i64 q) rfl (by kernel_rfl) (by kernel_rfl) (by kernel_rfl) (fun _ _ _ h => h) (Or.inl ⟨by rfl, ?_⟩) (by assumption) ?_
              · intro w' hSw
                clear hSw
                go_simp
              simp only [Act.put, List.setIfInBounds_toArray, List.set_cons_zero, List.set_cons_succ]
              refine wpAnyH_take (i := 5) (oi := { dst := some 104, op := _, type := _, pos := _, after := _, guard := _ }) (v := .pointer (some ⟨bg, og + q * 59, none⟩)) rfl (by kernel_rfl) (by kernel_rfl) (by kernel_rfl) (fun _ _ _ h => h) (Or.inl ⟨by rfl, ?_⟩) (by assumption) ?_
              · intro w' hSw
                clear hSw
                go_simp
              simp only [Act.put, List.setIfInBounds_toArray, List.set_cons_zero, List.set_cons_succ]
              refine wpAnyH_take (i := 6) (oi := { dst := some 105, op := _, type := _, pos := _, after := _, guard := _ }) (v := .agg Lg.toArray) rfl (by kernel_rfl) (by kernel_rfl) (by kernel_rfl) (fun _ _ _ h => h) (yieldsIf_load_mid (by rfl) 43 _ rfl bg (og + q * 59) rfl Lg _ (fun w' h => range_below HRg.out h) Try.underlying43 rfl Zg.out) (by assumption) ?_
              simp only [Act.put, List.setIfInBounds_toArray, List.set_cons_zero, List.set_cons_succ]
              refine wpAnyH_take (i := 7) (oi := { dst := some 106, op := _, type := _, pos := _, after := _, guard := _ }) (v := .slice (some ⟨b1, o1, none⟩) m c2) rfl (by kernel_rfl) (by kernel_rfl) (by kernel_rfl) (fun _ _ _ h => h) (Or.inl ⟨by rfl, ?_⟩) (by assumption) ?_
              · intro w' hSw
                clear hSw
                go_simp
              simp only [Act.put, List.setIfInBounds_toArray, List.set_cons_zero, List.set_cons_succ]
              refine wpAnyH_take (i := 8) (oi := { dst := some 107, op := _, type := _, pos := _, after := _, guard := _ }) (v := .int .i64 k) rfl (by kernel_rfl) (by kernel_rfl) (by kernel_rfl) (fun _ _ _ h => h) (Or.inl ⟨by rfl, ?_⟩) (by assumption) ?_
              · intro w' hSw
                clear hSw
                go_simp
              simp only [Act.put, List.setIfInBounds_toArray, List.set_cons_zero, List.set_cons_succ]
              refine wpAnyH_take (i := 9) (oi := { dst := some 108, op := _, type := _, pos := _, after := _, guard := _ }) (v := .pointer (some ⟨b1, o1 + k * 59, none⟩)) rfl (by kernel_rfl) (by kernel_rfl) (by kernel_rfl) (fun _ _ _ h => h) (Or.inl ⟨by rfl, ?_⟩) (by assumption) ?_
              · intro w' hSw
                clear hSw
                go_simp
              simp only [Act.put, List.setIfInBounds_toArray, List.set_cons_zero, List.set_cons_succ]
              refine wpAnyH_take (i := 10) (oi := { dst := some 109, op := _, type := _, pos := _, after := _, guard := _ }) (v := .agg L1.toArray) rfl (by kernel_rfl) (by kernel_rfl) (by kernel_rfl) (fun _ _ _ h => h) (yieldsIf_load_mid (by rfl) 47 _ rfl b1 (o1 + k * 59) rfl L1 _ (fun w' h => range_below HR1.out h) Try.underlying47 rfl Z1.out) (by assumption) ?_
              simp only [Act.put, List.setIfInBounds_toArray, List.set_cons_zero, List.set_cons_succ]
              refine wpAnyH_ready (rs := [11]) (by kernel_rfl) (by simp) ?_
              refine AllReadyH.cons (o := { dst := some 110, op := _, type := _, pos := _, after := _, guard := _ }) rfl (fun K hK => ?_) AllReadyH.nil
              go_simp
              refine (HIS.out _ hHeld).mono ?_
              rintro e w9 ⟨rfl, hb9⟩
              have hb9' : Below wr.heap.size wr w9 := hHeld.trans (hb9.mono hHeld.size)
              go_wp2_with fail
              refine hK.out _ _ hb9' (fun hHeld1 => ?_)
              try simp only [Act.put, List.setIfInBounds_toArray, List.set_cons_zero, List.set_cons_succ]
              refine wpAnyH_take (i := 12) (oi := { dst := some 111, op := _, type := _, pos := _, after := _, guard := _ }) (v := .bool false) rfl (by kernel_rfl) (by kernel_rfl) (by kernel_rfl) (fun _ _ _ h => h) (Or.inl ⟨by rfl, ?_⟩) (by assumption) ?_
              · intro w' hSw
                clear hSw
                go_simp
              simp only [Act.put, List.setIfInBounds_toArray, List.set_cons_zero, List.set_cons_succ]
              refine wpAnyH_done (by kernel_rfl) ?_ _
              have HBn : Hid (Below w7.heap.size w7 w9) := HB.out.trans (hb9'.mono HB.out.size)
              clear hHeld hHeld1 hb9 hb9' HB HIS HR1 HRg Z1 Zg
              go_wp2
              go_roundw
              case rel => first | exact ⟨k + 1, r + 1, by omega, by omega, by go_num, by go_num, HR', HBn⟩ | ((repeat apply Exists.intro); exact ⟨⟨k + 1, r + 1, by omega, by omega, by go_num, by go_num, HR', HBn⟩, rfl⟩)
              case measure => simp [intOf]; omega
            · have hz' : (bits .and .u8 (flg nsF k) 16 != 0) = true := by rw [bne, Bool.eq_false_iff.2 hz]; rfl
              have HR' : Hid (r = cnt (flg nsF) (k + 1)) := by
                show r = cnt (flg nsF) k + if bits .and .u8 (flg nsF k) 16 == 0 then 1 else 0
                rw [if_neg hz, HR.out, Nat.add_zero]
              clear hE1 hD1 hz HR
              go_wp2
              go_roundw
              case rel => first | exact ⟨k + 1, r, by omega, by omega, by go_num, rfl, HR', HB.out⟩ | ((repeat apply Exists.intro); exact ⟨⟨k + 1, r, by omega, by omega, by go_num, rfl, HR', HB.out⟩, rfl⟩)
              case measure => simp [intOf]; omega
          · go_wp2
            go_ret
            exact ⟨rfl, HB7.out.trans (HB.out.mono HB7.out.size)⟩)
end Go.Proofs.Qxb6604391a.Aces
