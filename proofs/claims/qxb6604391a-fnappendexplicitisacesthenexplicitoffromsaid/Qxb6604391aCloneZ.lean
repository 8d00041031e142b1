/-
  cloneZACEs.
-/
import Derived.Test.Qxb6604391aData
import Derived.Lib.EndianMore
namespace Go.Proofs.Qxb6604391a.Aces
open Go.RowKit
/-- A row of n elements, each with its bytes. -/
def Row (w : World) (ao : Option Addr) (n : Nat) (ns : Nat → List Int) (d : Nat → Option (List Int)) : Prop :=
  ∀ i, i < n → ∃ b o dv, ao = some ⟨b, o, none⟩ ∧ El w b (o + i * 59) (ns i) dv ∧ Dat 0 w dv (d i)
theorem Row.below {w wr : World} {ao : Option Addr} {n : Nat} {ns : Nat → List Int} {d : Nat → Option (List Int)} (h : Row w ao n ns d) (hb : Below w.heap.size w wr) : Row wr ao n ns d := by
  intro i hi
  obtain ⟨b, o, dv, ha, hE, hD⟩ := h i hi
  exact ⟨b, o, dv, ha, hE.below hb, hD.below hb⟩
theorem El.put {w : World} {b o o' : Nat} {ns : List Int} {dv : Value} (h : El w b o ns dv) (b' : Nat) (vs : List Value) (hap : b ≠ b' ∨ o + 59 ≤ o' ∨ o' + vs.length ≤ o) : El (w.setCells b' o' vs) b o ns dv :=
  ⟨h.1, World.rangeAt_setCells_apart h.2 b' o' vs (by rw [List.length_append, cs_len h.1]; exact hap)⟩
theorem Dat.put {B b : Nat} {w : World} {dv : Value} {d : Option (List Int)} (h : Dat B w dv d) (hb : b < B) (o : Nat) (vs : List Value) : Dat B (w.setCells b o vs) dv d :=
  h.carry fun x v hB hc => ⟨hB, by rw [World.cell?_setCells_out b vs o w x (fun e => by omega)]; exact hc⟩
theorem there_below {w wr : World} {b o n : Nat} (h : w.there b o n) (hb : Below w.heap.size w wr) : wr.there b o n := by
  intro j hj
  obtain ⟨h1, h2⟩ := h j hj
  obtain ⟨u, hu⟩ := Option.isSome_iff_exists.1 h1
  have hlt := World.block_lt_of_cell? w _ hu
  exact ⟨by rw [hb.cell hlt]; exact h1, by rw [hb.frozen hlt]; exact h2⟩
theorem there_sub {w : World} {b n : Nat} (h : w.there b 0 n) (o m : Nat) (hm : o + m ≤ n) : w.there b o m := by
  intro j hj
  have := h (o + j) (by omega)
  rwa [Nat.zero_add] at this
/-- k elements of the new row are filled. -/
def Part (N : Nat) (wr : World) (n k : Nat) (ns : Nat → List Int) (d : Nat → Option (List Int)) : Prop :=
  wr.there N 0 (n * 59) ∧ ∀ i, i < k → ∃ dv, El wr N (i * 59) (ns i) dv ∧ Dat (N + 1) wr dv (d i)
theorem there_lt {w : World} {b n : Nat} (h : w.there b 0 n) (hn : 0 < n) : b < w.heap.size := by
  obtain ⟨u, hu⟩ := Option.isSome_iff_exists.1 (h 0 hn).1
  exact World.block_lt_of_cell? w _ hu

theorem clone_step {w wr w2 : World} {n k : Nat} {ns : Nat → List Int} {d : Nat → Option (List Int)} {dv v' : Value} (h : Part w.heap.size wr n k ns d) (hb : Below w.heap.size w wr) (hk : k < n) (hF : Fit (ns k))
    (hb2 : Below (wr.setCells w.heap.size (k * 59) (cs (ns k) ++ [dv])).heap.size (wr.setCells w.heap.size (k * 59) (cs (ns k) ++ [dv])) w2)
    (hD : Dat (wr.setCells w.heap.size (k * 59) (cs (ns k) ++ [dv])).heap.size w2 v' (d k)) :
    w2.there w.heap.size (k * 59 + 58) 1 ∧ Part w.heap.size (w2.setCell ⟨w.heap.size, k * 59 + 58, none⟩ v') n (k + 1) ns d ∧ Below w.heap.size w (w2.setCell ⟨w.heap.size, k * 59 + 58, none⟩ v') := by
  obtain ⟨ht, hi⟩ := h
  have hkn : (k + 1) * 59 ≤ n * 59 := Nat.mul_le_mul_right 59 hk
  have hlt := there_lt ht (by omega)
  have ht1 : (wr.setCells w.heap.size (k * 59) (cs (ns k) ++ [dv])).there w.heap.size 0 (n * 59) := World.there_setCells ht _ _ _
  have hlt1 := there_lt ht1 (by omega)
  have ht2 := there_below ht1 hb2
  have hlen : (cs (ns k) ++ [dv]).length = 59 := by rw [List.length_append, cs_len hF]; rfl
  have hE1 : El (wr.setCells w.heap.size (k * 59) (cs (ns k) ++ [dv])) w.heap.size (k * 59) (ns k) dv :=
    ⟨hF, World.rangeAt_setCells_same _ _ _ _ (by rw [hlen]; exact there_sub ht _ _ (by omega))⟩
  have hE2 := hE1.below hb2
  have e1 : w2.setCell ⟨w.heap.size, k * 59 + 58, none⟩ v' = w2.setCells w.heap.size (k * 59 + 58) [v'] := rfl
  refine ⟨there_sub ht2 _ _ (by omega), ⟨?_, ?_⟩, ?_⟩
  · rw [e1]; exact World.there_setCells ht2 _ _ _
  · intro i hi'
    by_cases hik : i = k
    · subst hik
      refine ⟨v', ⟨hF, ?_⟩, ?_⟩
      · intro j u hu
        by_cases hj : j < 58
        · rw [List.getElem?_append_left (by rw [cs_len hF]; exact hj)] at hu
          have h1 := hE2.2 j u (by rw [List.getElem?_append_left (by rw [cs_len hF]; exact hj)]; exact hu)
          rw [e1, World.cell?_setCells_out _ _ _ _ _ (fun _ _ => .inl (by show i * 59 + j < i * 59 + 58; omega))]
          exact h1
        · have hj58 : j = 58 := by
            have := (List.getElem?_eq_some_iff.1 hu).1
            rw [List.length_append, cs_len hF] at this
            simp at this
            omega
          subst hj58
          rw [List.getElem?_append_right (by rw [cs_len hF]; exact Nat.le_refl _), cs_len hF] at hu
          obtain rfl : v' = u := by simpa using hu
          have h2 := World.cell?_setCells_in w.heap.size [v'] (i * 59 + 58) w2 (fun j hj => by
            have := (there_sub ht2 (i * 59 + 58) 1 (by omega)) j (by simpa using hj); exact this.1) 0 (by simp)
          exact h2
      · rw [e1]
        exact (hD.mono (by omega : w.heap.size + 1 ≤ _)).put (by omega) _ _
    · obtain ⟨dvi, hEi, hDi⟩ := hi i (by omega)
      have hik' : (i + 1) * 59 ≤ k * 59 := Nat.mul_le_mul_right 59 (by omega)
      refine ⟨dvi, ?_, ?_⟩
      · rw [e1]
        exact ((hEi.put _ _ (.inr (.inl (by omega)))).below hb2).put _ _ (.inr (.inl (by omega)))
      · rw [e1]
        exact ((hDi.put (by omega) _ _).below hb2).put (by omega) _ _
  · rw [e1]
    have hx : Below w.heap.size w (wr.setCells w.heap.size (k * 59) (cs (ns k) ++ [dv])) := hb.trans (Lib.below_setCells_w (Nat.le_refl _) _ _ _)
    exact (hx.trans (hb2.mono (by omega))).trans (Lib.below_setCells_w (Nat.le_refl _) _ _ _)

/-- The number of cells of an array or a struct. -/
def aggSize : Value → Nat
  | .agg a => a.size
  | _ => 0
theorem info47' : (Try.prog.info? 47).map (fun i => (i.zero.map aggSize, i.size, i.bytes)) = some (some 59, 59, 136) := by kernel_rfl
theorem info43' : (Try.prog.info? 43).map (fun i => (i.zero.map aggSize, i.size, i.bytes)) = some (some 59, 59, 136) := by kernel_rfl
theorem parts59 {e : TypeId} (h : (Try.prog.info? e).map (fun i => (i.zero.map aggSize, i.size, i.bytes)) = some (some 59, 59, 136)) : ∃ i A, Try.prog.info? e = some i ∧ i.zero = some (.agg A) ∧ i.size = 59 ∧ i.bytes = 136 ∧ (Value.agg A).cells.size = 59 := by
  obtain ⟨i, hi, hh⟩ := Option.map_eq_some_iff.1 h
  simp only [Prod.mk.injEq] at hh
  obtain ⟨h1, h2, h3⟩ := hh
  obtain ⟨z, hz, h4⟩ := Option.map_eq_some_iff.1 h1
  cases z with
  | agg A => exact ⟨i, A, hi, hz, h2, h3, h4⟩
  | _ => simp [aggSize] at h4
theorem size47 : (Try.prog.info? 47).map (·.size) = some 59 := by kernel_rfl
theorem size43 : (Try.prog.info? 43).map (·.size) = some 59 := by kernel_rfl
theorem there_of_own {w : World} {B g n cap : Nat} {e : TypeId} {xs : List Value} (h : w.ownsRow B e 59 (.slice (some ⟨g, 0, none⟩) n cap) n xs) : w.there g 0 (n * 59) := by
  intro j hj
  rw [Nat.zero_add]
  refine ⟨?_, h.frozenAt j⟩
  rw [h.cellAt j hj, List.getElem?_eq_getElem (by rw [h.1]; exact hj)]
  rfl

set_option maxHeartbeats 2000000 in
set_option maxRecDepth 100000 in
/-- cloneZACEs, of a slice that is not nil. -/
theorem cloneZ_some (a : Addr) (n c : Nat) (w : World) (ns : Nat → List Int) (d : Nat → Option (List Int)) (hn : n ≤ 65536) (hr : Row w (some a) n ns d) (hd : ∀ i, i < n → dlen (d i) ≤ 1048576) :
    Calls Try.prog 10 #[.slice (some a) n c] w fun e w' => e = .returned (.slice (some ⟨w.heap.size, 0, none⟩) n n) ∧ Row w' (some ⟨w.heap.size, 0, none⟩) n ns d ∧ Below w.heap.size w w' := by
  obtain ⟨i0, z, hi, hz0, hz1, hz2, hz3⟩ := parts59 info47'
  have hnil := fun w' : World => Lib.run_eql_slice_nil (P := Try.prog) w' 22 47 (some a) n c 0 0 Try.underlying22
  have HR : Hid (Row w (some a) n ns d) := hr
  have HD : Hid (∀ i, i < n → dlen (d i) ≤ 1048576) := hd
  clear hr hd
  go_enter Try.func10, Try.ntmps10
  go_wp2_with (at_make; refine wpList_make_full _ rfl _ _ 22 rfl w.heap.size 47 i0 (.agg z) 59 Try.underlying22 hi hz0 hz1 .i64 .i64 _ _ n rfl rfl rfl rfl ?c1 ?c2 ?c3 ?_)
  case c1 => rw [hz2]; omega
  case c2 => unfold maxLen; omega
  case c3 => simp
  intro w1 hown1 hg1
  have HP : Hid (Part w.heap.size w1 n 0 ns d) := ⟨there_of_own hown1, fun i h => by omega⟩
  have HB : Hid (Below w.heap.size w w1) := (Below.refl _ _).grown hg1 (Nat.le_refl _) (by simp)
  clear hown1 hg1 hi hz0 hz1 hz2 hz3
  go_wp2
  go_loopw [4] (fun i wr => ∃ k : Nat, k ≤ n ∧ i = .int .i64 k ∧ Hid (Part w.heap.size wr n k ns d) ∧ Hid (Below w.heap.size w wr)) (fun i _ => n - (intOf i).toNat)
  case atStart => exact ⟨0, Nat.zero_le _, rfl, HP, HB⟩
  case round =>
    obtain ⟨k, hk, rfl, HPr, HBr⟩ := hrel
    clear HP HB
    by_cases hlt : k < n
    · obtain ⟨b, o, dv, ha, hE, hDt⟩ := HR.out k hlt
      rw [ha]
      have hki : (k : Int) < (n : Int) := by omega
      have hblk : b < w.heap.size := World.block_lt_of_cell? w _ hE.last
      have hEr := hE.below (wr := wr) HBr.out
      have HE : Hid (El wr b (o + k * 59) (ns k) dv) := hEr
      have HDt : Hid (Dat 0 wr dv (d k)) := hDt.below HBr.out
      have hF : Hid (Fit (ns k)) := hE.1
      have hkn : (k + 1) * 59 ≤ n * 59 := Nat.mul_le_mul_right 59 hlt
      have HT : Hid (wr.there w.heap.size (k * 59) 59) := there_sub HPr.out.1 _ _ (by omega)
      have hl59 : (cs (ns k) ++ [dv]).length = 59 := by rw [List.length_append, cs_len hF.out]; rfl
      have HL : Hid ((cs (ns k) ++ [dv]).length = 59) := hl59
      have hone : ∀ v ∈ cs (ns k) ++ [dv], v.oneCell' = true := by
        intro v hv
        rcases List.mem_append.1 hv with h | h
        · exact cs_one v h
        · obtain rfl : v = dv := by simpa using h
          obtain ⟨a', cap', hv', _⟩ := HDt.out.shape
          rw [hv']; rfl
      obtain ⟨L, hL⟩ : ∃ L, L = cs (ns k) ++ [dv] := ⟨_, rfl⟩
      have HONE : Hid (L.toArray.all (·.oneCell') = true) := by rw [hL]; exact all_oneCell_toArray hone
      have HRg : Hid (wr.rangeAt b (o + k * 59) L) := by rw [hL]; exact HE.out.2
      have HLn : Hid (L.length = 59) := by rw [hL]; exact HL.out
      have HLs : Hid (L.toArray.size = 59) := by rw [List.size_toArray]; exact HLn.out
      have HT' : Hid (wr.there w.heap.size (k * 59) L.toArray.size) := by rw [HLs.out]; exact HT.out
      have HSz : Hid ((Try.prog.info? 47).map (·.size) = some L.length) := by rw [HLn.out]; exact size47
      have HSz' : Hid ((Try.prog.info? 47).map (·.size) = some L.toArray.size) := by rw [HLs.out]; exact size47
      have HLe : Hid (L = cs (ns k) ++ [dv]) := hL
      have hcd : (wr.setCells w.heap.size (k * 59) L).cell? ⟨b, o + k * 59 + 58, none⟩ = some dv := by
        rw [World.cell?_setCells_out _ _ _ _ _ (fun e => by have e' : b = w.heap.size := e; omega)]
        exact HE.out.last
      have HDW : Hid (Dat 0 (wr.setCells w.heap.size (k * 59) L) dv (d k)) := hDt.carry fun x v _ hc => ⟨Nat.zero_le _, by
        have hlt := World.block_lt_of_cell? w _ hc
        rw [World.cell?_setCells_out _ _ _ _ _ (fun e => by omega)]
        exact (HBr.out.cell hlt).trans hc⟩
      clear hE hEr hDt hone hl59 ha hkn hL
      go_wp2_with (first
        | (refine wpList_load_mid rfl 47 (.tmp 20) rfl b (o + k * 59) rfl L _ HRg.out Try.underlying47 rfl HSz.out ?_)
        | (refine wpList_store_mid rfl 47 (.tmp 22) (.tmp 21) rfl w.heap.size (k * 59) L.toArray rfl rfl HT'.out HSz'.out HONE.out ?_))
      refine (cloneB_any dv (d k) _ HDW.out (HD.out k hlt)).mono ?_
      rintro e w2 ⟨v', rfl, hD2, hb2⟩
      have R : w2.there w.heap.size (k * 59 + 58) 1 ∧ Part w.heap.size (w2.setCell ⟨w.heap.size, k * 59 + 58, none⟩ v') n (k + 1) ns d ∧ Below w.heap.size w (w2.setCell ⟨w.heap.size, k * 59 + 58, none⟩ v') := by
        rw [HLe.out] at hD2 hb2
        exact clone_step HPr.out HBr.out hlt hF.out hb2 hD2
      obtain ⟨a', cap', hv', _⟩ := hD2.shape
      rw [hv'] at R
      rw [hv']
      obtain ⟨u, hu⟩ := Option.isSome_iff_exists.1 (R.1 0 (by omega)).1
      have cu : w2.cell? ⟨w.heap.size, k * 59 + 58, none⟩ = some u := hu
      have fu : w2.frozen? ⟨w.heap.size, k * 59 + 58, none⟩ = false := (R.1 0 (by omega)).2
      have HP2 : Hid (Part w.heap.size (w2.setCell ⟨w.heap.size, k * 59 + 58, none⟩ (.slice a' (dlen (d k)) cap')) n (k + 1) ns d) := R.2.1
      have HB2 : Hid (Below w.heap.size w (w2.setCell ⟨w.heap.size, k * 59 + 58, none⟩ (.slice a' (dlen (d k)) cap'))) := R.2.2
      clear R hu hD2 hb2 hv' HDW hcd HRg HONE HT HT' HSz HSz' HLn HLs HLe HL HE HDt hF HPr HBr
      go_wp2
      go_roundw
      case rel => exact ⟨k + 1, by omega, by go_num, HP2, HB2⟩
      case measure => simp [intOf]; omega
    · obtain rfl : k = n := by omega
      go_wp2
      go_ret
      refine ⟨rfl, fun i hi => ?_, HBr.out⟩
      obtain ⟨dv, hE, hDt⟩ := HPr.out.2 i hi
      exact ⟨w.heap.size, 0, dv, rfl, by rw [Nat.zero_add]; exact hE, hDt.mono (Nat.zero_le _)⟩

/-- cloneZACEs. -/
theorem cloneZ_any (ao : Option Addr) (n c : Nat) (w : World) (ns : Nat → List Int) (d : Nat → Option (List Int)) (hn : n ≤ 65536) (hnil : ao = none → n = 0 ∧ c = 0) (hr : Row w ao n ns d) (hd : ∀ i, i < n → dlen (d i) ≤ 1048576) :
    Calls Try.prog 10 #[.slice ao n c] w fun e w' => ∃ a' c', e = .returned (.slice a' n c') ∧ a'.isNone = ao.isNone ∧ (a' = none → n = 0 ∧ c' = 0) ∧ Row w' a' n ns d ∧ Below w.heap.size w w' := by
  cases ao with
  | none =>
    obtain ⟨rfl, rfl⟩ := hnil rfl
    have hnil' := fun w' : World => Lib.run_eql_slice_nil (P := Try.prog) w' 22 47 none 0 0 0 0 Try.underlying22
    go_enter Try.func10, Try.ntmps10
    go_wp2
    go_ret
    exact ⟨none, 0, rfl, rfl, by simp, fun i hi => absurd hi (Nat.not_lt_zero i), Below.refl _ _⟩
  | some a =>
    refine (cloneZ_some a n c w ns d hn hr hd).mono ?_
    rintro e w' ⟨rfl, h1, h2⟩
    exact ⟨_, _, rfl, rfl, (fun h => by cases h), h1, h2⟩
end Go.Proofs.Qxb6604391a.Aces
