/-
  appendExplicit, ZZappendExplicit: what comes back, as a row.
-/
import Derived.Test.Qxb6604391aApp
namespace Go.Proofs.Qxb6604391a.Aces
open Go.RowKit
/-- The elements that come back: aces, then the explicit ones of from. -/
def outOf {α : Type} (n : Nat) (A : Nat → α) (F : Nat → α) (ex : List Nat) (i : Nat) : α := if i < n then A i else F (ex[i - n]?.getD 0)
theorem acc_row {w w' : World} {ao : Option Addr} {n m : Nat} {nsA nsF : Nat → List Int} {dvA : Nat → Value} {dA dF : Nat → Option (List Int)} {v : Value} {f : Nat → Value}
    (hA : ∀ i, i < n → ∃ b o, ao = some ⟨b, o, none⟩ ∧ El w b (o + i * 59) (nsA i) (dvA i)) (hD : ∀ i, i < n → Dat 0 w (dvA i) (dA i)) (hF : ∀ i, i < m → Fit (nsF i)) (h : Acc w ao n nsA dvA nsF dF m w' v f) :
    ∃ a' c', v = .slice a' (n + cnt (flg nsF) m) c' ∧ a'.isNone = (ao.isNone && (cnt (flg nsF) m == 0)) ∧ Row w' a' (n + cnt (flg nsF) m) (outOf n nsA nsF (exl (flg nsF) m)) (outOf n dA dF (exl (flg nsF) m)) := by
  obtain ⟨hDF, hb, hv⟩ := h
  rcases hv with ⟨hex, rfl⟩ | ⟨hex, hown⟩
  · have h0 : cnt (flg nsF) m = 0 := by rw [← exl_len, hex]; rfl
    refine ⟨ao, n, by rw [h0]; rfl, by rw [h0]; simp, ?_⟩
    rw [h0]
    intro i hi
    obtain ⟨b, o, ha, hE⟩ := hA i (by omega)
    have hlt : i < n := by omega
    refine ⟨b, o, dvA i, ha, ?_, ?_⟩
    · simp only [outOf, if_pos hlt]; exact hE.below hb
    · simp only [outOf, if_pos hlt]; exact (hD i hlt).below hb
  · have hpos : 0 < (exl (flg nsF) m).length := by
      cases he : exl (flg nsF) m with
      | nil => exact absurd he hex
      | cons _ _ => simp
    obtain ⟨g, cap, hv⟩ := Joins.ownsRow_form hown (by omega)
    rw [hv] at hown
    have hc0 : (cnt (flg nsF) m == 0) = false := by rw [← exl_len]; exact beq_eq_false_iff_ne.2 (by omega)
    refine ⟨some ⟨g, 0, none⟩, cap, by rw [hv, exl_len], by rw [hc0]; simp, ?_⟩
    have hall : ∀ l ∈ accE nsA dvA n nsF f (exl (flg nsF) m), l.length = 59 := by
      intro l hl
      rcases List.mem_append.1 hl with hl | hl
      · obtain ⟨i, hi, rfl⟩ := List.mem_map.1 hl
        obtain ⟨_, _, _, hE⟩ := hA i (List.mem_range.1 hi)
        rw [elc, List.length_append, cs_len hE.1]; rfl
      · obtain ⟨i, hi, rfl⟩ := List.mem_map.1 hl
        rw [elc, List.length_append, cs_len (hF i (exl_lt hi))]; rfl
    have range : ∀ i l, (accE nsA dvA n nsF f (exl (flg nsF) m))[i]? = some l → w'.rangeAt g (0 + i * 59) l := by
      intro i l hl j u hu
      have hj : j < 59 := by
        have h1 := (List.getElem?_eq_some_iff.1 hu).1
        rwa [hall l (List.mem_of_getElem? hl)] at h1
      have hi : i < n + (exl (flg nsF) m).length := by
        have h1 := (List.getElem?_eq_some_iff.1 hl).1
        simpa [accE] using h1
      have hk : (i + 1) * 59 ≤ (n + (exl (flg nsF) m).length) * 59 := Nat.mul_le_mul_right 59 hi
      rw [Nat.zero_add, hown.cellAt (i * 59 + j) (by omega), flat_at _ hall _ _ hj, hl]
      exact hu
    intro i hi
    rw [← exl_len] at hi
    by_cases hin : i < n
    · obtain ⟨_, _, _, hE⟩ := hA i hin
      refine ⟨g, 0, dvA i, rfl, ?_, ?_⟩
      · simp only [outOf, if_pos hin]
        refine ⟨hE.1, range i (elc nsA dvA i) ?_⟩
        rw [accE, List.getElem?_append_left (by simpa using hin), List.getElem?_map, List.getElem?_range hin]
        rfl
      · simp only [outOf, if_pos hin]; exact (hD i hin).below hb
    · have hr : i - n < (exl (flg nsF) m).length := by omega
      obtain ⟨x, hx⟩ : ∃ x, (exl (flg nsF) m)[i - n]? = some x := ⟨_, List.getElem?_eq_getElem hr⟩
      have hxm := exl_lt (List.mem_of_getElem? hx)
      refine ⟨g, 0, f x, rfl, ?_, ?_⟩
      · simp only [outOf, if_neg hin, hx, Option.getD_some]
        refine ⟨hF x hxm, range i (elc nsF f x) ?_⟩
        rw [accE, List.getElem?_append_right (by simpa using Nat.le_of_not_lt hin), List.length_map, List.length_range, List.getElem?_map, hx]
        rfl
      · simp only [outOf, if_neg hin, hx, Option.getD_some]
        exact (hDF x (List.mem_of_getElem? hx)).dat

/-- ZZappendExplicit. -/
theorem zzapp_any (ao af : Option Addr) (n m cF : Nat) (w : World) (nsA nsF : Nat → List Int) (dA dF : Nat → Option (List Int)) (hn : n ≤ 65536) (hm : m ≤ 65536) (hnone : ao = none → n = 0)
    (hA : Row w ao n nsA dA) (hF : Row w af m nsF dF) (hd : ∀ i, i < m → dlen (dF i) ≤ 1048576) :
    Calls Try.prog 11 #[.slice ao n n, .slice af m cF] w fun e w' => ∃ a' c', e = .returned (.slice a' (n + cnt (flg nsF) m) c') ∧ a'.isNone = (ao.isNone && (cnt (flg nsF) m == 0)) ∧ Row w' a' (n + cnt (flg nsF) m) (outOf n nsA nsF (exl (flg nsF) m)) (outOf n dA dF (exl (flg nsF) m)) ∧ Below w.heap.size w w' := by
  obtain ⟨dvA, hdv⟩ : ∃ dvA : Nat → Value, ∀ i, i < n → ∃ b o, ao = some ⟨b, o, none⟩ ∧ El w b (o + i * 59) (nsA i) (dvA i) ∧ Dat 0 w (dvA i) (dA i) := by
    have hx : ∀ i, ∃ dv, i < n → ∃ b o, ao = some ⟨b, o, none⟩ ∧ El w b (o + i * 59) (nsA i) dv ∧ Dat 0 w dv (dA i) := by
      intro i
      by_cases hi : i < n
      · obtain ⟨b, o, dv, h⟩ := hA i hi
        exact ⟨dv, fun _ => ⟨b, o, h⟩⟩
      · exact ⟨.slice none 0 0, fun h => absurd h hi⟩
    exact ⟨fun i => (hx i).choose, fun i => (hx i).choose_spec⟩
  have h1 : ∀ i, i < n → ∃ b o, ao = some ⟨b, o, none⟩ ∧ El w b (o + i * 59) (nsA i) (dvA i) := fun i hi => by obtain ⟨b, o, h⟩ := hdv i hi; exact ⟨b, o, h.1, h.2.1⟩
  have h2 : ∀ i, i < n → Dat 0 w (dvA i) (dA i) := fun i hi => by obtain ⟨_, _, h⟩ := hdv i hi; exact h.2.2
  have h3 : ∀ i, i < m → Fit (nsF i) := fun i hi => by obtain ⟨_, _, _, _, h, _⟩ := hF i hi; exact h.1
  have HC : Hid (Calls Try.prog 20 #[.slice ao n n, .slice af m cF] w fun e w' => ∃ v f, e = .returned v ∧ Acc w ao n nsA dvA nsF dF m w' v f) := app_walk ao af n m cF w nsA nsF dvA dF hn hm hnone h1 hF hd
  have HR : Hid (∀ v f w', Acc w ao n nsA dvA nsF dF m w' v f → ∃ a' c', v = .slice a' (n + cnt (flg nsF) m) c' ∧ a'.isNone = (ao.isNone && (cnt (flg nsF) m == 0)) ∧ Row w' a' (n + cnt (flg nsF) m) (outOf n nsA nsF (exl (flg nsF) m)) (outOf n dA dF (exl (flg nsF) m)) ∧ Below w.heap.size w w') := fun v f w' h => by
    obtain ⟨a', c', e1, e2, e3⟩ := acc_row h1 h2 h3 h
    exact ⟨a', c', e1, e2, e3, h.2.1⟩
  clear hdv h1 h2 h3 hA hF hd hnone
  go_enter Try.func11, Try.ntmps11
  go_wp2_with fail
  refine HC.out.mono ?_
  rintro e w1 ⟨v, f, rfl, hAcc⟩
  have HR1 := HR.out v f w1 hAcc
  have HR1 : Hid (∃ a' c', v = .slice a' (n + cnt (flg nsF) m) c' ∧ a'.isNone = (ao.isNone && (cnt (flg nsF) m == 0)) ∧ Row w1 a' (n + cnt (flg nsF) m) (outOf n nsA nsF (exl (flg nsF) m)) (outOf n dA dF (exl (flg nsF) m)) ∧ Below w.heap.size w w1) := HR1
  rename_i HR1x
  clear HR1x hAcc HR HC
  go_wp2
  go_ret
  obtain ⟨a', c', rfl, h⟩ := HR1.out
  exact ⟨a', c', rfl, h⟩
end Go.Proofs.Qxb6604391a.Aces
