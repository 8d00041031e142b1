/-
  What a slice of elements that came in reads as.
-/
import Derived.Test.Qxb6604391aLaw
import Derived.OpenShut
import Derived.Deep.Slices
namespace Go.Proofs.Qxb6604391a.Aces
open Go.ChangeShapes Go.WideShapes Go.ChangeAt Go.RowKit
/-- A number of the kind at the place j. -/
def At (C : List Value) (j : Nat) (k : IntKind) : Prop := ∃ n, C[j]? = some (.int k n) ∧ (Lit.int k n).wf = true
section
variable {H : Type} {enc : TypeId × Value → H} {P : Program} {w : World} {base : Nat} {spare : Nat → Bool} {held : Bool}
theorem get_sub {C : List Value} {a b i : Nat} (hi : i < b) : ((C.drop a).take b)[i]? = C[a + i]? := by rw [List.getElem?_take, if_pos hi, List.getElem?_drop]
theorem int_at {C : List Value} {j m : Nat} {t : TypeId} {k : IntKind} {x : DataW H × List MemPlace} (ht : P.underlying t = some (.int k)) (hc : P.cellsOf t = 1) (h : DataW.trod enc P w base spare held m t ((C.drop j).take (P.cellsOf t)) = some x) : At C j k := by
  obtain ⟨n, hcs, _, hw⟩ := DataW.trod_int ht h
  rw [hc] at hcs
  refine ⟨n, ?_, hw⟩
  have h1 : ((C.drop j).take 1)[0]? = some (.int k n) := by rw [hcs]; rfl
  rwa [get_sub (by omega), Nat.add_zero] at h1
theorem arr_at {C : List Value} {j m n : Nat} {t e : TypeId} {k : IntKind} {x : DataW H × List MemPlace} (ht : P.underlying t = some (.array n e)) (he : P.underlying e = some (.int k)) (hc : P.cellsOf e = 1) (hct : P.cellsOf t = n)
    (h : DataW.trod enc P w base spare held m t ((C.drop j).take (P.cellsOf t)) = some x) : ∀ i, i < n → At C (j + i) k := by
  obtain ⟨xs, m', _, _, _, hl, hx⟩ := DataW.trod_array ht h
  intro i hi
  have h1 := hx i hi
  rw [List.getElem?_eq_getElem (by rw [hl]; exact hi)] at h1
  obtain ⟨z, hz, hw⟩ := int_at he hc h1
  rw [hc, Nat.mul_one, hct, get_sub hi] at hz
  exact ⟨z, hz, hw⟩
end
theorem kinds_ot : ∀ i, i < 16 → kinds[4 + i]? = some .u8 := by decide
theorem kinds_it : ∀ i, i < 16 → kinds[20 + i]? = some .u8 := by decide
theorem kinds_au : ∀ i, i < 6 → kinds[36 + i]? = some .u8 := by decide
/-- 58 numbers by their places. -/
theorem fit_of {C : List Value} {dv : Value} (hl : C.length = 59) (h : ∀ j k, kinds[j]? = some k → At C j k) (hd : C[58]? = some dv) : ∃ ns, Fit ns ∧ C = cs ns ++ [dv] := by
  have hx : ∀ j, ∃ z, j < 58 → ∃ k, kinds[j]? = some k ∧ C[j]? = some (.int k z) ∧ (Lit.int k z).wf = true := by
    intro j
    by_cases hj : j < 58
    · obtain ⟨k, hk⟩ : ∃ k, kinds[j]? = some k := ⟨_, List.getElem?_eq_getElem (by rw [kinds_len]; exact hj)⟩
      obtain ⟨z, hz, hw⟩ := h j k hk
      exact ⟨z, fun _ => ⟨k, hk, hz, hw⟩⟩
    · exact ⟨0, fun h => absurd h hj⟩
  obtain ⟨f, hf⟩ : ∃ f : Nat → Int, ∀ j, j < 58 → ∃ k, kinds[j]? = some k ∧ C[j]? = some (.int k (f j)) ∧ (Lit.int k (f j)).wf = true := ⟨fun j => Classical.choose (hx j), fun j => Classical.choose_spec (hx j)⟩
  have hn : ∀ j, j < 58 → ((List.range 58).map f)[j]? = some (f j) := fun j hj => by rw [List.getElem?_map, List.getElem?_range hj]; rfl
  have hF : Fit ((List.range 58).map f) := by
    refine ⟨by rw [List.length_map, List.length_range], ?_⟩
    intro j k n hk hnj
    have hj : j < 58 := by have := (List.getElem?_eq_some_iff.1 hk).1; rwa [kinds_len] at this
    obtain ⟨k', hk', _, hw⟩ := hf j hj
    rw [hn j hj] at hnj
    obtain rfl := Option.some.inj hnj
    rw [hk] at hk'
    obtain rfl := Option.some.inj hk'
    exact hw
  refine ⟨_, hF, ?_⟩
  apply List.ext_getElem?
  intro j
  by_cases hj : j < 58
  · obtain ⟨k, hk, hc, _⟩ := hf j hj
    rw [List.getElem?_append_left (by rw [cs_len hF]; exact hj), cs_get hF hk, hn j hj, hc]
    rfl
  · by_cases h58 : j = 58
    · subst h58
      rw [List.getElem?_append_right (by rw [cs_len hF]; exact Nat.le_refl _), cs_len hF, hd]
      rfl
    · rw [List.getElem?_eq_none (by omega), List.getElem?_eq_none (by rw [List.length_append, cs_len hF]; simp; omega)]

section
variable {H : Type} {enc : TypeId × Value → H} {w : World} {base : Nat} {spare : Nat → Bool} {held : Bool}
theorem c5 : Try.prog.cellsOf 5 = 1 := by kernel_rfl
theorem c33 : Try.prog.cellsOf 33 = 1 := by kernel_rfl
theorem c35 : Try.prog.cellsOf 35 = 16 := by kernel_rfl
theorem c37 : Try.prog.cellsOf 37 = 6 := by kernel_rfl
theorem c38 : Try.prog.cellsOf 38 = 15 := by kernel_rfl
theorem c41 : Try.prog.cellsOf 41 = 1 := by kernel_rfl
theorem c45 : Try.prog.cellsOf 45 = 22 := by kernel_rfl
theorem c47 : Try.prog.cellsOf 47 = 59 := by kernel_rfl
theorem some_at {α : Type} {xs : List α} {i n : Nat} (hl : xs.length = n) (hi : i < n) : ∃ y, xs[i]? = some y := ⟨_, List.getElem?_eq_getElem (by rw [hl]; exact hi)⟩
/-- Its bytes. -/
theorem dat_of {m : Nat} {dv : Value} {x : DataW H × List MemPlace} (hs : ∀ b, spare b = true) (h : DataW.trod enc Try.prog w base spare held m 41 [dv] = some x) : ∃ d, Dat 0 w dv d ∧ dlen d ≤ 9223372036854775807 := by
  rcases open_ints Try.underlying41 Try.underlying5 c5 h with ⟨hcs, _⟩ | ⟨a, l, c, zs, hcs, _, hl, hm, hz, _, hcell, _⟩
  · obtain rfl : dv = .slice none 0 0 := by simpa using hcs
    exact ⟨none, rfl, by simp [dlen]⟩
  · obtain rfl : dv = .slice (some a) l c := by simpa using hcs
    have hlen : (zs.take l).length = l := by
      rw [hs, if_pos rfl] at hz
      rw [List.length_take]
      omega
    refine ⟨some (zs.take l), ⟨a, c, by rw [hlen], ?_⟩, ?_⟩
    · intro j hj
      rw [hlen] at hj
      have hjz : j < zs.length := by
        rw [hs, if_pos rfl] at hz
        omega
      refine ⟨Nat.zero_le _, ?_⟩
      rw [hcell j hjz, List.getElem?_take, if_pos hj]
      simp [List.getD]
    · show (zs.take l).length ≤ _
      have : maxLen = 9223372036854775807 := rfl
      omega
/-- An element. -/
theorem elem_of {m : Nat} {C : List Value} {x : DataW H × List MemPlace} (hs : ∀ b, spare b = true) (h : DataW.trod enc Try.prog w base spare held m 47 C = some x) : ∃ ns dv d, Fit ns ∧ C = cs ns ++ [dv] ∧ Dat 0 w dv d ∧ dlen d ≤ 9223372036854775807 := by
  obtain ⟨xs, n, _, _, hl, hxl, hf⟩ := DataW.trod_struct Try.underlying47 h
  rw [c47] at hl
  have hxl : xs.length = 8 := hxl
  obtain ⟨y0, e0⟩ := some_at hxl (i := 0) (by omega)
  obtain ⟨y1, e1⟩ := some_at hxl (i := 1) (by omega)
  obtain ⟨y2, e2⟩ := some_at hxl (i := 2) (by omega)
  obtain ⟨y3, e3⟩ := some_at hxl (i := 3) (by omega)
  obtain ⟨y4, e4⟩ := some_at hxl (i := 4) (by omega)
  obtain ⟨y5, e5⟩ := some_at hxl (i := 5) (by omega)
  obtain ⟨y6, e6⟩ := some_at hxl (i := 6) (by omega)
  obtain ⟨y7, e7⟩ := some_at hxl (i := 7) (by omega)
  have f0 := (hf 0 _ rfl).trans e0
  have f1 := (hf 1 _ rfl).trans e1
  have f2 := (hf 2 _ rfl).trans e2
  have f3 := (hf 3 _ rfl).trans e3
  have f4 := (hf 4 _ rfl).trans e4
  have f5 := (hf 5 _ rfl).trans e5
  have f6 := (hf 6 _ rfl).trans e6
  have f7 := (hf 7 _ rfl).trans e7
  clear hf e0 e1 e2 e3 e4 e5 e6 e7
  have a0 := int_at (j := 0) Try.underlying5 c5 f0
  have a1 := int_at (j := 1) Try.underlying5 c5 f1
  have a2 := int_at (j := 2) Try.underlying33 c33 f2
  have a3 := int_at (j := 3) Try.underlying33 c33 f3
  have a4 := arr_at (j := 4) Try.underlying35 Try.underlying5 c5 c35 f4
  have a5 := arr_at (j := 20) Try.underlying35 Try.underlying5 c5 c35 f5
  obtain ⟨zs, n6, _, _, hl6, hzl, hg⟩ := DataW.trod_struct Try.underlying45 f6
  have hzl : zs.length = 3 := hzl
  obtain ⟨z0, g0⟩ := some_at hzl (i := 0) (by omega)
  obtain ⟨z1, g1⟩ := some_at hzl (i := 1) (by omega)
  obtain ⟨z2, g2⟩ := some_at hzl (i := 2) (by omega)
  have k0 := (hg 0 _ rfl).trans g0
  have k1 := (hg 1 _ rfl).trans g1
  have k2 := (hg 2 _ rfl).trans g2
  clear hg g0 g1 g2
  have b0 := arr_at (j := 0) Try.underlying37 Try.underlying5 c5 c37 k0
  have b1 := int_at (j := 6) Try.underlying5 c5 k1
  have b2 := arr_at (j := 7) Try.underlying38 Try.underlying33 c33 c38 k2
  have sub : ∀ {j : Nat} {k : IntKind}, j < 22 → At ((C.drop 36).take (Try.prog.cellsOf 45)) j k → At C (36 + j) k := by
    rintro j k hj ⟨z, hz, hw⟩
    rw [c45, get_sub hj] at hz
    exact ⟨z, hz, hw⟩
  obtain ⟨dv, hdv⟩ := some_at hl (i := 58) (by omega)
  have h41 : (C.drop 58).take (Try.prog.cellsOf 41) = [dv] := by
    rw [c41]
    apply List.ext_getElem?
    intro i
    by_cases hi : i < 1
    · obtain rfl : i = 0 := by omega
      rw [get_sub hi, hdv]
      rfl
    · rw [List.getElem?_eq_none (by rw [List.length_take]; omega), List.getElem?_eq_none (by simp; omega)]
  have f7' : DataW.trod enc Try.prog w base spare held n 41 [dv] = some y7 := by rw [← h41]; exact f7
  obtain ⟨d, hD, hdl⟩ := dat_of hs f7'
  obtain ⟨ns, hF, hC⟩ := fit_of (dv := dv) hl (fun j k hk => by
    have hj : j < 58 := by have := (List.getElem?_eq_some_iff.1 hk).1; rwa [kinds_len] at this
    have same : ∀ {k' : IntKind}, kinds[j]? = some k' → At C j k' → At C j k := by
      intro k' hk' h
      rw [hk] at hk'
      obtain rfl := Option.some.inj hk'
      exact h
    rcases (by omega : j = 0 ∨ j = 1 ∨ j = 2 ∨ j = 3 ∨ (4 ≤ j ∧ j < 20) ∨ (20 ≤ j ∧ j < 36) ∨ (36 ≤ j ∧ j < 42) ∨ j = 42 ∨ (43 ≤ j ∧ j < 58)) with rfl | rfl | rfl | rfl | hr | hr | hr | rfl | hr
    · exact same rfl a0
    · exact same rfl a1
    · exact same rfl a2
    · exact same rfl a3
    · have h1 := a4 (j - 4) (by omega)
      have h2 := kinds_ot (j - 4) (by omega)
      rw [show 4 + (j - 4) = j by omega] at h1 h2
      exact same h2 h1
    · have h1 := a5 (j - 20) (by omega)
      have h2 := kinds_it (j - 20) (by omega)
      rw [show 20 + (j - 20) = j by omega] at h1 h2
      exact same h2 h1
    · have h1 := sub (by omega) (b0 (j - 36) (by omega))
      have h2 := kinds_au (j - 36) (by omega)
      rw [show 36 + (0 + (j - 36)) = j by omega] at h1
      rw [show 36 + (j - 36) = j by omega] at h2
      exact same h2 h1
    · exact same rfl (sub (j := 6) (by omega) b1)
    · have h1 := sub (by omega) (b2 (j - 43) (by omega))
      have h2 := kinds_sub (j - 43) (by omega)
      rw [show 36 + (7 + (j - 43)) = j by omega] at h1
      rw [show 43 + (j - 43) = j by omega] at h2
      exact same h2 h1) hdv
  exact ⟨ns, dv, d, hF, hC, hD, hdl⟩
/-- The slice. -/
theorem row_of {m : Nat} {a : Option Addr} {len cap : Nat} {x : DataW H × List MemPlace} (hs : ∀ b, spare b = true) (h : DataW.trod enc Try.prog w base spare held m 22 [.slice a len cap] = some x) :
    ∃ ns d, Row w a len ns d ∧ (∀ i, i < len → dlen (d i) ≤ 9223372036854775807) ∧ len ≤ 9223372036854775807 ∧ (a = none → len = 0 ∧ cap = 0) := by
  rcases Deep.open_slice Try.underlying22 h with ⟨hcs, _⟩ | ⟨a', l, c, m', n, D, Pl, hcs, _, hl, hm, hmm, _, hx⟩
  · obtain ⟨rfl, rfl, rfl⟩ : a = none ∧ len = 0 ∧ cap = 0 := by simpa using hcs
    exact ⟨fun _ => [], fun _ => none, fun i hi => absurd hi (by omega), fun i hi => absurd hi (by omega), by omega, fun _ => ⟨rfl, rfl⟩⟩
  · obtain ⟨rfl, rfl, rfl⟩ : a = some a' ∧ len = l ∧ cap = c := by simpa using hcs
    rw [hs, if_pos rfl] at hmm
    subst hmm
    have hML : maxLen = 9223372036854775807 := rfl
    have each : ∀ i, ∃ q : List Int × Option (List Int) × Value, i < len → Fit q.1 ∧ Dat 0 w q.2.2 q.2.1 ∧ dlen q.2.1 ≤ 9223372036854775807 ∧ ∀ j, j < 59 → w.cell? ((a'.add (i * 59)).add j) = (cs q.1 ++ [q.2.2])[j]? := by
      intro i
      by_cases hi : i < len
      · obtain ⟨C, hC, hT⟩ := hx i (by omega)
        obtain ⟨ns, dv, d, hF, rfl, hD, hdl⟩ := elem_of hs hT
        rw [c47] at hC
        exact ⟨(ns, d, dv), fun _ => ⟨hF, hD, hdl, (World.cells?_some hC).2.2⟩⟩
      · exact ⟨([], none, .nilFunc), fun h => absurd h hi⟩
    obtain ⟨f, hf⟩ : ∃ f : Nat → List Int × Option (List Int) × Value, ∀ i, i < len → Fit (f i).1 ∧ Dat 0 w (f i).2.2 (f i).2.1 ∧ dlen (f i).2.1 ≤ 9223372036854775807 ∧ ∀ j, j < 59 → w.cell? ((a'.add (i * 59)).add j) = (cs (f i).1 ++ [(f i).2.2])[j]? := ⟨fun i => Classical.choose (each i), fun i => Classical.choose_spec (each i)⟩
    refine ⟨fun i => (f i).1, fun i => (f i).2.1, ?_, fun i hi => (hf i hi).2.2.1, by omega, fun h => by cases h⟩
    intro i hi
    obtain ⟨b, o, spot⟩ := a'
    have hspot : spot = none := by
      have h0 := (hf 0 (by omega)).2.2.2 0 (by omega)
      rw [List.getElem?_append_left (by rw [cs_len (hf 0 (by omega)).1]; omega), cs_get (hf 0 (by omega)).1 (j := 0) (k := .u8) rfl] at h0
      simpa [Addr.add] using World.cell?_spot h0
    subst hspot
    obtain ⟨hF, hD, _, hc⟩ := hf i hi
    refine ⟨b, o, (f i).2.2, rfl, ⟨hF, ?_⟩, hD⟩
    intro j v hv
    have hj : j < 59 := by
      have := (List.getElem?_eq_some_iff.1 hv).1
      rwa [List.length_append, cs_len hF] at this
    have h1 := hc j hj
    rw [Go.WideShapes.add_plain, Go.WideShapes.add_plain] at h1
    rw [h1, hv]
end
end Go.Proofs.Qxb6604391a.Aces
