/-
  sidReachable, allReachable: a bool comes back; nothing old has turned.
-/
import Derived.Test.Qxb6604391aAces
namespace Go.Proofs.Qxb6604391a.Aces
open Go.RowKit
theorem get_of {X : Array Value} {i : Nat} {v : Value} (h : X[i]? = some v) : ∀ hi : i < X.size, X[i] = v := fun hi => by
  rw [Array.getElem?_eq_getElem hi] at h
  exact Option.some.inj h
set_option maxHeartbeats 1000000 in
theorem sid_any (X : Array Value) (c : Int) (s : Nat → Int) (w : World) (hX : X.size = 22) (hc0 : 0 ≤ c) (hc1 : c ≤ 255) (h6 : X[6]? = some (.int .u8 c)) (hs : ∀ i, i < 15 → X[7 + i]? = some (.int .u32 (s i))) :
    Calls Try.prog 18 #[.agg X] w fun e w' => IsBool e ∧ Below w.heap.size w w' := by
  have h6' := get_of h6
  have HS : Hid (∀ i, i < 15 → X[7 + i]? = some (.int .u32 (s i))) := hs
  clear hs
  by_cases hbig : 15 < c
  · go_enter Try.func18, Try.ntmps18
    go_wp2
    go_ret
    exact ⟨⟨_, rfl⟩, (Below.refl _ _).alloc (Nat.le_refl _) _⟩
  · obtain ⟨n, rfl⟩ := Int.eq_ofNat_of_zero_le hc0
    go_enter Try.func18, Try.ntmps18
    go_wp2
    go_loop [3] (fun vi => ∃ k : Nat, k ≤ 15 ∧ vi = .int .i64 k) (fun vi => 15 - (intOf vi).toNat)
    case atStart => exact ⟨n, by omega, rfl⟩
    case round =>
      obtain ⟨k, hk, rfl⟩ := hrel
      by_cases hlt : k < 15
      · have hk1 := HS.out k hlt
        have hk2 := get_of hk1
        have hki : (k : Int) < 15 := by omega
        by_cases hz : s k = 0
        · have hz' : (s k != 0) = false := by simp [hz]
          have HZ : Hid (s k = 0) := hz
          clear hz
          go_wp2
          go_round
          case rel => exact ⟨k + 1, by omega, by go_num⟩
          case measure => simp [intOf]; omega
        · have hz' : (s k != 0) = true := by simpa using hz
          clear hz
          go_wp2
          go_ret
          exact ⟨⟨_, rfl⟩, (Below.refl _ _).alloc (Nat.le_refl _) _⟩
      · go_wp2
        go_ret
        exact ⟨⟨_, rfl⟩, (Below.refl _ _).alloc (Nat.le_refl _) _⟩

/-! ### AN ELEMENT: 58 numbers and a slice -/
/-- The kinds of an element's first 58 cells. -/
def kinds : List IntKind := [.u8, .u8, .u32, .u32] ++ List.replicate 16 .u8 ++ List.replicate 16 .u8 ++ List.replicate 6 .u8 ++ [.u8] ++ List.replicate 15 .u32
theorem kinds_len : kinds.length = 58 := rfl
/-- The cells of 58 numbers. -/
def cs (ns : List Int) : List Value := List.zipWith Value.int kinds ns
/-- 58 numbers, each of its kind. -/
def Fit (ns : List Int) : Prop := ns.length = 58 ∧ ∀ (j : Nat) (k : IntKind) (n : Int), kinds[j]? = some k → ns[j]? = some n → (Lit.int k n).wf = true
theorem cs_len {ns : List Int} (h : Fit ns) : (cs ns).length = 58 := by rw [cs, List.length_zipWith, kinds_len, h.1]; rfl
theorem cs_get {ns : List Int} (h : Fit ns) {j : Nat} {k : IntKind} (hk : kinds[j]? = some k) : (cs ns)[j]? = some (.int k (ns[j]?.getD 0)) := by
  have hj : j < 58 := by have := (List.getElem?_eq_some_iff.1 hk).1; rwa [kinds_len] at this
  rw [cs, List.getElem?_zipWith, hk, List.getElem?_eq_getElem (by rw [h.1]; exact hj)]
  rfl
theorem cs_one {ns : List Int} : ∀ v ∈ cs ns, v.oneCell' = true := by
  intro v hv
  obtain ⟨i, hi, rfl⟩ := List.mem_iff_getElem.1 hv
  simp only [cs, List.getElem_zipWith]
  rfl
/-- An element lies at b, o. -/
def El (w : World) (b o : Nat) (ns : List Int) (dv : Value) : Prop := Fit ns ∧ w.rangeAt b o (cs ns ++ [dv])
theorem range_sub {w : World} {b o : Nat} {L : List Value} (h : w.rangeAt b o L) (s t : Nat) : w.rangeAt b (o + s) ((L.drop s).take t) := by
  intro j v hv
  rw [List.getElem?_take] at hv
  split at hv
  · rw [List.getElem?_drop] at hv
    rw [Nat.add_assoc]
    exact h _ v hv
  · cases hv
theorem range_below {w wr : World} {b o : Nat} {L : List Value} (h : w.rangeAt b o L) (hb : Below w.heap.size w wr) : wr.rangeAt b o L := by
  intro j v hv
  have h1 := h j v hv
  exact (hb.cell (World.block_lt_of_cell? w _ h1)).trans h1
theorem El.below {w wr : World} {b o : Nat} {ns : List Int} {dv : Value} (h : El w b o ns dv) (hb : Below w.heap.size w wr) : El wr b o ns dv := ⟨h.1, range_below h.2 hb⟩
theorem El.cell {w : World} {b o : Nat} {ns : List Int} {dv : Value} (h : El w b o ns dv) {j : Nat} {k : IntKind} (hk : kinds[j]? = some k) : w.cell? ⟨b, o + j, none⟩ = some (.int k (ns[j]?.getD 0)) := by
  have hj : j < 58 := by have := (List.getElem?_eq_some_iff.1 hk).1; rwa [kinds_len] at this
  refine h.2 j _ ?_
  rw [List.getElem?_append_left (by rw [cs_len h.1]; exact hj)]
  exact cs_get h.1 hk
theorem El.last {w : World} {b o : Nat} {ns : List Int} {dv : Value} (h : El w b o ns dv) : w.cell? ⟨b, o + 58, none⟩ = some dv := by
  refine h.2 58 _ ?_
  rw [List.getElem?_append_right (by rw [cs_len h.1]; exact Nat.le_refl _), cs_len h.1]
  rfl
/-- The cells of its SID. -/
def sid (ns : List Int) : List Value := (cs ns).drop 36
theorem sid_len {ns : List Int} (h : Fit ns) : (sid ns).length = 22 := by rw [sid, List.length_drop, cs_len h]
theorem El.sid {w : World} {b o : Nat} {ns : List Int} {dv : Value} (h : El w b o ns dv) : w.rangeAt b (o + 36) (sid ns) := by
  have h1 := range_sub h.2 36 22
  have e : ((cs ns ++ [dv]).drop 36).take 22 = Aces.sid ns := by
    rw [List.drop_append_of_le_length (by rw [cs_len h.1]; omega), List.take_append_of_le_length (by rw [List.length_drop, cs_len h.1]; omega), List.take_of_length_le (by rw [List.length_drop, cs_len h.1]; omega)]
    rfl
  rwa [e] at h1
theorem Fit.byte {ns : List Int} (h : Fit ns) {j : Nat} (hk : kinds[j]? = some .u8) : 0 ≤ ns[j]?.getD 0 ∧ ns[j]?.getD 0 ≤ 255 := by
  have hj : j < 58 := by have := (List.getElem?_eq_some_iff.1 hk).1; rwa [kinds_len] at this
  have e : ns[j]? = some (ns[j]'(by rw [h.1]; exact hj)) := List.getElem?_eq_getElem _
  rw [e]
  exact bounds_u8 (h.2 j _ _ hk e)
theorem kinds_sub : ∀ i, i < 15 → kinds[43 + i]? = some .u32 := by decide
theorem sid_at {ns : List Int} (h : Fit ns) {j : Nat} {k : IntKind} (hk : kinds[36 + j]? = some k) : (sid ns).toArray[j]? = some (.int k (ns[36 + j]?.getD 0)) := by
  rw [List.getElem?_toArray, sid, List.getElem?_drop]
  exact cs_get h hk
theorem sid_at' {ns : List Int} (h : Fit ns) (i : Nat) (hi : i < 15) : (sid ns).toArray[7 + i]? = some (.int .u32 (ns[43 + i]?.getD 0)) := by
  have := sid_at h (j := 7 + i) (k := .u32) (by rw [show 36 + (7 + i) = 43 + i by omega]; exact kinds_sub i hi)
  rwa [show 36 + (7 + i) = 43 + i by omega] at this
theorem size45 : (Try.prog.info? 45).map (·.size) = some 22 := by kernel_rfl

set_option maxHeartbeats 1000000 in
/-- allReachable. -/
theorem reach_any (ao : Option Addr) (n c : Nat) (w : World) (ns : Nat → List Int) (dv : Nat → Value) (hn : n ≤ 1048576) (hr : ∀ i, i < n → ∃ b o, ao = some ⟨b, o, none⟩ ∧ El w b (o + i * 59) (ns i) (dv i)) :
    Calls Try.prog 9 #[.slice ao n c] w fun e w' => IsBool e ∧ Below w.heap.size w w' := by
  have HR : Hid (∀ i, i < n → ∃ b o, ao = some ⟨b, o, none⟩ ∧ El w b (o + i * 59) (ns i) (dv i)) := hr
  clear hr
  go_enter Try.func9, Try.ntmps9
  go_wp2
  go_loopw [3] (fun vi wr => ∃ k : Nat, k ≤ n ∧ vi = .int .i64 k ∧ Hid (Below w.heap.size w wr)) (fun vi _ => n - (intOf vi).toNat)
  case atStart => exact ⟨0, by omega, rfl, Below.refl _ _⟩
  case round =>
    obtain ⟨k, hk, rfl, HB⟩ := hrel
    by_cases hlt : k < n
    · obtain ⟨b, o, hao, hE⟩ := HR.out k hlt
      rw [hao]
      have hki : (k : Int) < (n : Int) := by omega
      have HS : Hid (wr.rangeAt b (o + k * 59 + 36) (sid (ns k))) := (hE.below HB.out).sid
      have HF : Hid (Fit (ns k)) := hE.1
      clear hE hao
      go_wp2_with (refine wpList_load_mid rfl 45 _ rfl b (o + k * 59 + 36) rfl (sid (ns k)) _ HS.out Try.underlying45 rfl (by rw [sid_len HF.out]; exact size45) ?_)
      refine (sid_any _ ((ns k)[42]?.getD 0) (fun i => (ns k)[43 + i]?.getD 0) _ (by rw [List.size_toArray]; exact sid_len HF.out) (HF.out.byte (j := 42) rfl).1 (HF.out.byte (j := 42) rfl).2 (sid_at HF.out rfl) (fun i hi => sid_at' HF.out i hi)).mono ?_
      rintro e w1 ⟨⟨r, rfl⟩, hb1⟩
      have HB1 : Hid (Below w.heap.size w w1) := HB.out.trans (hb1.mono HB.out.size)
      clear hb1 HB HS HF
      cases r
      · go_wp2
        go_ret
        exact ⟨⟨_, rfl⟩, HB1.out⟩
      · go_wp2
        go_roundw
        case rel => exact ⟨k + 1, by omega, by go_num, HB1⟩
        case measure => simp [intOf]; omega
    · go_wp2
      go_ret
      exact ⟨⟨_, rfl⟩, HB.out⟩
end Go.Proofs.Qxb6604391a.Aces
