/-
  appendExplicit.
-/
import Derived.Test.Qxb6604391aLists
namespace Go.Proofs.Qxb6604391a.Aces
open Go.RowKit
/-- An element's cells, by its numbers and its slice. -/
def elc (ns : Nat → List Int) (f : Nat → Value) (i : Nat) : List Value := cs (ns i) ++ [f i]
/-- The elements of aces, then those that were appended. -/
def accE (nsA : Nat → List Int) (dvA : Nat → Value) (n : Nat) (nsF : Nat → List Int) (f : Nat → Value) (ex : List Nat) : List (List Value) := (List.range n).map (elc nsA dvA) ++ ex.map (elc nsF f)
def upd (f : Nat → Value) (k : Nat) (v : Value) : Nat → Value := fun i => if i = k then v else f i
/-- The flags of the elements of from. -/
def flg (ns : Nat → List Int) (i : Nat) : Int := fN (ns i) 1
/-- What holds behind k rounds. -/
def Acc (w : World) (ao : Option Addr) (n : Nat) (nsA : Nat → List Int) (dvA : Nat → Value) (nsF : Nat → List Int) (dF : Nat → Option (List Int)) (k : Nat) (wr : World) (v : Value) (f : Nat → Value) : Prop :=
  (∀ i, i ∈ exl (flg nsF) k → DatT wr (f i) (dF i)) ∧ Below w.heap.size w wr ∧
  ((exl (flg nsF) k = [] ∧ v = .slice ao n n) ∨ (exl (flg nsF) k ≠ [] ∧ wr.ownsRow w.heap.size 43 59 v (n + (exl (flg nsF) k).length) (accE nsA dvA n nsF f (exl (flg nsF) k)).flatten))
section
variable {w wr : World} {ao : Option Addr} {n : Nat} {nsA : Nat → List Int} {dvA : Nat → Value} {nsF : Nat → List Int} {dF : Nat → Option (List Int)} {k : Nat} {v : Value} {f : Nat → Value}
theorem Acc.below {w2 : World} (h : Acc w ao n nsA dvA nsF dF k wr v f) (hb : Below wr.heap.size wr w2) : Acc w ao n nsA dvA nsF dF k w2 v f :=
  ⟨fun i hi => (h.1 i hi).below hb, h.2.1.trans (hb.mono h.2.1.size), h.2.2.imp id (fun ⟨h1, h2⟩ => ⟨h1, owns_below h2 hb⟩)⟩
theorem Acc.skip (h : Acc w ao n nsA dvA nsF dF k wr v f) (hx : (bits .and .u8 (flg nsF k) 16 == 0) = false) : Acc w ao n nsA dvA nsF dF (k + 1) wr v f := by
  unfold Acc
  rw [exl_no hx]
  exact h
theorem accE_upd (ex : List Nat) (hk : k ∉ ex) (dk : Value) : accE nsA dvA n nsF (upd f k dk) (ex ++ [k]) = accE nsA dvA n nsF f ex ++ [elc nsF (upd f k dk) k] := by
  unfold accE
  rw [List.map_append, ← List.append_assoc]
  congr 1
  congr 1
  refine List.map_congr_left fun i hi => ?_
  have : i ≠ k := fun e => hk (e ▸ hi)
  simp [elc, upd, this]
theorem Acc.more {w5 w6 : World} {v' dk : Value} {row : Option Nat} (h : Acc w ao n nsA dvA nsF dF k wr v f) (hx : (bits .and .u8 (flg nsF k) 16 == 0) = true) (hb5 : Below wr.heap.size wr w5) (hD : DatT w5 dk (dF k))
    (ho : w6.ownsRow w.heap.size 43 59 v' (n + (exl (flg nsF) k).length + 1) ((accE nsA dvA n nsF f (exl (flg nsF) k)).flatten ++ (cs (nsF k) ++ [dk]))) (hg : w5.grownBy w6 row)
    (hrow : ∀ g, row = some g → w.heap.size ≤ g ∧ ∃ C fz, w5.heap[g]? = some (Obj.cells C 43 fz)) : Acc w ao n nsA dvA nsF dF (k + 1) w6 v' (upd f k dk) := by
  have hb05 : Below w.heap.size w w5 := h.2.1.trans (hb5.mono h.2.1.size)
  refine ⟨?_, hb05.grown hg hb05.size (fun g e => (hrow g e).1), .inr ?_⟩
  · intro i hi
    rw [exl_yes hx] at hi
    rcases List.mem_append.1 hi with hi | hi
    · have hne : i ≠ k := by have := exl_lt hi; omega
      simp only [upd, if_neg hne]
      exact ((h.1 i hi).below hb5).grown hg (fun g e => (hrow g e).2)
    · obtain rfl : i = k := by simpa using hi
      simp only [upd, if_true]
      exact hD.grown hg (fun g e => (hrow g e).2)
  · rw [exl_yes hx]
    refine ⟨by simp, ?_⟩
    rw [accE_upd _ (fun hk => by have := exl_lt hk; omega), List.flatten_append, List.length_append, List.length_singleton, ← Nat.add_assoc]
    have e : [elc nsF (upd f k dk) k].flatten = cs (nsF k) ++ [dk] := by simp [elc, upd]
    rw [e]
    exact ho
end
/-- The cells of aces' row. -/
theorem row_cells {w : World} {b o n : Nat} {nsA : Nat → List Int} {dvA : Nat → Value} (h : ∀ i, i < n → El w b (o + i * 59) (nsA i) (dvA i)) (j : Nat) (u : Value) (hu : ((List.range n).map (elc nsA dvA)).flatten[j]? = some u) : w.cell? ⟨b, o + j, none⟩ = some u := by
  have hall : ∀ l ∈ (List.range n).map (elc nsA dvA), l.length = 59 := by
    intro l hl
    obtain ⟨i, hi, rfl⟩ := List.mem_map.1 hl
    rw [elc, List.length_append, cs_len (h i (List.mem_range.1 hi)).1]
    rfl
  have e : j = j / 59 * 59 + j % 59 := by omega
  rw [e, flat_at _ hall _ _ (Nat.mod_lt _ (by omega))] at hu
  obtain ⟨l, hl, hu2⟩ := Option.bind_eq_some_iff.1 hu
  rw [List.getElem?_map] at hl
  obtain ⟨i, hi, rfl⟩ := Option.map_eq_some_iff.1 hl
  obtain ⟨hlt, hi2⟩ := List.getElem?_eq_some_iff.1 hi
  rw [List.getElem_range] at hi2
  subst hi2
  rw [List.length_range] at hlt
  have h1 := (h _ hlt).2 (j % 59) u hu2
  rw [e, ← Nat.add_assoc]
  exact h1
theorem rowA_len {n : Nat} {nsA : Nat → List Int} {dvA : Nat → Value} (h : ∀ i, i < n → Fit (nsA i)) : ((List.range n).map (elc nsA dvA)).flatten.length = n * 59 := by
  rw [flat_len]
  · rw [List.length_map, List.length_range]
  · intro l hl
    obtain ⟨i, hi, rfl⟩ := List.mem_map.1 hl
    rw [elc, List.length_append, cs_len (h i (List.mem_range.1 hi))]
    rfl

/-- A slice of one element, as the walk meets it. -/
theorem wpList_bs1 {ops : Array Oper} {rest : List Oper} {o : Oper} {a : Act} {w : World} {Q : Exit → Act → World → Prop} (hg : o.guard = none) (x : Operand) (ho : o.op = .buildSlice 27 1 #[(0, x)]) (L : List Value) (hx : a.eval x = .agg L.toArray)
    (hr : ∀ W : World, (Instr.buildSlice 27 1 #[(0, .agg L.toArray)]).run Try.prog W = .ok (.slice (some ⟨W.heap.size, 0, none⟩) 1 1) (W.alloc (.cells L.toArray 43)))
    (h : wpList Try.prog ops Q rest (a.put o.dst (.slice (some ⟨w.heap.size, 0, none⟩) 1 1)) (w.alloc (.cells L.toArray 43))) : wpList Try.prog ops Q (o :: rest) a w := by
  refine wpList_bs hg 27 1 #[(0, x)] ho _ ?_ h
  have e : (#[(0, x)].map fun (i, x) => (i, a.eval x)) = #[(0, Value.agg L.toArray)] := by simp [hx]
  rw [e]
  exact hr w
/-- The variable behind the store of its last cell. -/
theorem range_last {w : World} {B : Nat} {ns : List Int} {dv v' : Value} (hF : Fit ns) (h : w.rangeAt B 0 (cs ns ++ [dv])) (ht : w.there B 0 59) : (w.setCell ⟨B, 58, none⟩ v').rangeAt B 0 (cs ns ++ [v']) := by
  have e1 : w.setCell ⟨B, 58, none⟩ v' = w.setCells B 58 [v'] := rfl
  rw [e1]
  intro j u hu
  rw [Nat.zero_add]
  by_cases hj : j < 58
  · rw [List.getElem?_append_left (by rw [cs_len hF]; exact hj)] at hu
    have h1 := h j u (by rw [List.getElem?_append_left (by rw [cs_len hF]; exact hj)]; exact hu)
    rw [Nat.zero_add] at h1
    rw [World.cell?_setCells_out _ _ _ _ _ (fun _ _ => .inl hj)]
    exact h1
  · have hj58 : j = 58 := by
      have := (List.getElem?_eq_some_iff.1 hu).1
      rw [List.length_append, cs_len hF] at this
      simp at this
      omega
    subst hj58
    rw [List.getElem?_append_right (by rw [cs_len hF]; exact Nat.le_refl _), cs_len hF] at hu
    obtain rfl : v' = u := by simpa using hu
    exact World.cell?_setCells_in B [v'] 58 w (fun j hj => by
      have := (there_sub ht 58 1 (by omega)) j (by simpa using hj); exact this.1) 0 (by simp)

set_option maxHeartbeats 1000000 in
set_option maxRecDepth 100000 in
theorem app_walk (ao af : Option Addr) (n m cF : Nat) (w : World) (nsA nsF : Nat → List Int) (dvA : Nat → Value) (dF : Nat → Option (List Int)) (hn : n ≤ 65536) (hm : m ≤ 65536) (hnone : ao = none → n = 0)
    (hA : ∀ i, i < n → ∃ b o, ao = some ⟨b, o, none⟩ ∧ El w b (o + i * 59) (nsA i) (dvA i)) (hF : Row w af m nsF dF) (hd : ∀ i, i < m → dlen (dF i) ≤ 1048576) :
    Calls Try.prog 20 #[.slice ao n n, .slice af m cF] w fun e w' => ∃ v f, e = .returned v ∧ Acc w ao n nsA dvA nsF dF m w' v f := by
  obtain ⟨i0, z, hi, hz0, hz1, hz2, hz3⟩ := parts59 info43'
  have HI : Hid (Try.prog.info? 43 = some i0 ∧ i0.zero = some (.agg z) ∧ i0.size = 59 ∧ i0.bytes = 136 ∧ (Value.agg z).cells.size = 59) := ⟨hi, hz0, hz1, hz2, hz3⟩
  have HA : Hid (∀ i, i < n → ∃ b o, ao = some ⟨b, o, none⟩ ∧ El w b (o + i * 59) (nsA i) (dvA i)) := hA
  have HF : Hid (Row w af m nsF dF) := hF
  have HD : Hid (∀ i, i < m → dlen (dF i) ≤ 1048576) := hd
  have HN : Hid (ao = none → n = 0) := hnone
  clear hi hz0 hz1 hz2 hz3 hA hF hd hnone
  go_enter Try.func20, Try.ntmps20
  go_wp2
  go_loopw [0, 9] (fun v i wr => ∃ k : Nat, k ≤ m ∧ i = .int .i64 k ∧ Hid (∃ f, Acc w ao n nsA dvA nsF dF k wr v f)) (fun _ i _ => m - (intOf i).toNat)
  case atStart => exact ⟨0, Nat.zero_le _, rfl, fun _ => .slice none 0 0, fun i hi => by simp [exl] at hi, Below.refl _ _, .inl ⟨rfl, rfl⟩⟩
  case round =>
    obtain ⟨k, hk, rfl, HAc⟩ := hrel
    by_cases hlt : k < m
    · obtain ⟨b, o, dv, ha, hE, hDt⟩ := HF.out k hlt
      obtain ⟨f, hAcc⟩ := HAc.out
      have HAcc : Hid (Acc w ao n nsA dvA nsF dF k wr u0 f) := hAcc
      rw [ha]
      have hki : (k : Int) < (m : Int) := by omega
      have hFt : Hid (Fit (nsF k)) := hE.1
      obtain ⟨a', cap', hv', _⟩ := hDt.shape
      have HDr : Hid (Dat 0 wr dv (dF k)) := hDt.below hAcc.2.1
      obtain ⟨L, hL⟩ : ∃ L, L = cs (nsF k) ++ [dv] := ⟨_, rfl⟩
      have hl59 : L.length = 59 := by rw [hL, List.length_append, cs_len hE.1]; rfl
      have HONE : Hid (L.toArray.all (·.oneCell') = true) := by
        refine all_oneCell_toArray fun v hv => ?_
        rw [hL] at hv
        rcases List.mem_append.1 hv with h | h
        · exact cs_one v h
        · obtain rfl : v = dv := by simpa using h
          rw [hv']; rfl
      have HRg : Hid (wr.rangeAt b (o + k * 59) L) := by rw [hL]; exact (hE.below hAcc.2.1).2
      have HLn : Hid (L.length = 59) := hl59
      have HLs : Hid (L.toArray.size = 59) := by rw [List.size_toArray]; exact hl59
      have HSz : Hid ((Try.prog.info? 43).map (·.size) = some L.length) := by rw [hl59]; exact size43
      have HLe : Hid (L = cs (nsF k) ++ [dv]) := hL
      have HX1 : Hid (L.toArray[1]? = some (.int .u8 (flg nsF k))) := by
        show L.toArray[1]? = _
        rw [List.getElem?_toArray, hL, List.getElem?_append_left (by rw [cs_len hE.1]; omega)]
        exact cs_get hE.1 (j := 1) rfl
      clear hE hDt hl59 ha hL hv' hAcc HAc
      go_wp2_with (first
        | (refine wpList_load_mid rfl 43 (.tmp 11) rfl b (o + k * 59) rfl L _ HRg.out Try.underlying43 rfl HSz.out ?_)
        | (refine store_fresh rfl (.tmp 6) (.tmp 12) rfl wr _ rfl L rfl rfl HLn.out HONE.out ?_; intro W1 hr1 ht1 hb1)
        | (refine wpList_load_mid rfl 43 (.tmp 6) rfl wr.heap.size 0 rfl L _ hr1 Try.underlying43 rfl HSz.out ?_))
      have HR1 : Hid (W1.rangeAt wr.heap.size 0 L) := hr1
      have HT1 : Hid (W1.there wr.heap.size 0 59) := ht1
      have HB1 : Hid (Below wr.heap.size wr W1) := hb1
      clear hr1 ht1 hb1
      refine (inh_any L.toArray (flg nsF k) _ HLs.out HX1.out).mono ?_
      rintro e w2 ⟨rfl, hb2⟩
      have HB2 : Hid (Below wr.heap.size wr w2) := HB1.out.trans (hb2.mono HB1.out.size)
      have HR2 : Hid (w2.rangeAt wr.heap.size 0 L) := range_below HR1.out hb2
      have HT2 : Hid (w2.there wr.heap.size 0 59) := there_below HT1.out hb2
      clear hb2 HR1 HT1 HB1 HX1
      cases hx : (bits .and .u8 (flg nsF k) 16 == 0)
      · have hx' : (bits .and .u8 (flg nsF k) 16 != 0) = true := by simp [bne, hx]
        have HX : Hid ((bits .and .u8 (flg nsF k) 16 == 0) = false) := hx
        have HA2 : Hid (Acc w ao n nsA dvA nsF dF (k + 1) w2 u0 f) := (HAcc.out.below HB2.out).skip hx
        go_wp2
        go_roundw
        case rel => exact ⟨k + 1, by omega, by go_num, f, HA2.out⟩
        case measure => simp [intOf]; omega
      · have hx' : (bits .and .u8 (flg nsF k) 16 != 0) = false := by simp [bne, hx]
        have HX : Hid ((bits .and .u8 (flg nsF k) 16 == 0) = true) := hx
        have hlt2 : wr.heap.size < w2.heap.size := there_lt HT2.out (by omega)
        have c58 : w2.cell? ⟨wr.heap.size, 58, none⟩ = some dv := by
          have h := HR2.out
          rw [HLe.out] at h
          have h2 := h 58 dv (by rw [List.getElem?_append_right (by rw [cs_len hFt.out]; exact Nat.le_refl _), cs_len hFt.out]; rfl)
          rwa [Nat.zero_add] at h2
        clear hx
        go_wp2_with fail
        refine (bcloneT_any dv (dF k) _ (HDr.out.below HB2.out) (HD.out k hlt)).mono ?_
        rintro e w3 ⟨v', rfl, hD3, hG3, hb3⟩
        obtain ⟨a3, cp3, hv3, _⟩ := hD3.dat.shape
        have ht3 := there_below HT2.out hb3
        obtain ⟨uu, huu⟩ := Option.isSome_iff_exists.1 ((there_sub ht3 58 1 (by omega)) 0 (by omega)).1
        have cu : w3.cell? ⟨wr.heap.size, 58, none⟩ = some uu := huu
        have fu : w3.frozen? ⟨wr.heap.size, 58, none⟩ = false := ((there_sub ht3 58 1 (by omega)) 0 (by omega)).2
        obtain ⟨L', hL'⟩ : ∃ L', L' = cs (nsF k) ++ [v'] := ⟨_, rfl⟩
        have HR4 : Hid ((w3.setCell ⟨wr.heap.size, 58, none⟩ v').rangeAt wr.heap.size 0 L') := by
          rw [hL']
          have h := range_below HR2.out hb3
          rw [HLe.out] at h
          exact range_last hFt.out h ht3
        have HD4 : Hid (DatT (w3.setCell ⟨wr.heap.size, 58, none⟩ v') v' (dF k)) := by
          cases hdk : dF k with
          | none => rw [hdk] at hD3; exact hD3
          | some zs =>
            rw [hdk] at hD3
            obtain ⟨a, cp, hv, hc⟩ := hD3
            refine ⟨a, cp, hv, fun j hj => ?_⟩
            have hge := hG3 zs hdk (by omega) a _ cp hv
            have hhb : (w3.setCell ⟨wr.heap.size, 58, none⟩ v').heap[a.block]? = w3.heap[a.block]? := Below.heap_setCell _ _ _ _ (by show a.block ≠ wr.heap.size; omega)
            obtain ⟨⟨C, fz, hb⟩, hcell⟩ := hc j hj
            exact ⟨⟨C, fz, hhb.trans hb⟩, by rw [World.cell?_of_block (w := w3) (by rw [add_block]; exact hhb)]; exact hcell⟩
        have HB4 : Hid (Below wr.heap.size wr (w3.setCell ⟨wr.heap.size, 58, none⟩ v')) := (HB2.out.trans (hb3.mono (by omega))).setCell (Nat.le_refl _) _
        have hl59' : L'.length = 59 := by rw [hL', List.length_append, cs_len hFt.out]; rfl
        have HLn' : Hid (L'.length = 59) := hl59'
        have HSz' : Hid ((Try.prog.info? 43).map (·.size) = some L'.length) := by rw [hl59']; exact size43
        have HBS : Hid (∀ W : World, (Instr.buildSlice 27 1 #[(0, .agg L'.toArray)]).run Try.prog W = .ok (.slice (some ⟨W.heap.size, 0, none⟩) 1 1) (W.alloc (.cells L'.toArray 43))) := by rw [hL']; exact fun W => run_bs' (nsF k) v' hFt.out W
        have HONE' : Hid (∀ v ∈ L', v.oneCell' = true) := by
          intro v hv
          rw [hL'] at hv
          rcases List.mem_append.1 hv with h | h
          · exact cs_one v h
          · obtain rfl : v = v' := by simpa using h
            rw [hv3]; rfl
        have HLe' : Hid (L' = cs (nsF k) ++ [v']) := hL'
        clear hD3 hG3 hb3 ht3 huu hl59' hL' HR2 HT2 HB2 c58 HONE HRg HLn HLs HSz HLe HDr
        rw [hv3]
        rw [hv3] at HR4 HD4 HB4 HLe'
        clear hv3
        have hex : (exl (flg nsF) k).length ≤ k := by rw [exl_len]; exact cnt_le _ _
        have HW5 : Hid (∀ ob, Below wr.heap.size wr ((w3.setCell ⟨wr.heap.size, 58, none⟩ (.slice a3 (dlen (dF k)) cp3)).alloc ob)) := fun ob => HB4.out.alloc HB4.out.size ob
        have HNW : Hid (∀ (W : World) (t : TypeId) (bb : Nat), bb = W.heap.size → ∀ j u, L'[j]? = some u → (W.alloc (.cells L'.toArray t)).cell? ((⟨bb, 0, none⟩ : Addr).add j) = some u) := by
          intro W t bb hbb j u hu
          subst hbb
          rw [Addr.add_mid, Nat.zero_add, cell_of_row _ _ j L'.toArray t (0, 0) (heap_alloc_new W _)]
          simpa using hu
        rcases HAcc.out.2.2 with ⟨hnil, hu0⟩ | ⟨hnn, hown⟩
        · rw [hu0]
          have HE : Hid (exl (flg nsF) k = []) := hnil
          have HACC : Hid (Acc w ao n nsA dvA nsF dF k wr (.slice ao n n) f) := by rw [← hu0]; exact HAcc.out
          clear hnil hu0 HAcc
          go_wp2_with (first
            | (refine wpList_load_mid rfl 43 (.tmp 6) rfl wr.heap.size 0 rfl L' _ HR4.out Try.underlying43 rfl HSz'.out ?_)
            | (refine wpList_bs1 rfl (.tmp 21) rfl L' rfl HBS.out ?_)
            | (at_builtin; refine wpList_append_grows _ rfl (.tmp 20) (.tmp 22) 27 rfl 43 i0 (.agg z) 59 136 Try.underlying27 HI.out.1 HI.out.2.1 HI.out.2.2.1 HI.out.2.2.2.1 HI.out.2.2.2.2 (by decide) ao n n ((List.range n).map (elc nsA dvA)).flatten rfl ?e1 ?e2 ?e3 _ 1 1 L' rfl ?e4 ?e5 HONE'.out ?e6 ?e7 ?e8 ?_))
          case e1 => exact fun h => ⟨HN.out h, HN.out h⟩
          case e2 => exact rowA_len (fun i hi => by obtain ⟨_, _, _, h⟩ := HA.out i hi; exact h.1)
          case e3 =>
            intro b' hb' j u hu
            by_cases h0 : 0 < n
            · obtain ⟨b0, o0, ha0, _⟩ := HA.out 0 h0
              rw [hb'] at ha0
              obtain rfl := Option.some.inj ha0
              have hall : ∀ i, i < n → El w b0 (o0 + i * 59) (nsA i) (dvA i) := by
                intro i hi
                obtain ⟨b1, o1, ha1, h1⟩ := HA.out i hi
                rw [hb'] at ha1
                cases ha1
                exact h1
              have h1 := row_cells hall j u hu
              rw [Addr.add_mid]
              have hlt := World.block_lt_of_cell? w _ h1
              have hw := HACC.out.2.1
              exact ((HW5.out _).cell (p := ⟨b0, o0 + j, none⟩) (Nat.lt_of_lt_of_le hlt hw.size)).trans ((hw.cell (p := ⟨b0, o0 + j, none⟩) hlt).trans h1)
            · obtain rfl : n = 0 := by omega
              simp at hu
          case e4 => rw [HLn'.out]
          case e5 => exact HNW.out _ _ _ (by simp)
          case e6 => omega
          case e7 => unfold maxLen; omega
          case e8 => omega
          intro v2 w6 ho6 hg6
          have HA6 : Hid (Acc w ao n nsA dvA nsF dF (k + 1) w6 v2 (upd f k (.slice a3 (dlen (dF k)) cp3))) := by
            have h7 := Joins.ownsRow_le (base' := w.heap.size) ho6 (by have h1 := HACC.out.2.1.size; have h2 := (HW5.out (.cells #[] 43)).size; simp at h2; omega)
            refine HACC.out.more HX.out (HW5.out _) (HD4.out.below ((Below.refl _ _).alloc (Nat.le_refl _) _)) ?_ hg6 (fun g e => by cases e)
            rw [HE.out, ← HLe'.out, show accE nsA dvA n nsF f [] = (List.range n).map (elc nsA dvA) by simp [accE]]
            exact h7
          clear ho6 hg6
          go_wp2
          go_roundw
          case rel => exact ⟨k + 1, by omega, by go_num, _, HA6.out⟩
          case measure => simp [intOf]; omega
        · have HACC : Hid (Acc w ao n nsA dvA nsF dF k wr u0 f) := HAcc.out
          have HO5 : Hid (∀ ob, ((w3.setCell ⟨wr.heap.size, 58, none⟩ (.slice a3 (dlen (dF k)) cp3)).alloc ob).ownsRow w.heap.size 43 59 u0 (n + (exl (flg nsF) k).length) (accE nsA dvA n nsF f (exl (flg nsF) k)).flatten) := fun ob => owns_below hown (HW5.out ob)
          clear hown hnn HAcc
          generalize hq : (exl (flg nsF) k).length = q at *
          have HQ : Hid ((exl (flg nsF) k).length = q) := hq
          clear hq
          go_wp2_with (first
            | (refine wpList_load_mid rfl 43 (.tmp 6) rfl wr.heap.size 0 rfl L' _ HR4.out Try.underlying43 rfl HSz'.out ?_)
            | (refine wpList_bs1 rfl (.tmp 21) rfl L' rfl HBS.out ?_)
            | (at_builtin; refine wpList_append_own _ rfl (.tmp 20) (.tmp 22) 27 rfl w.heap.size 43 i0 (.agg z) 59 136 Try.underlying27 HI.out.1 HI.out.2.1 HI.out.2.2.1 HI.out.2.2.2.1 HI.out.2.2.2.2 (by decide) _ _ _ rfl (HO5.out _) _ 1 1 L' rfl ?g1 ?g2 HONE'.out ?g3 ?g4 ?g5 ?_))
          case g1 => rw [HLn'.out]
          case g2 => exact HNW.out _ _ _ (by simp)
          case g3 => unfold maxLen; omega
          case g4 => omega
          case g5 => exact Nat.le_trans HACC.out.2.1.size (HW5.out _).size
          intro v2 w6 ho6 hg6 _
          have HA6 : Hid (Acc w ao n nsA dvA nsF dF (k + 1) w6 v2 (upd f k (.slice a3 (dlen (dF k)) cp3))) := by
            refine HACC.out.more HX.out (HW5.out _) (HD4.out.below ((Below.refl _ _).alloc (Nat.le_refl _) _)) ?_ hg6 (fun g e => ⟨((HO5.out (.cells L'.toArray 43)).lt g e).1, Lib.ownsRow_kind (HO5.out (.cells L'.toArray 43)) g e⟩)
            rw [HQ.out, ← HLe'.out]
            exact ho6
          clear ho6 hg6
          go_wp2
          go_roundw
          case rel => exact ⟨k + 1, by omega, by go_num, _, HA6.out⟩
          case measure => simp [intOf]; omega
    · obtain rfl : k = m := by omega
      go_wp2
      go_ret
      obtain ⟨f, h⟩ := HAc.out
      exact ⟨_, f, rfl, h⟩
end Go.Proofs.Qxb6604391a.Aces
