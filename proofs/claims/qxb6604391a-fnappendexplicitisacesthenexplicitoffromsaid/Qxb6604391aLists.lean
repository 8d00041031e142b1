/-
  appendExplicit: the plain lists; bytes whose block is known to be a row of bytes; bytes.Clone once more.
-/
import Derived.Test.Qxb6604391aInh
import Derived.Lib.OwnKind
namespace Go.Proofs.Qxb6604391a.Aces
open Go.RowKit
/-- The explicit ones among the first k. -/
def exl (fs : Nat → Int) (k : Nat) : List Nat := (List.range k).filter (fun i => bits .and .u8 (fs i) 16 == 0)
theorem exl_yes {fs : Nat → Int} {k : Nat} (h : (bits .and .u8 (fs k) 16 == 0) = true) : exl fs (k + 1) = exl fs k ++ [k] := by
  simp only [exl, List.range_succ, List.filter_append, List.filter_cons, h, if_true, List.filter_nil]
theorem exl_no {fs : Nat → Int} {k : Nat} (h : (bits .and .u8 (fs k) 16 == 0) = false) : exl fs (k + 1) = exl fs k := by
  simp only [exl, List.range_succ, List.filter_append, List.filter_cons, h, List.filter_nil]
  simp
theorem exl_len (fs : Nat → Int) (k : Nat) : (exl fs k).length = cnt fs k := by
  induction k with
  | zero => rfl
  | succ k ih =>
    cases h : (bits .and .u8 (fs k) 16 == 0)
    · rw [exl_no h, ih, cnt, h]; rfl
    · rw [exl_yes h, List.length_append, ih, cnt, h]; rfl
theorem exl_lt {fs : Nat → Int} {k i : Nat} (h : i ∈ exl fs k) : i < k := by
  have := (List.mem_filter.1 h).1
  exact List.mem_range.1 this
/-- The explicit one at its rank. -/
theorem exl_at {fs : Nat → Int} {m i : Nat} (hi : i < m) (h : (bits .and .u8 (fs i) 16 == 0) = true) : (exl fs m)[cnt fs i]? = some i := by
  induction m with
  | zero => omega
  | succ m ih =>
    by_cases him : i = m
    · subst him
      rw [exl_yes h, List.getElem?_append_right (by rw [exl_len]; exact Nat.le_refl _), exl_len, Nat.sub_self]
      rfl
    · have h1 := ih (by omega)
      cases hm : (bits .and .u8 (fs m) 16 == 0)
      · rw [exl_no hm]; exact h1
      · rw [exl_yes hm, List.getElem?_append_left (List.getElem?_eq_some_iff.1 h1).1]; exact h1
theorem cnt_succ_le (fs : Nat → Int) (k : Nat) : cnt fs k ≤ cnt fs (k + 1) := Nat.le_add_right _ _
theorem cnt_mono (fs : Nat → Int) {k m : Nat} (h : k ≤ m) : cnt fs k ≤ cnt fs m := by
  induction m with
  | zero => rw [Nat.le_zero.1 h]; exact Nat.le_refl _
  | succ m ih =>
    by_cases e : k = m + 1
    · rw [e]; exact Nat.le_refl _
    · exact Nat.le_trans (ih (by omega)) (cnt_succ_le fs m)
/-- Elements of 59 cells each, in a row: the j-th cell of the i-th. -/
theorem flat_at (ls : List (List Value)) (h : ∀ l ∈ ls, l.length = 59) (i j : Nat) (hj : j < 59) : ls.flatten[i * 59 + j]? = (ls[i]?).bind (·[j]?) := by
  induction ls generalizing i with
  | nil => simp
  | cons l ls ih =>
    have hl := h l (List.mem_cons_self ..)
    rw [List.flatten_cons]
    cases i with
    | zero =>
      rw [Nat.zero_mul, Nat.zero_add, List.getElem?_append_left (by omega)]
      simp
    | succ i =>
      rw [List.getElem?_append_right (by omega), show (i + 1) * 59 + j - l.length = i * 59 + j by omega, ih (fun l' hl' => h l' (List.mem_cons_of_mem _ hl')) i]
      simp
theorem flat_len (ls : List (List Value)) (h : ∀ l ∈ ls, l.length = 59) : ls.flatten.length = ls.length * 59 := by
  induction ls with
  | nil => rfl
  | cons l ls ih => rw [List.flatten_cons, List.length_append, h l (List.mem_cons_self ..), ih (fun l' hl' => h l' (List.mem_cons_of_mem _ hl')), List.length_cons]; omega

/-- Bytes (none: nil) in a block that is a row of bytes. -/
def DatT (w : World) (dv : Value) (d : Option (List Int)) : Prop :=
  match d with
  | none => dv = .slice none 0 0
  | some zs => ∃ a cap, dv = .slice (some a) zs.length cap ∧ ∀ j, j < zs.length → (∃ C fz, w.heap[a.block]? = some (Obj.cells C 5 fz)) ∧ w.cell? (a.add j) = some (.int .u8 (zs[j]?.getD 0))
theorem DatT.dat {w : World} {dv : Value} {d : Option (List Int)} (h : DatT w dv d) : Dat 0 w dv d := by
  cases d with
  | none => exact h
  | some zs => obtain ⟨a, cap, hv, hk⟩ := h; exact ⟨a, cap, hv, fun j hj => ⟨Nat.zero_le _, (hk j hj).2⟩⟩
theorem DatT.carry {w w' : World} {dv : Value} {d : Option (List Int)} (h : DatT w dv d) (hc : ∀ (b : Nat) (C : Array Value) (fz : Nat × Nat), w.heap[b]? = some (Obj.cells C 5 fz) → w'.heap[b]? = w.heap[b]?) : DatT w' dv d := by
  cases d with
  | none => exact h
  | some zs =>
    obtain ⟨a, cap, hv, hk⟩ := h
    refine ⟨a, cap, hv, fun j hj => ?_⟩
    obtain ⟨⟨C, fz, hb⟩, hcell⟩ := hk j hj
    have he := hc _ C fz hb
    refine ⟨⟨C, fz, he.trans hb⟩, ?_⟩
    rw [World.cell?_of_block (w := w) (by rw [add_block]; exact he)]
    exact hcell
theorem DatT.below {w w' : World} {dv : Value} {d : Option (List Int)} (h : DatT w dv d) (hb : Below w.heap.size w w') : DatT w' dv d :=
  h.carry fun b _ _ hh => hb.block b (Array.getElem?_eq_some_iff.1 hh).1
/-- Behind an append onto a row of elements. -/
theorem DatT.grown {w w' : World} {dv : Value} {d : Option (List Int)} {row : Option Nat} (h : DatT w dv d) (hg : w.grownBy w' row) (hrow : ∀ g, row = some g → ∃ C fz, w.heap[g]? = some (Obj.cells C 43 fz)) : DatT w' dv d :=
  h.carry fun b C fz hh => hg.block b (Array.getElem?_eq_some_iff.1 hh).1 (fun e => by
    obtain ⟨C', fz', h2⟩ := hrow b e.symm
    rw [hh] at h2
    cases h2)
theorem datT_own {w : World} {B n : Nat} {v : Value} {zs : List Int} (hz : zs.length = n) (h : w.ownsRow B 5 1 v n (zs.map (Value.int .u8))) (hnn : v ≠ .slice none 0 0) : DatT w v (some zs) := by
  have hk := Lib.ownsRow_kind h
  obtain ⟨a, cap, hv, hc⟩ := dat_own hz h hnn
  refine ⟨a, cap, hv, fun j hj => ⟨?_, (hc j hj).2⟩⟩
  exact hk a.block (by rw [hv]; rfl)
theorem owns_below {w w' : World} {B : Nat} {e : TypeId} {size : Nat} {v : Value} {n : Nat} {xs : List Value} (h : w.ownsRow B e size v n xs) (hb : Below w.heap.size w w') : w'.ownsRow B e size v n xs := by
  refine ⟨h.1, ?_⟩
  rcases h.2 with hn | ⟨g, cap, cur, rfl, h1, hg, rest⟩
  · exact .inl hn
  · exact .inr ⟨g, cap, cur, rfl, h1, (hb.block g (Array.getElem?_eq_some_iff.1 hg).1).trans hg, rest⟩

set_option maxHeartbeats 1000000 in
/-- bytes.Clone, what comes back in a row of bytes of its own. -/
theorem bcloneT_any (dv : Value) (d : Option (List Int)) (w : World) (hd : Dat 0 w dv d) (hl : dlen d ≤ 1048576) :
    Calls Try.prog 27 #[dv] w fun e w' => ∃ v', e = .returned v' ∧ DatT w' v' d ∧ (∀ zs, d = some zs → 0 < zs.length → ∀ a n cp, v' = .slice (some a) n cp → w.heap.size ≤ a.block) ∧ Below w.heap.size w w' := by
  cases d with
  | none =>
    obtain rfl : dv = .slice none 0 0 := hd
    have hnil := fun w' : World => Lib.run_eql_slice_nil (P := Try.prog) w' 41 5 none 0 0 0 0 Try.underlying41
    go_enter Try.func27, Try.ntmps27
    go_wp2
    go_ret
    exact ⟨_, rfl, rfl, by simp, Below.refl _ _⟩
  | some zs =>
    obtain ⟨a, cap, rfl, hc⟩ := hd
    obtain ⟨i0, hi, hz0, hz1, hz2⟩ := info_parts info5
    obtain ⟨n, hn⟩ : ∃ n, n = zs.length := ⟨_, rfl⟩
    have hl' : n ≤ 1048576 := by rw [hn]; exact hl
    rw [← hn]
    have HN : Hid (n = zs.length) := hn
    have HC : Hid (∀ j, j < zs.length → w.cell? (a.add j) = some (.int .u8 (zs[j]?.getD 0))) := fun j hj => (hc j hj).2
    clear hc hn hl
    have hnil := fun w' : World => Lib.run_eql_slice_nil (P := Try.prog) w' 41 5 (some a) n cap 0 0 Try.underlying41
    go_enter Try.func27, Try.ntmps27
    go_wp2_with (at_builtin; refine wpList_append_own _ rfl (.tmp 5) (.tmp 6) 41 rfl w.heap.size 5 i0 (.int .u8 0) 1 1 Try.underlying41 hi hz0 hz1 hz2 rfl (by decide) _ _ _ rfl (World.ownsRow_lit w #[] 0 (Nat.le_refl _) (by decide) rfl) a n cap (zs.map (Value.int .u8)) rfl ?c0 ?c1 ?c2 ?c3 ?c4 ?c5 ?_)
    case c0 => rw [List.length_map, HN.out]; omega
    case c1 =>
      intro j v hv
      have hj : j < zs.length := by have := (List.getElem?_eq_some_iff.1 hv).1; simpa using this
      have h1 := HC.out j hj
      rw [World.cell?_alloc_lt _ _ _ (World.block_lt_of_cell? w _ h1), h1, ← hv]
      simp [List.getElem?_eq_getElem hj]
    case c2 => intro v hv; obtain ⟨b, _, rfl⟩ := List.mem_map.1 hv; rfl
    case c3 => unfold maxLen; omega
    case c4 => omega
    case c5 => simp
    intro v' w1 hown' hgrow hnn
    have h2 : w1.ownsRow w.heap.size 5 1 v' n (zs.map (Value.int .u8)) := by simpa using hown'
    have HD : Hid (DatT w1 v' (some zs)) := datT_own HN.out.symm h2 hnn
    have HG : Hid (∀ a n cp, v' = .slice (some a) n cp → w.heap.size ≤ a.block) := fun a n cp e => (h2.lt a.block (by rw [e]; rfl)).1
    have HB : Hid (Below w.heap.size w w1) := ((Below.refl _ _).alloc (Nat.le_refl _) _).grown hgrow (by simp) (fun k hk => by simp [Value.ownBlock] at hk; omega)
    clear hown' hgrow hnn h2
    go_wp2
    go_ret
    exact ⟨_, rfl, HD.out, fun _ _ _ => HG.out, HB.out⟩
end Go.Proofs.Qxb6604391a.Aces
