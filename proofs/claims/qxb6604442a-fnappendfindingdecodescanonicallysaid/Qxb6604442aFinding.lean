/-
  SHARED: appendFinding, ZZappendFinding by what they compute.
-/
import Derived.Test.Qxb6604442aUv
import Derived.Lib.AppendStr
namespace Go.Proofs.Qxb6604442a.Bytes
open Go.RowKit
/-- A text: its length's varint, then its bytes. -/
def piece (s : ByteArray) : List UInt8 := Lib.uvarint s.size ++ s.data.toList
/-- A number as uint64. -/
def u64 (x : Int) : Nat := (IntKind.u64.wrap x).toNat
theorem wrap_bd (x : Int) : 0 ≤ IntKind.u64.wrap x ∧ IntKind.u64.wrap x < 18446744073709551616 := by rw [IntKind.wrap_u64]; omega
/-- The first k texts. -/
def texts (p r m : ByteArray) : Nat → List UInt8
  | 0 => []
  | 1 => piece p
  | 2 => piece p ++ piece r
  | _ => piece p ++ piece r ++ piece m
/-- The first k numbers. -/
def nums (x y z : Int) : Nat → List UInt8
  | 0 => []
  | 1 => Lib.uvarint (u64 x)
  | 2 => Lib.uvarint (u64 x) ++ Lib.uvarint (u64 y)
  | _ => Lib.uvarint (u64 x) ++ Lib.uvarint (u64 y) ++ Lib.uvarint (u64 z)
theorem piece_len (s : ByteArray) : (piece s).length = (Lib.uvarint s.size).length + s.size := by simp [piece]
theorem u64_lt (x : Int) : u64 x < 18446744073709551616 := by have := wrap_bd x; unfold u64; omega

/-- What holds while the call appends: the value owns what came and 'pre'; below B, and of whatever is no row of bytes, nothing has turned. -/
def St (B n : Nat) (xs : List Value) (w wr : World) (vb : Value) (pre : List UInt8) : Prop :=
  wr.ownsRow B 5 1 vb (n + pre.length) (xs ++ Lib.byteCells pre) ∧ Below B w wr ∧ Lib.OthersKept 5 none w wr
theorem St.own {B n : Nat} {xs : List Value} {w wr : World} {vb : Value} {pre : List UInt8} (h : St B n xs w wr vb pre) : wr.ownsRow B 5 1 vb (n + pre.length) (xs ++ Lib.byteCells pre) := h.1
theorem St.alloc {B n : Nat} {xs : List Value} {w wr : World} {vb : Value} {pre : List UInt8} (h : St B n xs w wr vb pre) (hB : B ≤ w.heap.size) (o : Obj) : St B n xs w (wr.alloc o) vb pre :=
  ⟨h.1.alloc o, h.2.1.alloc (Nat.le_trans hB h.2.1.size) o, h.2.2.alloc o⟩
theorem St.uv {B n k : Nat} {xs : List Value} {w wr w1 : World} {vb v1 : Value} {pre L : List UInt8} (h : St B n xs w wr vb pre) (hk : k = n + pre.length) (g : Grew B wr v1 (k + L.length) (xs ++ Lib.byteCells pre ++ Lib.byteCells L) w1) : St B n xs w w1 v1 (pre ++ L) := by
  subst hk
  refine ⟨?_, h.2.1.trans g.2.1, h.2.2.trans g.2.2⟩
  have := g.1
  rwa [List.append_assoc, ← Lib.byteCells_append, Nat.add_assoc, ← List.length_append] at this
theorem St.text {B n : Nat} {xs : List Value} {w wr w1 : World} {vb v1 : Value} {pre : List UInt8} {s : ByteArray} {k : Nat} {ys : List Value} (h : St B n xs w wr vb pre) (hB : B ≤ w.heap.size)
    (ho : w1.ownsRow B 5 1 v1 k ys) (hk : k = n + pre.length + s.size) (hy : ys = xs ++ Lib.byteCells pre ++ Lib.strCells s) (hg : wr.grownBy w1 vb.ownBlock) : St B n xs w w1 v1 (pre ++ s.data.toList) := by
  subst hk; subst hy
  refine ⟨?_, h.2.1.grown hg (Nat.le_trans hB h.2.1.size) (fun k hk => (h.1.lt k hk).1), h.2.2.grown hg (Lib.ownsRow_kind h.1)⟩
  rw [Lib.strCells_eq, List.append_assoc, ← Lib.byteCells_append] at ho
  have e : n + (pre ++ s.data.toList).length = n + pre.length + s.size := by rw [List.length_append, show s.data.toList.length = s.size from Array.length_toList ..]; omega
  rw [e]
  exact ho
/-- A cell of a block that is no row of bytes is still there. -/
theorem kept_cell {w wr : World} (h : Lib.OthersKept 5 none w wr) {b j : Nat} {cs : Array Value} {t : TypeId} {v : Value} (hb : w.heap[b]? = some (.cells cs t)) (ht : t ≠ 5) (hv : cs[j]? = some v) : wr.cell? ⟨b, j, none⟩ = some v := by
  rw [cell_of_row wr b j cs t (0, 0) (h b _ hb (by simp) (by intro c fz e; cases e; exact ht rfl))]
  exact hv
theorem piece_step (pre : List UInt8) (s : ByteArray) : pre ++ Lib.uvarint s.size ++ s.data.toList = pre ++ piece s := by simp [piece]
theorem toNat_size (s : ByteArray) : ((s.size : Int)).toNat = s.size := Int.toNat_natCast _
theorem uv_le (s : ByteArray) (h : s.size ≤ 1099511627776) : (Lib.uvarint s.size).length ≤ 10 := Lib.uvarint_length64 (by omega)
theorem texts_le (p r m : ByteArray) (k : Nat) (hp : p.size ≤ 1099511627776) (hr : r.size ≤ 1099511627776) (hm : m.size ≤ 1099511627776) : (texts p r m k).length ≤ 3298534883358 := by
  have h1 := uv_le p hp; have h2 := uv_le r hr; have h3 := uv_le m hm
  unfold texts; split <;> simp only [List.length_append, List.length_nil, piece_len] <;> omega
theorem nums_le (x y z : Int) (k : Nat) : (nums x y z k).length ≤ 30 := by
  have h1 := Lib.uvarint_length64 (u64_lt x); have h2 := Lib.uvarint_length64 (u64_lt y); have h3 := Lib.uvarint_length64 (u64_lt z)
  unfold nums; split <;> (try simp only [List.length_append, List.length_nil]) <;> omega
theorem nums_step (x y z : Int) (pre : List UInt8) : pre ++ nums x y z 0 ++ Lib.uvarint (IntKind.u64.wrap x).toNat = pre ++ nums x y z 1 ∧ pre ++ nums x y z 1 ++ Lib.uvarint (IntKind.u64.wrap y).toNat = pre ++ nums x y z 2 ∧ pre ++ nums x y z 2 ++ Lib.uvarint (IntKind.u64.wrap z).toNat = pre ++ nums x y z 3 := by
  simp [nums, u64]
/-- The call's two blocks, when the first loop begins. -/
def W2 (w : World) (p r m : ByteArray) (x y z : Int) : World := (w.alloc (.cells #[.string p, .int .i64 x, .int .i64 y, .int .i64 z, .string r, .string m] 70)).alloc (.cells #[.string p, .string r, .string m] 9)
theorem W2_box (w : World) (p r m : ByteArray) (x y z : Int) : (W2 w p r m x y z).heap[w.heap.size]? = some (.cells #[.string p, .int .i64 x, .int .i64 y, .int .i64 z, .string r, .string m] 70) := by
  unfold W2; rw [Below.heap_alloc _ _ _ (by simp)]; exact heap_alloc_new w _
theorem W2_list (w : World) (p r m : ByteArray) (x y z : Int) : (W2 w p r m x y z).heap[w.heap.size + 1]? = some (.cells #[.string p, .string r, .string m] 9) := by
  have h := heap_alloc_new (w.alloc (.cells #[.string p, .int .i64 x, .int .i64 y, .int .i64 z, .string r, .string m] 70)) (.cells #[.string p, .string r, .string m] 9)
  simpa [W2] using h

set_option maxHeartbeats 2000000 in
set_option maxRecDepth 100000 in
theorem find_any (B n : Nat) (sv : Value) (xs : List Value) (p r m : ByteArray) (x y z : Int) (w : World) (hown : w.ownsRow B 5 1 sv n xs) (hBw : B ≤ w.heap.size) (hn : n ≤ 1099511627776) (hp : p.size ≤ 1099511627776) (hr : r.size ≤ 1099511627776) (hm : m.size ≤ 1099511627776) :
    Calls Try.prog 36 #[sv, .agg #[.string p, .int .i64 x, .int .i64 y, .int .i64 z, .string r, .string m]] w fun e w' => ∃ v', e = .returned v' ∧ St B n xs w w' v' (texts p r m 3 ++ nums x y z 3) := by
  obtain ⟨i0, hi, hz0, hz1, hz2⟩ := info_parts info5
  go_enter Try.func36, Try.ntmps36
  go_wp2
  go_loopw [0, 17] (fun vb i wr => ∃ k : Nat, k ≤ 3 ∧ i = .int .i64 k ∧ Hid (St B n xs w wr vb (texts p r m k)) ∧ Hid (Lib.OthersKept 5 none (W2 w p r m x y z) wr)) (fun _ i _ => 3 - (intOf i).toNat)
  case atStart => exact ⟨0, by omega, rfl, ((show St B n xs w w sv [] from ⟨by simpa [Lib.byteCells] using hown, Below.refl _ _, Lib.OthersKept.refl _ _ _⟩).alloc hBw _).alloc hBw _, Lib.OthersKept.refl _ _ _⟩
  case round =>
    obtain ⟨k, hk, rfl, HT, HO⟩ := hrel
    clear hown
    have c0 : wr.cell? ⟨w.heap.size + 1, 0, none⟩ = some (.string p) := kept_cell HO.out (W2_list w p r m x y z) (by decide) rfl
    have c1 : wr.cell? ⟨w.heap.size + 1, 1, none⟩ = some (.string r) := kept_cell HO.out (W2_list w p r m x y z) (by decide) rfl
    have c2 : wr.cell? ⟨w.heap.size + 1, 2, none⟩ = some (.string m) := kept_cell HO.out (W2_list w p r m x y z) (by decide) rfl
    obtain rfl | rfl | rfl | rfl : k = 0 ∨ k = 1 ∨ k = 2 ∨ k = 3 := by omega
    · go_wp2_with fail
      refine (uv_any B _ _ (by omega) (by omega) _ _ _ HT.out.own (Nat.le_trans hBw HT.out.2.1.size) (by have := texts_le p r m 0 hp hr hm; omega)).mono ?_
      rintro e w1 ⟨v1, rfl, g⟩
      have HT1 : Hid (St B n xs w w1 v1 (texts p r m 0 ++ Lib.uvarint ((p.size : Int)).toNat)) := HT.out.uv rfl g
      have HO1 : Hid (Lib.OthersKept 5 none (W2 w p r m x y z) w1) := HO.out.trans g.2.2
      clear HT HO g c0 c1 c2
      rw [toNat_size] at HT1
      have hl1 := texts_le p r m 0 hp hr hm
      have hu1 := uv_le p hp
      go_wp2_with (at_builtin; refine Lib.wpList_append_own_string _ rfl (.tmp 26) (.tmp 27) 53 9 rfl B 5 i0 Try.underlying53 Try.underlying9 hi hz0 hz1 hz2 _ _ _ rfl HT1.out.own p rfl ?c10 ?c20 ?c30 ?_)
      case c10 => simp only [List.length_append]; unfold maxLen; omega
      case c20 => simp only [List.length_append]; omega
      case c30 => exact Nat.le_trans hBw HT1.out.2.1.size
      intro v2 w2 ho2 hg2 _
      have HT2 : Hid (St B n xs w w2 v2 (texts p r m 1)) := by
        have h := HT1.out.text (s := p) hBw ho2 (by simp only [List.length_append]) (by simp only [List.append_assoc]) hg2
        rw [piece_step] at h
        exact h
      have HO2 : Hid (Lib.OthersKept 5 none (W2 w p r m x y z) w2) := HO1.out.grown hg2 (Lib.ownsRow_kind HT1.out.own)
      clear ho2 hg2 HT1 HO1 hl1 hu1
      go_wp2
      go_roundw
      case rel => exact ⟨1, by omega, by go_num, HT2, HO2⟩
      case measure => simp [intOf]
    · go_wp2_with fail
      refine (uv_any B _ _ (by omega) (by omega) _ _ _ HT.out.own (Nat.le_trans hBw HT.out.2.1.size) (by have := texts_le p r m 1 hp hr hm; omega)).mono ?_
      rintro e w1 ⟨v1, rfl, g⟩
      have HT1 : Hid (St B n xs w w1 v1 (texts p r m 1 ++ Lib.uvarint ((r.size : Int)).toNat)) := HT.out.uv rfl g
      have HO1 : Hid (Lib.OthersKept 5 none (W2 w p r m x y z) w1) := HO.out.trans g.2.2
      clear HT HO g c0 c1 c2
      rw [toNat_size] at HT1
      have hl1 := texts_le p r m 1 hp hr hm
      have hu1 := uv_le r hr
      go_wp2_with (at_builtin; refine Lib.wpList_append_own_string _ rfl (.tmp 26) (.tmp 27) 53 9 rfl B 5 i0 Try.underlying53 Try.underlying9 hi hz0 hz1 hz2 _ _ _ rfl HT1.out.own r rfl ?c11 ?c21 ?c31 ?_)
      case c11 => simp only [List.length_append]; unfold maxLen; omega
      case c21 => simp only [List.length_append]; omega
      case c31 => exact Nat.le_trans hBw HT1.out.2.1.size
      intro v2 w2 ho2 hg2 _
      have HT2 : Hid (St B n xs w w2 v2 (texts p r m 2)) := by
        have h := HT1.out.text (s := r) hBw ho2 (by simp only [List.length_append]) (by simp only [List.append_assoc]) hg2
        rw [piece_step] at h
        exact h
      have HO2 : Hid (Lib.OthersKept 5 none (W2 w p r m x y z) w2) := HO1.out.grown hg2 (Lib.ownsRow_kind HT1.out.own)
      clear ho2 hg2 HT1 HO1 hl1 hu1
      go_wp2
      go_roundw
      case rel => exact ⟨2, by omega, by go_num, HT2, HO2⟩
      case measure => simp [intOf]
    · go_wp2_with fail
      refine (uv_any B _ _ (by omega) (by omega) _ _ _ HT.out.own (Nat.le_trans hBw HT.out.2.1.size) (by have := texts_le p r m 2 hp hr hm; omega)).mono ?_
      rintro e w1 ⟨v1, rfl, g⟩
      have HT1 : Hid (St B n xs w w1 v1 (texts p r m 2 ++ Lib.uvarint ((m.size : Int)).toNat)) := HT.out.uv rfl g
      have HO1 : Hid (Lib.OthersKept 5 none (W2 w p r m x y z) w1) := HO.out.trans g.2.2
      clear HT HO g c0 c1 c2
      rw [toNat_size] at HT1
      have hl1 := texts_le p r m 2 hp hr hm
      have hu1 := uv_le m hm
      go_wp2_with (at_builtin; refine Lib.wpList_append_own_string _ rfl (.tmp 26) (.tmp 27) 53 9 rfl B 5 i0 Try.underlying53 Try.underlying9 hi hz0 hz1 hz2 _ _ _ rfl HT1.out.own m rfl ?c12 ?c22 ?c32 ?_)
      case c12 => simp only [List.length_append]; unfold maxLen; omega
      case c22 => simp only [List.length_append]; omega
      case c32 => exact Nat.le_trans hBw HT1.out.2.1.size
      intro v2 w2 ho2 hg2 _
      have HT2 : Hid (St B n xs w w2 v2 (texts p r m 3)) := by
        have h := HT1.out.text (s := m) hBw ho2 (by simp only [List.length_append]) (by simp only [List.append_assoc]) hg2
        rw [piece_step] at h
        exact h
      have HO2 : Hid (Lib.OthersKept 5 none (W2 w p r m x y z) w2) := HO1.out.grown hg2 (Lib.ownsRow_kind HT1.out.own)
      clear ho2 hg2 HT1 HO1 hl1 hu1
      go_wp2
      go_roundw
      case rel => exact ⟨3, by omega, by go_num, HT2, HO2⟩
      case measure => simp [intOf]
    · clear c0 c1 c2
      have b1 : wr.cell? ⟨w.heap.size, 1, none⟩ = some (.int .i64 x) := kept_cell HO.out (W2_box w p r m x y z) (by decide) rfl
      have b2 : wr.cell? ⟨w.heap.size, 2, none⟩ = some (.int .i64 y) := kept_cell HO.out (W2_box w p r m x y z) (by decide) rfl
      have b3 : wr.cell? ⟨w.heap.size, 3, none⟩ = some (.int .i64 z) := kept_cell HO.out (W2_box w p r m x y z) (by decide) rfl
      clear HO
      go_wp2
      obtain ⟨wo, rfl⟩ : ∃ wo : World, wo = wr := ⟨_, rfl⟩
      go_loopw [0, 38] (fun vb i wr => ∃ k : Nat, k ≤ 3 ∧ i = .int .i64 k ∧ Hid (St B n xs w wr vb (texts p r m 3 ++ nums x y z k)) ∧ Hid (Lib.OthersKept 5 none (wo.alloc (.cells #[.int .i64 x, .int .i64 y, .int .i64 z] 3)) wr)) (fun _ i _ => 3 - (intOf i).toNat)
      case atStart => exact ⟨0, by omega, rfl, by rw [show nums x y z 0 = [] from rfl, List.append_nil]; exact HT.out.alloc hBw _, Lib.OthersKept.refl _ _ _⟩
      case round =>
        obtain ⟨k, hk, rfl, HS, HP⟩ := hrel
        clear HT b1 b2 b3
        have d0 : wr.cell? ⟨wo.heap.size, 0, none⟩ = some (.int .i64 x) := kept_cell HP.out (heap_alloc_new wo _) (by decide) rfl
        have d1 : wr.cell? ⟨wo.heap.size, 1, none⟩ = some (.int .i64 y) := kept_cell HP.out (heap_alloc_new wo _) (by decide) rfl
        have d2 : wr.cell? ⟨wo.heap.size, 2, none⟩ = some (.int .i64 z) := kept_cell HP.out (heap_alloc_new wo _) (by decide) rfl
        obtain rfl | rfl | rfl | rfl : k = 0 ∨ k = 1 ∨ k = 2 ∨ k = 3 := by omega
        · go_wp2_with fail
          refine (uv_any B _ _ (wrap_bd x).1 (wrap_bd x).2 _ _ _ HS.out.own (Nat.le_trans hBw HS.out.2.1.size) (by have := texts_le p r m 3 hp hr hm; have := nums_le x y z 0; rw [List.length_append]; omega)).mono ?_
          rintro e w1 ⟨v1, rfl, g⟩
          have HS1 : Hid (St B n xs w w1 v1 (texts p r m 3 ++ nums x y z 1)) := by
            have h := HS.out.uv rfl g
            rw [(nums_step x y z _).1] at h
            exact h
          have HP1 : Hid (Lib.OthersKept 5 none (wo.alloc (.cells #[.int .i64 x, .int .i64 y, .int .i64 z] 3)) w1) := HP.out.trans g.2.2
          clear HS HP g d0 d1 d2
          go_wp2
          go_roundw
          case rel => first | exact ⟨1, by omega, by go_num, HS1, HP1⟩ | ((repeat apply Exists.intro); exact ⟨⟨1, by omega, by go_num, HS1, HP1⟩, rfl⟩)
          case measure => simp [intOf]
        · go_wp2_with fail
          refine (uv_any B _ _ (wrap_bd y).1 (wrap_bd y).2 _ _ _ HS.out.own (Nat.le_trans hBw HS.out.2.1.size) (by have := texts_le p r m 3 hp hr hm; have := nums_le x y z 1; rw [List.length_append]; omega)).mono ?_
          rintro e w1 ⟨v1, rfl, g⟩
          have HS1 : Hid (St B n xs w w1 v1 (texts p r m 3 ++ nums x y z 2)) := by
            have h := HS.out.uv rfl g
            rw [(nums_step x y z _).2.1] at h
            exact h
          have HP1 : Hid (Lib.OthersKept 5 none (wo.alloc (.cells #[.int .i64 x, .int .i64 y, .int .i64 z] 3)) w1) := HP.out.trans g.2.2
          clear HS HP g d0 d1 d2
          go_wp2
          go_roundw
          case rel => first | exact ⟨2, by omega, by go_num, HS1, HP1⟩ | ((repeat apply Exists.intro); exact ⟨⟨2, by omega, by go_num, HS1, HP1⟩, rfl⟩)
          case measure => simp [intOf]
        · go_wp2_with fail
          refine (uv_any B _ _ (wrap_bd z).1 (wrap_bd z).2 _ _ _ HS.out.own (Nat.le_trans hBw HS.out.2.1.size) (by have := texts_le p r m 3 hp hr hm; have := nums_le x y z 2; rw [List.length_append]; omega)).mono ?_
          rintro e w1 ⟨v1, rfl, g⟩
          have HS1 : Hid (St B n xs w w1 v1 (texts p r m 3 ++ nums x y z 3)) := by
            have h := HS.out.uv rfl g
            rw [(nums_step x y z _).2.2] at h
            exact h
          have HP1 : Hid (Lib.OthersKept 5 none (wo.alloc (.cells #[.int .i64 x, .int .i64 y, .int .i64 z] 3)) w1) := HP.out.trans g.2.2
          clear HS HP g d0 d1 d2
          go_wp2
          go_roundw
          case rel => first | exact ⟨3, by omega, by go_num, HS1, HP1⟩ | ((repeat apply Exists.intro); exact ⟨⟨3, by omega, by go_num, HS1, HP1⟩, rfl⟩)
          case measure => simp [intOf]
        · go_wp2
          go_ret
          exact ⟨_, rfl, HS.out⟩

/-- What appendFinding appends. -/
def encF (p r m : ByteArray) (x y z : Int) : List UInt8 := texts p r m 3 ++ nums x y z 3

/-- ZZappendFinding: it appends the finding's form; below B nothing has turned. -/
theorem zz_any (B n : Nat) (sv : Value) (xs : List Value) (p r m : ByteArray) (x y z : Int) (w : World) (hown : w.ownsRow B 5 1 sv n xs) (hBw : B ≤ w.heap.size) (hn : n ≤ 1099511627776) (hp : p.size ≤ 1099511627776) (hr : r.size ≤ 1099511627776) (hm : m.size ≤ 1099511627776) :
    Calls Try.prog 29 #[sv, .string p, .int .i64 x, .int .i64 y, .int .i64 z, .string r, .string m] w fun e w' => ∃ v', e = .returned v' ∧ w'.ownsRow B 5 1 v' (n + (encF p r m x y z).length) (xs ++ Lib.byteCells (encF p r m x y z)) ∧ Below B w w' := by
  go_enter Try.func29, Try.ntmps29
  go_wp2_with fail
  refine (find_any B n sv xs p r m x y z _ hown hBw hn hp hr hm).mono ?_
  rintro e w1 ⟨v1, rfl, g⟩
  have HG : Hid (St B n xs w w1 v1 (texts p r m 3 ++ nums x y z 3)) := g
  clear g
  go_wp2
  go_ret
  exact ⟨_, rfl, HG.out.1, HG.out.2.1⟩
end Go.Proofs.Qxb6604442a.Bytes
