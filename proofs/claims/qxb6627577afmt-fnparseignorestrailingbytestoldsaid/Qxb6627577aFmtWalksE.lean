import Derived.Test.Qxb6627577aFmtWalksD
import Derived.Test.Qxb6627577aFmtQuoteEq
import Derived.Deep.OwnRows
namespace Go.Proofs.Qxb6627577aFmt
open Go.RowKit Go.Extern.Stop Go.Stop Go.Extern

/-- block h holds the cells L -/
def RowB (w : World) (h : Nat) (L : List Value) : Prop := w.heap[h]? = some (.cells L.toArray 5 (0, 0))

/-- the first k of l laid, zeros behind -/
def lay (l : List Int) (k : Nat) : List Value := (l.take k).map (Value.int .u8) ++ List.replicate (l.length - k) (Value.int .u8 0)

theorem lay_len (l : List Int) (k : Nat) (h : k ≤ l.length) : (lay l k).length = l.length := by simp [lay]; omega
theorem lay_zero (l : List Int) : lay l 0 = List.replicate l.length (Value.int .u8 0) := by simp [lay]
theorem lay_all (l : List Int) : lay l l.length = l.map (Value.int .u8) := by simp [lay]
theorem lay_set (l : List Int) (k : Nat) (h : k < l.length) : (lay l k).set k (.int .u8 (l.getD k 0)) = lay l (k + 1) := by
  unfold lay
  have hk : ((l.take k).map (Value.int .u8)).length = k := by simp; omega
  rw [List.set_append_right _ _ (by omega), hk, Nat.sub_self]
  obtain ⟨m, hm⟩ : ∃ m, l.length - k = m + 1 := ⟨l.length - k - 1, by omega⟩
  rw [hm, List.replicate_succ, List.set_cons_zero, show l.length - (k + 1) = m by omega, List.take_succ_eq_append_getElem h, List.map_append, List.append_assoc, List.getD_eq_getElem?_getD, List.getElem?_eq_getElem h]
  rfl

theorem RowB.lt {w : World} {h : Nat} {L : List Value} (hr : RowB w h L) : h < w.heap.size := by
  rcases Nat.lt_or_ge h w.heap.size with g | g
  · exact g
  · unfold RowB at hr; rw [Array.getElem?_eq_none g] at hr; cases hr
theorem RowB.cell {w : World} {h : Nat} {L : List Value} (hr : RowB w h L) (j : Nat) : w.cell? ⟨h, j, none⟩ = L[j]? := by
  rw [cell_of_row w h j L.toArray 5 (0, 0) hr]; simp
theorem RowB.frozen {w : World} {h : Nat} {L : List Value} (hr : RowB w h L) (j : Nat) : w.frozen? ⟨h, j, none⟩ = false := frozen_of_row w h j _ 5 hr
theorem RowB.set {w : World} {h : Nat} {L : List Value} (hr : RowB w h L) (i : Nat) (v : Value) : RowB (w.setCell ⟨h, i, none⟩ v) h (L.set i v) := by
  have := heap_setCell_same w h i L.toArray 5 v hr
  unfold RowB
  rw [this]
  simp
theorem made_eq (N : Nat) : madeCells #[Value.int .u8 0] N = (List.replicate N (Value.int .u8 0)).toArray := by
  apply Array.ext
  · rw [size_madeCells]; simp
  · intro i h1 h2
    simp [madeCells, Nat.mod_one]
theorem RowB.made (w : World) (N : Nat) : RowB (w.alloc (.cells (madeCells #[Value.int .u8 0] N) 5)) w.heap.size (List.replicate N (Value.int .u8 0)) := by
  unfold RowB
  rw [← made_eq]
  exact (MapKept.heap_alloc w _).1
theorem RowB.byt {w : World} {h : Nat} {l : List Int} (hr : RowB w h (l.map (Value.int .u8))) (hbd : ∀ j, 0 ≤ l.getD j 0 ∧ l.getD j 0 ≤ 255) : Byt w h l :=
  ⟨hr.lt, fun j hj => by rw [hr.cell j, List.getElem?_map, List.getElem?_eq_getElem hj, List.getD_eq_getElem?_getD, List.getElem?_eq_getElem hj]; rfl, hbd⟩

theorem Tryf.info5 : (Tryf.prog.info? 5).map (fun i => (i.zero, i.size, i.bytes)) = some (some (.int .u8 0), 1, 1) := by kernel_rfl

theorem make1 (n : Nat) (hn : n ≤ 2097152) (w : World) : (Instr.makeSlice 22 (.int .i64 (n : Int)) (.int .i64 (n : Int))).run Tryf.prog w = .ok (.slice (some ⟨w.heap.size, 0, none⟩) n n) (w.alloc (.cells (madeCells #[.int .u8 0] n) 5)) :=
  run_make_row' 22 5 (.int .u8 0) 1 Tryf.underlying22 Tryf.info5 rfl .i64 .i64 n (by omega) (by omega) w
theorem make2 (n m : Nat) (hn : n + m ≤ 2097152) (w : World) : (Instr.makeSlice 22 (.int .i64 ((n : Int) + (m : Int))) (.int .i64 ((n : Int) + (m : Int)))).run Tryf.prog w = .ok (.slice (some ⟨w.heap.size, 0, none⟩) (n + m) (n + m)) (w.alloc (.cells (madeCells #[.int .u8 0] (n + m)) 5)) := by
  have := make1 (n + m) hn w
  rw [Int.natCast_add] at this
  exact this

theorem bytes_ok (a b : Option Addr) (n m c d : Nat) (w : World) (h : n + m ≤ 1048576) :
    Calls Tryf.prog 4 #[.slice a n c, .slice b m d] w fun e w' => e = .returned (.bool true) ∧ w' = w := by
  go_enter Tryf.func4, Tryf.ntmps4
  go_wp2
  go_ret
  exact ⟨rfl, rfl⟩

/-- too much in all: the law says nothing -/
theorem law_long (a b : Option Addr) (n m c d : Nat) (w : World) (hn : n ≤ maxLen) (hm : m ≤ maxLen) (h : 1048576 < n + m) :
    Calls Tryf.prog 3 #[.slice a n c, .slice b m d] w fun e w' => e = .returned (.bool true) ∧ w' = w := by
  unfold maxLen at hn hm
  go_enter Tryf.func3, Tryf.ntmps3
  go_wp2
  all_goals (go_ret; exact ⟨rfl, rfl⟩)

/-- the cells of a slice that came in -/
def Came (w : World) (a : Addr) (bs : List Int) : Prop := ∀ j, j < bs.length → w.cell? (a.add j) = some (.int .u8 (bs.getD j 0))

/-- 'zzc := make([]byte, len(data)); copy(zzc, data)' -/
theorem copy_in (w : World) (a : Addr) (bs : List Int) (c : Nat) (ha : Came w a bs) :
    ∃ W2, (Builtin.copy_ #[22, 22] 3 #[.slice (some ⟨w.heap.size, 0, none⟩) bs.length bs.length, .slice (some a) bs.length c]).run Tryf.prog (w.alloc (.cells (madeCells #[.int .u8 0] bs.length) 5)) = .ok (goInt bs.length) W2 ∧
      RowB W2 w.heap.size (bs.map (Value.int .u8)) ∧ Below w.heap.size w W2 := by
  have hrow := RowB.made w bs.length
  have hbel : Below w.heap.size w (w.alloc (.cells (madeCells #[.int .u8 0] bs.length) 5)) := (Below.refl _ w).alloc (Nat.le_refl _) _
  have hl : (bs.map (Value.int .u8)).length = bs.length := by simp
  have hrun := run_copy_row Tryf.prog (w.alloc (.cells (madeCells #[.int .u8 0] bs.length) 5)) 22 22 3 5 w.heap.size 0 bs.length bs.length a bs.length c _ 5 (bs.map (Value.int .u8)) Tryf.underlying22 (by kernel_rfl) hrow (by rw [hl]; exact (Nat.min_self _).symm)
    (fun j v hj => by
      rw [List.getElem?_map, Option.map_eq_some_iff] at hj
      obtain ⟨z, hz, rfl⟩ := hj
      have hlt := (List.getElem?_eq_some_iff.1 hz).1
      refine cell_later hbel ?_
      rw [ha j hlt, List.getD_eq_getElem?_getD, hz]; rfl)
    (by simp) (fun v hv => by
      obtain ⟨z, _, rfl⟩ := List.mem_map.1 hv
      rfl)
  rw [hl] at hrun
  refine ⟨_, hrun, ?_, below_setRow hbel (Nat.le_refl _) _⟩
  unfold RowB
  rw [setRow_heap _ _ _ _ _ _ hrow]
  simp

/-- the bytes of the second slice, nil or not -/
def Came2 (w : World) (bo : Option Addr) (ex : List Int) : Prop := ∀ j, j < ex.length → ∃ bb off, bo = some ⟨bb, off, none⟩ ∧ w.cell? ⟨bb, off + j, none⟩ = some (.int .u8 (ex.getD j 0))
theorem Came2.later {w w' : World} {bo : Option Addr} {ex : List Int} (h : Came2 w bo ex) (hb : Below w.heap.size w w') : Came2 w' bo ex := fun j hj => by
  obtain ⟨bb, off, e, hc⟩ := h j hj
  exact ⟨bb, off, e, cell_later hb hc⟩

theorem app_l (bs ex : List Int) (k : Nat) (h : k < bs.length) : (bs ++ ex).getD k 0 = bs.getD k 0 := by
  rw [List.getD_eq_getElem?_getD, List.getD_eq_getElem?_getD, List.getElem?_append_left h]
theorem app_r (bs ex : List Int) (k : Nat) : (bs ++ ex).getD (bs.length + k) 0 = ex.getD k 0 := by
  rw [List.getD_eq_getElem?_getD, List.getD_eq_getElem?_getD, List.getElem?_append_right (by omega)]
  congr 2; omega

/-- one byte laid -/
theorem lay_step {w W : World} {h k : Nat} {l : List Int} (hr : RowB w h (lay l k)) (hb : Below h W w) (hk : k < l.length) (v : Int) (hv : v = l.getD k 0) :
    RowB (w.setCell ⟨h, k, none⟩ (.int .u8 v)) h (lay l (k + 1)) ∧ Below h W (w.setCell ⟨h, k, none⟩ (.int .u8 v)) := by
  subst hv
  refine ⟨?_, hb.setCell (Nat.le_refl _) _⟩
  rw [← lay_set l k hk]
  exact hr.set k _
theorem lay_cell {w : World} {h k : Nat} {l : List Int} (hr : RowB w h (lay l k)) (hk : k < l.length) : ∃ v, w.cell? ⟨h, k, none⟩ = some v := by
  rw [hr.cell k]
  have : k < (lay l k).length := by rw [lay_len l k (by omega)]; exact hk
  exact ⟨_, List.getElem?_eq_getElem this⟩

/-- what follows the bytes of an accepted quote turns nothing -/
theorem getD_app (bs ex : List Int) (j : Nat) (h : j < bs.length) : (bs ++ ex).getD j 0 = bs.getD j 0 := app_l bs ex j h
theorem frame_ext {bs ex : List Int} {st sz : Nat} (h : frameOf bs = some (st, sz)) : frameOf (bs ++ ex) = some (st, sz) ∧ ((bs ++ ex).drop st).take sz = (bs.drop st).take sz := by
  have hok := frameOf_ok h
  have hn : 54 ≤ bs.length := by
    unfold frameOf at h
    by_cases h' : bs.length < 54
    · rw [if_pos h'] at h; cases h
    · omega
  have g := getD_app bs ex
  have e4 : le32 (bs ++ ex) 4 = le32 bs 4 := by unfold le32; rw [g 4 (by omega), g (4 + 1) (by omega), g (4 + 2) (by omega), g (4 + 3) (by omega)]
  have e0 : le16 (bs ++ ex) 0 = le16 bs 0 := by unfold le16; rw [g 0 (by omega), g (0 + 1) (by omega)]
  have e48 : le16 (bs ++ ex) 48 = le16 bs 48 := by unfold le16; rw [g 48 (by omega), g (48 + 1) (by omega)]
  have e50 : le32 (bs ++ ex) 50 = le32 bs 50 := by unfold le32; rw [g 50 (by omega), g (50 + 1) (by omega), g (50 + 2) (by omega), g (50 + 3) (by omega)]
  refine ⟨?_, ?_⟩
  · unfold frameOf at h ⊢
    rw [e4, e0, e48, e50, List.length_append, if_neg (by omega)]
    rw [if_neg (by omega)] at h
    by_cases h4 : (le32 bs 4 == 129) = false
    · rw [if_pos h4] at h; cases h
    rw [if_neg h4] at h ⊢
    by_cases h5 : (le16 bs 0 == 4) = true
    · rw [if_pos h5] at h ⊢
      by_cases h6 : bs.length < 636
      · rw [if_pos h6] at h; cases h
      · rw [if_neg h6] at h; rw [if_neg (by omega)]; exact h
    rw [if_neg h5] at h ⊢
    by_cases h6 : (le16 bs 0 == 5) = true
    · rw [if_pos h6] at h ⊢
      by_cases h7 : bodyOk (le16 bs 48) (le32 bs 50) = true
      · rw [if_pos h7] at h ⊢
        by_cases h8 : (bs.length : Int) < le32 bs 50 + 58
        · rw [if_pos h8] at h; cases h
        · rw [if_neg h8] at h; rw [if_neg (by omega)]; exact h
      · rw [if_neg h7] at h; cases h
    · rw [if_neg h6] at h; cases h
  · rw [List.drop_append_of_le_length (by omega), List.take_append_of_le_length (by simp; omega)]

theorem row_full {w : World} {q : Nat} {pre : List Value} (h : Row w q pre) (hl : pre.length = 432) : w.heap[q]? = some (.cells pre.toArray 35 (0, 0)) := by
  unfold Row at h
  rw [hl] at h
  simpa using h

theorem seg_bytes (r : List Int) (so L : Nat) (hb : ∀ z ∈ r, (Lit.int .u8 z).wf = true) : AllBytes (seg r so L) := by
  intro v hv
  unfold seg at hv
  obtain ⟨z, hz, rfl⟩ := List.mem_map.1 hv
  exact ⟨z, rfl, hb z (List.mem_of_mem_drop (List.mem_of_mem_take hz))⟩
theorem AllBytes.app {a b : List Value} (ha : AllBytes a) (hb : AllBytes b) : AllBytes (a ++ b) := fun v hv => by
  rcases List.mem_append.1 hv with h | h
  · exact ha v h
  · exact hb v h
theorem quote_bytes (r : List Int) (hb : ∀ z ∈ r, (Lit.int .u8 z).wf = true) : AllBytes (quoteOf r) := by
  have s := fun so L => seg_bytes r so L hb
  exact (((((((s 0 16).app (s 64 48)).app (s 112 8)).app (s 120 8)).app (s 136 48)).app (s 184 48)).app (s 328 (48 * 4))).app (s 520 64)
theorem quote_tail (r : List Int) (h : 584 ≤ r.length) (k : Nat) (hk : k < 64) : (quoteOf r)[368 + k]? = some (.int .u8 (r.getD (520 + k) 0)) := by
  have hK := (pre_len r h).2.2.2.2.2.2.1 4 (by omega)
  have e : 368 + k - (preK r 4).length = k := by omega
  unfold quoteOf
  rw [List.getElem?_append_right (by omega), e]
  have hl := seg_len r 520 64 (by omega)
  have hk' : k < (seg r 520 64).length := by omega
  rw [List.getElem?_eq_getElem hk']
  obtain ⟨_, _, hv⟩ := seg_at r 520 64 k _ (List.getElem?_eq_getElem hk')
  rw [hv]
theorem frame_start {bs : List Int} {st sz : Nat} (h : frameOf bs = some (st, sz)) (hbd : ∀ j, 0 ≤ bs.getD j 0 ∧ bs.getD j 0 ≤ 255) :
    (st = 48 ∧ ¬ (bs.getD 0 0 = 5 ∧ bs.getD 1 0 = 0)) ∨ (st = 54 ∧ bs.getD 0 0 = 5 ∧ bs.getD 1 0 = 0) := by
  have b0 := hbd 0
  have b1 := hbd 1
  have hok := frameOf_ok h
  unfold frameOf at h
  rw [if_neg (by omega)] at h
  by_cases h4 : (le32 bs 4 == 129) = false
  · rw [if_pos h4] at h; cases h
  rw [if_neg h4] at h
  by_cases h5 : (le16 bs 0 == 4) = true
  · rw [if_pos h5] at h
    by_cases h6 : bs.length < 636
    · rw [if_pos h6] at h; cases h
    · rw [if_neg h6] at h
      cases h
      refine Or.inl ⟨rfl, ?_⟩
      have : bs.getD 0 0 + bs.getD 1 0 * 256 = 4 := beq_iff_eq.1 h5
      omega
  rw [if_neg h5] at h
  by_cases h6 : (le16 bs 0 == 5) = true
  · rw [if_pos h6] at h
    have e5 : bs.getD 0 0 + bs.getD 1 0 * 256 = 5 := beq_iff_eq.1 h6
    by_cases h7 : bodyOk (le16 bs 48) (le32 bs 50) = true
    · rw [if_pos h7] at h
      by_cases h8 : (bs.length : Int) < le32 bs 50 + 58
      · rw [if_pos h8] at h; cases h
      · rw [if_neg h8] at h
        simp only [Option.some.injEq, Prod.mk.injEq] at h
        exact Or.inr ⟨h.1.symm, by omega, by omega⟩
    · rw [if_neg h7] at h; cases h
  · rw [if_neg h6] at h; cases h

theorem parse_any (F : Interp) (g : Nat) (bs : List Int) (c : Nat) (w : World) (hF : F.answers w.tape) (hb : Byt w g bs) (hn2 : bs.length ≤ 2097152) (hc : bs.length ≤ c) :
    Calls Tryf.prog 5 #[.slice (some ⟨g, 0, none⟩) bs.length c] w fun e w' => (∃ p v, e = .returned (.tuple #[.pointer p, v])) ∧ Below w.heap.size w w' := by
  cases hfr : frameOf bs with
  | none =>
    refine (parse_none F g bs c w hF hb hn2 hc hfr).mono ?_
    rintro e w' ⟨⟨v, rfl, _⟩, hB⟩
    exact ⟨⟨_, _, rfl⟩, hB⟩
  | some x =>
    obtain ⟨st, sz⟩ := x
    refine (parse_ok F g bs c st sz w hF hb hn2 hc hfr _ rfl).mono ?_
    rintro e w' ⟨q, rfl, _, _, hB⟩
    exact ⟨⟨_, _, rfl⟩, hB⟩

set_option maxRecDepth 100000 in
set_option maxHeartbeats 1000000 in
theorem law_some (F : Interp) (a : Addr) (bo : Option Addr) (bs ex : List Int) (c d : Nat) (w : World) (hF : F.answers w.tape) (h : bs.length + ex.length ≤ 1048576) (ha : Came w a bs) (hb : Came2 w bo ex)
    (hbd : ∀ j, 0 ≤ (bs ++ ex).getD j 0 ∧ (bs ++ ex).getD j 0 ≤ 255) :
    Calls Tryf.prog 3 #[.slice (some a) bs.length c, .slice bo ex.length d] w fun e w' => e = .returned (.bool true) ∧ Below w.heap.size w w' := by
  have hm1 := make1 bs.length (by omega)
  have hm2 := make2 bs.length ex.length (by omega)
  obtain ⟨W2, hcp, hrow2, hB2⟩ := copy_in w a bs c ha
  have hb2 := hb.later hB2
  clear ha hb
  go_enter Tryf.func3, Tryf.ntmps3
  go_wp2_with fail
  refine (bytes_ok _ _ _ _ _ _ w h).mono ?_
  rintro e w1 ⟨rfl, rfl⟩
  go_wp2_with fail
  clear hcp hm1 hm2
  have hl : (bs ++ ex).length = bs.length + ex.length := List.length_append
  have hrow3 : RowB (W2.alloc (Obj.cells (madeCells #[Value.int IntKind.u8 0] (bs.length + ex.length)) 5)) W2.heap.size (lay (bs ++ ex) 0) := by
    rw [lay_zero, hl]; exact RowB.made _ _
  have hB23 : Below W2.heap.size W2 (W2.alloc (Obj.cells (madeCells #[Value.int IntKind.u8 0] (bs.length + ex.length)) 5)) := (Below.refl _ _).alloc (Nat.le_refl _) _
  have hB3 : Below w1.heap.size w1 (W2.alloc (Obj.cells (madeCells #[Value.int IntKind.u8 0] (bs.length + ex.length)) 5)) := hB2.trans (hB23.mono hB2.size)
  have hgh : w1.heap.size < W2.heap.size := hrow2.lt
  have hY : Byt (W2.alloc (Obj.cells (madeCells #[Value.int IntKind.u8 0] (bs.length + ex.length)) 5)) w1.heap.size bs := (hrow2.byt (fun j => by
    rcases Nat.lt_or_ge j bs.length with hj | hj
    · rw [← app_l bs ex j hj]; exact hbd j
    · rw [List.getD_eq_getElem?_getD, List.getElem?_eq_none hj]; decide)).later hB23
  have hE := hb2.later hB23
  have hlo := hb2
  clear hb2 hrow2 hB2
  have HL : Hid ((bs ++ ex).length = bs.length + ex.length) := hl
  clear hl
  have HY : Hid (Byt _ _ _) := hY
  have HE : Hid (Came2 _ _ _) := hE
  have HO : Hid (Came2 W2 bo ex) := hlo
  clear hY hE hlo hB23
  have HX : Hid (∀ j, j < ex.length → ∀ bb off, bo = some ⟨bb, off, none⟩ → bb < W2.heap.size) := fun j hj bb off e => by
    obtain ⟨bb', off', e', hc'⟩ := HO.out j hj
    rw [e] at e'
    cases e'
    exact World.block_lt_of_cell? _ _ hc'
  clear HO
  generalize (W2.alloc (Obj.cells (madeCells #[Value.int IntKind.u8 0] (bs.length + ex.length)) 5)) = W at *
  generalize W2.heap.size = hh at *
  have i0 : bs.length ≤ 1048576 := by omega
  have i1 : ex.length ≤ 1048576 := by omega
  go_loopw [7] (fun i wr => ∃ k : Nat, k ≤ bs.length ∧ i = .int .i64 k ∧ RowB wr hh (lay (bs ++ ex) k) ∧ Below hh W wr) (fun i _ => bs.length - (intOf i).toNat)
  case atStart => exact ⟨0, by omega, rfl, hrow3, Below.refl _ _⟩
  case round =>
    obtain ⟨k, hk, rfl, hrowk, hbk⟩ := hrel
    by_cases hlt : k < bs.length
    · have hkl : k < (bs ++ ex).length := by rw [HL.out]; omega
      obtain ⟨x, hx⟩ : ∃ x, x = bs.getD k 0 := ⟨_, rfl⟩
      have c1 : wr.cell? ⟨w1.heap.size, k, none⟩ = some (.int .u8 x) := by rw [hx]; exact (hbk.cell (p := ⟨w1.heap.size, k, none⟩) hgh).trans (HY.out.cell k hlt)
      obtain ⟨v, c2⟩ := lay_cell hrowk hkl
      have c3 := hrowk.frozen k
      have R := lay_step hrowk hbk hkl x (hx.trans (app_l bs ex k hlt).symm)
      have i2 : (k : Int) < (bs.length : Int) + (ex.length : Int) := by omega
      clear hrowk hbk hkl hx
      go_wp2
      go_roundw
      case rel => exact ⟨k + 1, by omega, by go_num, R.1, R.2⟩
      case measure => simp [intOf]; omega
    · obtain rfl : k = bs.length := by omega
      go_wp2
      go_loopw [8] (fun i wq => ∃ k : Nat, k ≤ ex.length ∧ i = .int .i64 k ∧ RowB wq hh (lay (bs ++ ex) (bs.length + k)) ∧ Below hh W wq) (fun i _ => ex.length - (intOf i).toNat)
      case atStart => exact ⟨0, by omega, rfl, hrowk, hbk⟩
      case round =>
        clear hrowk hbk
        obtain ⟨k, hk, rfl, hrowk, hbk⟩ := hrel
        by_cases hlt : k < ex.length
        · have hkl : bs.length + k < (bs ++ ex).length := by rw [HL.out]; omega
          obtain ⟨x, hx⟩ : ∃ x, x = ex.getD k 0 := ⟨_, rfl⟩
          obtain ⟨bb, off, hbo, hcc⟩ := HE.out k hlt
          have hbb := HX.out k hlt bb off hbo
          have c1 := (hbk.cell (p := ⟨bb, off + k, none⟩) hbb).trans hcc
          rw [← hx] at c1
          obtain ⟨v, c2⟩ := lay_cell hrowk hkl
          have c3 := hrowk.frozen (bs.length + k)
          have R := lay_step hrowk hbk hkl x (hx.trans (app_r bs ex k).symm)
          have i2 : (bs.length : Int) + (k : Int) < (bs.length : Int) + (ex.length : Int) := by omega
          clear hrowk hbk hkl hx hcc hbb
          go_wp2
          go_roundw
          case rel => exact ⟨k + 1, by omega, by go_num, R.1, R.2⟩
          case measure => simp [intOf]; omega
        · obtain rfl : k = ex.length := by omega
          have hYg : Byt wr w1.heap.size bs := ⟨Nat.lt_of_lt_of_le HY.out.lt hbk.size, fun j hj => (hbk.cell (p := ⟨w1.heap.size, j, none⟩) hgh).trans (HY.out.cell j hj), HY.out.bd⟩
          have hYh : Byt wr hh (bs ++ ex) := by
            rw [← HL.out, lay_all] at hrowk
            exact hrowk.byt hbd
          have hBw : Below w1.heap.size w1 wr := hB3.trans (hbk.mono (Nat.le_of_lt hgh))
          have hFw : F.answers wr.tape := by rw [hBw.tape]; exact hF
          clear hrowk hbk HY HE HX hrow3 hB3 hF
          go_wp2_with fail
          cases hfr : frameOf bs with
          | none =>
            have HFR : Hid (frameOf bs = none) := hfr
            clear hfr
            refine (parse_none F _ bs _ wr hFw hYg (by omega) (Nat.le_refl _) HFR.out).mono ?_
            rintro e wa ⟨⟨v, rfl, y, rfl⟩, hBa⟩
            have hP := parse_any F hh (bs ++ ex) (bs.length + ex.length) wa (by rw [hBa.tape]; exact hFw) (hYh.later hBa) (by rw [HL.out]; omega) (by rw [HL.out]; omega)
            rw [HL.out] at hP
            have HP : Hid (Calls Tryf.prog 5 _ _ _) := hP
            clear hP
            go_wp2_with fail
            refine HP.out.mono ?_
            rintro e wb ⟨⟨p, v, rfl⟩, hBb⟩
            have hBB := (hBw.trans (hBa.mono hBw.size))
            have hBC := hBB.trans (hBb.mono hBB.size)
            clear HP hBB hBa hBb
            go_wp2
            go_ret
            exact ⟨rfl, hBC⟩
          | some x =>
            obtain ⟨st, sz⟩ := x
            have hfx := frame_ext (ex := ex) hfr
            have hfok := frameOf_ok hfr
            obtain ⟨r, hre⟩ : ∃ r, r = (bs.drop st).take sz := ⟨_, rfl⟩
            have HFX : Hid (_ ∧ _) := hfx
            have HRE : Hid (r = (bs.drop st).take sz) := hre
            have HFR : Hid (frameOf bs = some (st, sz)) := hfr
            refine (parse_ok F _ bs _ st sz wr hFw hYg (by omega) (Nat.le_refl _) hfr r HRE).mono ?_
            rintro e wa ⟨q1, rfl, hR1, hq1, hBa⟩
            have hP := parse_ok F hh (bs ++ ex) (bs.length + ex.length) st sz wa (by rw [hBa.tape]; exact hFw) (hYh.later hBa) (by rw [HL.out]; omega) (by rw [HL.out]; omega) HFX.out.1 r (by show r = _; rw [HFX.out.2]; exact HRE.out)
            rw [HL.out] at hP
            have HP : Hid (Calls Tryf.prog 5 _ _ _) := hP
            clear hP hfr hfx hre
            go_wp2_with fail
            refine HP.out.mono ?_
            rintro e wb ⟨q2, rfl, hR2, hq2, hBb⟩
            clear HP
            have hrl : r.length = sz := by rw [HRE.out]; simp; omega
            have hq432 := (pre_len r (by omega)).2.2.2.2.2.2.2
            have hbA := hBw.trans (hBa.mono hBw.size)
            have hbB := hbA.trans (hBb.mono hbA.size)
            have hfull1 := row_full hR1 hq432
            have hq1a : q1 < wa.heap.size := (Array.getElem?_eq_some_iff.1 hfull1).1
            have hfull1b : wb.heap[q1]? = some (.cells (quoteOf r).toArray 35 (0, 0)) := (hBb.block q1 hq1a).trans hfull1
            have hfull2 := row_full hR2 hq432
            have hbds : ∀ j, 0 ≤ bs.getD j 0 ∧ bs.getD j 0 ≤ 255 := hYg.bd
            have hAB : AllBytes (quoteOf r) := quote_bytes r (fun z hz => by
              rw [HRE.out] at hz
              obtain ⟨j, hj, hjz⟩ := List.getElem_of_mem (List.mem_of_mem_drop (List.mem_of_mem_take hz))
              have := hbds j
              rw [List.getD_eq_getElem?_getD, List.getElem?_eq_getElem hj] at this
              simp only [Option.getD_some, hjz] at this
              exact WalkArith.wf_u8 (by omega))
            have hst := frame_start HFR.out hbds
            have hsrc : ∀ k, k < 64 → wb.cell? ⟨q1, 368 + k, none⟩ = some (.int .u8 (bs.getD (st + 520 + k) 0)) := fun k hk => by
              rw [cell_of_row wb q1 _ _ 35 (0, 0) hfull1b]
              have := quote_tail r (by omega) k hk
              rw [List.getElem?_toArray, this, HRE.out, List.getD_eq_getElem?_getD, List.getElem?_take_of_lt (by omega), List.getElem?_drop, ← List.getD_eq_getElem?_getD]
              rw [Nat.add_assoc]
            have hdat : ∀ j, j < bs.length → wb.cell? ⟨w1.heap.size, j, none⟩ = some (.int .u8 (bs.getD j 0)) := ((hYg.later hBa).later hBb).cell
            have c0 := hdat 0 (by omega)
            have c1 := hdat 1 (by omega)
            have HD : Hid (_) := hdat
            have HSC : Hid (_) := hsrc
            have HST : Hid (_ ∨ _) := hst
            have HFU1 : Hid (_ = _) := hfull1b
            have HFU2 : Hid (_ = _) := hfull2
            have HAB : Hid (AllBytes _) := hAB
            have HQ : Hid ((quoteOf r).length = 432) := hq432
            clear hdat hsrc hst hfull1b hfull2 hfull1 hR1 hR2 hAB hq432 hBa hBb hbA HFX HFR hYg hYh hbd
            go_wp2
            refine wp_region_quiet_lit (by kernel_rfl) (by kernel_rfl) ?_
            go_big_quiet_step (fail)
            go_big_quiet_step (fail)
            refine quiet_load rfl (.tmp 96) rfl q1 (quoteOf r) (by kernel_rfl) HQ.out (fun w' hw' => ?_) ?_
            · obtain ⟨n, rfl⟩ := hw'
              rw [show (wb.drewN n).heap = wb.heap from rfl]; exact HFU1.out
            quiet_step (fail)
            quiet_step (fail)
            refine quiet_load rfl (.tmp 99) rfl q2 (quoteOf r) (by kernel_rfl) HQ.out (fun w' hw' => ?_) ?_
            · obtain ⟨n, rfl⟩ := hw'
              rw [show (wb.drewN n).heap = wb.heap from rfl]; exact HFU2.out
            refine quiet_neq rfl (.tmp 97) (.tmp 100) 35 rfl (quoteOf r) (by kernel_rfl) (by kernel_rfl) HAB.out HQ.out ?_
            refine wpQuiet_nil ?_
            intro _ hw'
            obtain ⟨nq, hw''⟩ := hw'
            subst hw''
            have hl54 : (54 : Int) ≤ (bs.length : Int) := by omega
            have hsame := same_any q1 w1.heap.size bs.length bs.length (st + 520) bs (wb.drewN nq) (fun k hk => by rw [World.cell?_drewN]; exact HSC.out k hk) (fun j hj => by rw [World.cell?_drewN]; exact HD.out j hj) (by omega) (by omega)
            have HSA : Hid (Calls Tryf.prog 6 _ _ _) := hsame
            have hbC : Below w1.heap.size w1 (wb.drewN nq) := below_drewN hbB nq
            obtain ⟨x0, hx0⟩ : ∃ x, x = bs.getD 0 0 := ⟨_, rfl⟩
            obtain ⟨x1, hx1⟩ : ∃ x, x = bs.getD 1 0 := ⟨_, rfl⟩
            have hst := HST.out
            rw [← hx0] at c0 hst
            rw [← hx1] at c1 hst
            clear hsame HSC HD HST HFU1 HFU2 HAB HQ hx0 hx1 hbB HRE hrl hfok
            rcases hst with ⟨rfl, hne⟩ | ⟨rfl, rfl, rfl⟩
            · by_cases h5 : x0 = 5
              · have hx : (x1 == 0) = false := by rw [beq_eq_false_iff_ne]; exact fun e => hne ⟨h5, e⟩
                subst h5
                clear hne
                go_wp2_with fail
                refine HSA.out.mono ?_
                rintro e wc ⟨rfl, hbc⟩
                have hbD := hbC.trans (hbc.mono hbC.size)
                clear hbc hbC
                go_wp2
                go_ret
                exact ⟨rfl, hbD⟩
              · have hx : (x0 == 5) = false := by rw [beq_eq_false_iff_ne]; exact h5
                clear hne h5
                go_wp2_with fail
                refine HSA.out.mono ?_
                rintro e wc ⟨rfl, hbc⟩
                have hbD := hbC.trans (hbc.mono hbC.size)
                clear hbc hbC
                go_wp2
                go_ret
                exact ⟨rfl, hbD⟩
            · go_wp2_with fail
              refine HSA.out.mono ?_
              rintro e wc ⟨rfl, hbc⟩
              have hbD := hbC.trans (hbc.mono hbC.size)
              clear hbc hbC
              go_wp2
              go_ret
              exact ⟨rfl, hbD⟩

end Go.Proofs.Qxb6627577aFmt
