import Derived.Test.Qxb6627582aSetN
import Derived.Test.Qxb6627582aWalksR
import Derived.Deep.MidRow
namespace Go.Proofs.Qxb6627582a
open Go.RowKit Go.Sort

/-- the row of indexes -/
abbrev OwnI (w : World) (g n : Nat) (is : List Nat) : Prop := w.ownsRow 0 21 1 (.slice (some ⟨g, 0, none⟩) n n) n (is.map (fun n => Value.int .i32 (n : Nat)))

theorem ownI_len {w : World} {g n : Nat} {is : List Nat} (h : OwnI w g n is) : is.length = n := by
  have := h.1
  simpa using this
theorem ownI_at {w : World} {g n : Nat} {is : List Nat} (h : OwnI w g n is) (j i : Nat) (hj : is[j]? = some i) : w.cell? ⟨g, j, none⟩ = some (.int .i32 (i : Nat)) := by
  have hl := ownI_len h
  have hlt : j < is.length := by
    rcases Nat.lt_or_ge j is.length with h1 | h1
    · exact h1
    · rw [List.getElem?_eq_none h1] at hj; cases hj
  rw [h.cellAt j (by omega)]
  simp [hj]
theorem ownI_lt {w : World} {g n : Nat} {is : List Nat} (h : OwnI w g n is) : g < w.heap.size := (h.lt g rfl).2
theorem ownI_kept {w w' : World} {g n : Nat} {is : List Nat} (h : OwnI w g n is) (hk : w'.heap[g]? = w.heap[g]?) : OwnI w' g n is := owns_kept h fun b e => by
  simp only [Value.ownBlock, Option.some.injEq] at e
  rw [← e]; exact hk
theorem ownI_set {w : World} {g n : Nat} {is : List Nat} (h : OwnI w g n is) (j i : Nat) : OwnI (w.setCell ⟨g, j, none⟩ (.int .i32 (i : Nat))) g n (is.set j i) := by
  have := (World.ownsRow.stored h j (.int .i32 (i : Nat))).1
  unfold OwnI
  rw [List.map_set]
  exact this

theorem make44 (n : Nat) (hn : n ≤ 2097152) (w : World) : (Instr.makeSlice 44 (.int .i64 (n : Int)) (.int .i64 (n : Int))).run Try.prog w = .ok (.slice (some ⟨w.heap.size, 0, none⟩) n n) (w.alloc (.cells (madeCells #[.int .i32 0] n) 21)) := by
  obtain ⟨i, hi, hz0, hz1, hz2⟩ := info_parts Try.info21
  have h := run_make (P := Try.prog) w 44 21 i _ Try.underlying44 hi hz0 .i64 .i64 (n : Int) (n : Int) (by omega) (by omega) (by rw [hz2]; omega) (by omega)
  rw [hz1] at h
  rw [h]
  simp only [Int.toNat_natCast, Nat.mul_one]
  rfl

theorem ownI_made (w : World) (n : Nat) (hn : n ≤ 2097152) : OwnI (w.alloc (.cells (madeCells #[.int .i32 0] n) 21)) w.heap.size n (List.replicate n 0) := by
  have h := World.ownsRow_lit (base := 0) (e := 21) (size := 1) w (madeCells #[.int .i32 0] n) n (Nat.zero_le _) (by unfold maxLen; omega) (by rw [size_madeCells]; omega)
  have e := made_flat (fun n : Nat => [Value.int .i32 (n : Nat)]) 1 (fun _ => rfl) 0 #[.int .i32 0] rfl n
  rw [Nat.mul_one] at e
  rw [e] at h
  unfold OwnI
  have e2 : ∀ l : List Nat, l.flatMap (fun n : Nat => [Value.int .i32 (n : Nat)]) = l.map (fun n : Nat => Value.int .i32 (n : Nat)) := fun l => by
    induction l with
    | nil => rfl
    | cons a l ih => rw [List.flatMap_cons, ih]; rfl
  rw [e2] at h
  exact h

/-- what Merge leaves -/
def Merged (sb ob K : Nat) (c co : SC) (w w' : World) : Prop :=
  ∃ c' : SC, SetAt w' sb c' K ∧ SetAt w' ob (emptySC 0 0) 0 ∧ (∀ x, c'.mem x ↔ c.mem x ∨ co.mem x) ∧ c'.de = c.de + co.de ∧ c'.dw = c.dw + co.dw ∧
    Frm (fun b => c.fp sb b ∨ co.fp ob b) w w' ∧ (∀ b, c'.fp sb b → c.fp sb b ∨ co.fp ob b ∨ w.heap.size ≤ b) ∧ ¬ c'.fp sb ob

/-- the counts are in and the other set is emptied -/
theorem merged_end {w W : World} {sb ob K : Nat} {c co c2 : SC} (h : Mem W sb c2 c2.ns) (hi : Inv c2 K) (hob : W.heap[ob]? = some (.cells ⟨co.cells⟩ 47 (0, 0))) (h8 : co.rc.length = 8) (hne : ¬ c2.fp sb ob)
    (hm : ∀ x, c2.mem x ↔ c.mem x ∨ co.mem x) (hf : Frm (fun b => c.fp sb b ∨ co.fp ob b) w W) (hp : ∀ b, c2.fp sb b → c.fp sb b ∨ co.fp ob b ∨ w.heap.size ≤ b) :
    Merged sb ob K c co w (((W.setCell ⟨sb, 17, none⟩ (.int .i64 (c.de + co.de))).setCell ⟨sb, 18, none⟩ (.int .i64 (c.dw + co.dw))).setCells ob 0 (emptySC 0 0).cells) := by
  obtain ⟨h1, h2, h3⟩ := merge_end h hob h8 hne (c.de + co.de) (c.dw + co.dw)
  refine ⟨{ c2 with de := c.de + co.de, dw := c.dw + co.dw }, ⟨h1, ?_⟩, emptySet h2 0, hm, rfl, rfl, hf.trans h3 ?_, hp, hne⟩
  · obtain ⟨j1, j2, j3, j4, j5, j6, j7, j8⟩ := hi
    exact ⟨j1, j2, j3, j4, j5, j6, j7, j8⟩
  · rintro x (rfl | rfl)
    · exact .inl (.inl (.inl rfl))
    · exact .inl (.inr (.inl rfl))

theorem list8 {l : List Nat} (h : l.length = 8) : ∃ a b c d e f g i, l = [a, b, c, d, e, f, g, i] := by
  match l, h with
  | [a, b, c, d, e, f, g, i], _ => exact ⟨a, b, c, d, e, f, g, i, rfl⟩

theorem map_form {w : World} {v : Value} {ns : List Nt} (h : MapOK w v ns) : ∃ om, v = .map om := by
  rcases h with ⟨h, _⟩ | ⟨mb, D, h, _⟩
  · exact ⟨none, h⟩
  · exact ⟨some mb, h⟩

/-- what the nineteen cells hold, told at once -/
theorem Mem.cells {w : World} {sb : Nat} {c : SC} {ms : List Nt} (h : Mem w sb c ms) {vs : List Value} (hv : c.cells = vs) (j : Nat) (v : Value) (hj : vs[j]? = some v) : w.cell? ⟨sb, j, none⟩ = some v := by
  rw [h.cell, hv, hj]

theorem cells_form {w : World} {sb : Nat} {c : SC} {ms : List Nt} (h : Mem w sb c ms) :
    ∃ an cn om r0 r1 r2 r3 r4 r5 r6 r7 af cf ae ce, c.nv = .slice an c.ns.length cn ∧ c.ev = .slice ae c.es.length ce ∧
      c.cells = [.slice an c.ns.length cn, .map om, .int .i32 (r0 : Nat), .int .i32 (r1 : Nat), .int .i32 (r2 : Nat), .int .i32 (r3 : Nat), .int .i32 (r4 : Nat), .int .i32 (r5 : Nat), .int .i32 (r6 : Nat), .int .i32 (r7 : Nat), .int .i64 (c.lk : Nat), .slice af c.fs.length cf, .int .i32 (c.la : Nat), .slice ae c.es.length ce, .int .i64 c.se, .bool c.un, .int .i64 c.nx, .int .i64 c.de, .int .i64 c.dw] := by
  obtain ⟨an, cn, hn⟩ := own_slice h.nts
  obtain ⟨af, cf, hf⟩ := own_slice h.fol
  obtain ⟨ae, ce, he⟩ := own_slice h.ent
  obtain ⟨om, hm⟩ := map_form h.map
  obtain ⟨r0, r1, r2, r3, r4, r5, r6, r7, hr⟩ := list8 h.rc8
  refine ⟨an, cn, om, r0, r1, r2, r3, r4, r5, r6, r7, af, cf, ae, ce, hn, he, ?_⟩
  unfold SC.cells
  rw [hn, hf, he, hm, hr]
  rfl


theorem Try.size47 : (Try.prog.info? 47).map (·.size) = some 19 := by kernel_rfl

theorem load47 {W : World} {ob : Nat} {co : SC} {ms : List Nt} (h : Mem W ob co ms) : (Instr.loadAt 47 (.pointer (some ⟨ob, 0, none⟩))).run Try.prog W = .ok (.agg co.cells.toArray) W :=
  run_loadAt_mid W ob 0 47 co.cells _ (fun j v hj => by rw [Nat.zero_add, h.cell]; exact hj) Try.underlying47 rfl (by rw [cells_len co h.rc8]; exact Try.size47)

theorem store47 {W : World} {ob : Nat} {c : SC} {vs : List Value} (h : W.heap[ob]? = some (.cells ⟨c.cells⟩ 47 (0, 0))) (h8 : c.rc.length = 8) (hl : vs.length = 19) (h1 : ∀ v ∈ vs, v.oneCell' = true) :
    (Instr.storeAt 47 (.pointer (some ⟨ob, 0, none⟩)) (.agg vs.toArray)).run Try.prog W = .ok () (W.setCells ob 0 vs) :=
  run_storeAt_mid W ob 0 47 vs.toArray (fun j hj => by
    rw [Nat.zero_add]
    have hj' : j < 19 := by simpa [hl] using hj
    refine ⟨?_, frozen_of_row W ob j _ 47 h⟩
    rw [cell_of_row W ob j _ 47 (0, 0) h]
    have : j < c.cells.length := by rw [cells_len c h8]; exact hj'
    simp [this]) (by rw [List.size_toArray, hl]; exact Try.size47) (all_oneCell_toArray h1)

theorem cells_one {W : World} {ob : Nat} {co : SC} {ms : List Nt} (h : Mem W ob co ms) : ∀ v ∈ co.cells, v.oneCell' = true := by
  obtain ⟨an, cn, om, r0, r1, r2, r3, r4, r5, r6, r7, af, cf, ae, ce, _, _, hc⟩ := cells_form h
  rw [hc]
  intro v hv
  simp only [List.mem_cons, List.not_mem_nil, or_false] at hv
  rcases hv with rfl | rfl | rfl | rfl | rfl | rfl | rfl | rfl | rfl | rfl | rfl | rfl | rfl | rfl | rfl | rfl | rfl | rfl | rfl <;> rfl

theorem empty_one : ∀ v ∈ (emptySC 0 0).cells, v.oneCell' = true := List.all_eq_true.mp rfl

/-- a whole Set is loaded, in a plain region -/
theorem listL47 {ops : Array Oper} {rest : List Oper} {op : Oper} {a : Act} {w : World} {Q : Exit → Act → World → Prop} (hgd : op.guard = none) (x : Operand) (ho : op.op = .load 47 x)
    (ob : Nat) (hx : a.eval x = .pointer (some ⟨ob, 0, none⟩)) (X : Array Value) (hr : (Instr.loadAt 47 (.pointer (some ⟨ob, 0, none⟩))).run Try.prog w = .ok (.agg X) w)
    (h : wpList Try.prog ops Q rest (a.put op.dst (.agg X)) w) : wpList Try.prog ops Q (op :: rest) a w :=
  wpList_plain hgd fun _ hK => by
    unfold Oper.wp execOp
    simp only [ho, hx, Sem.run_bind, hr, Result.andThen_ok, Sem.run_pure]
    exact hK _ _ h

/-- a whole Set is stored, in a plain region -/
theorem listS47 {ops : Array Oper} {rest : List Oper} {op : Oper} {a : Act} {w : World} {Q : Exit → Act → World → Prop} (hgd : op.guard = none) (x y : Operand) (ho : op.op = .store 47 x y)
    (ob : Nat) (X : Array Value) (V : World) (hx : a.eval x = .pointer (some ⟨ob, 0, none⟩)) (hy : a.eval y = .agg X) (hr : (Instr.storeAt 47 (.pointer (some ⟨ob, 0, none⟩)) (.agg X)).run Try.prog w = .ok () V)
    (h : wpList Try.prog ops Q rest (a.put op.dst undef) V) : wpList Try.prog ops Q (op :: rest) a w :=
  wpList_plain hgd fun _ hK => by
    unfold Oper.wp execOp
    simp only [ho, hx, hy, Sem.run_bind, hr, Result.andThen_ok, Sem.run_pure]
    exact hK _ _ h

end Go.Proofs.Qxb6627582a
