import Derived.Test.Qxb6627577aFmtWalksD
import Derived.DeepKeys
namespace Go.Proofs.Qxb6627577aFmt
open Go.RowKit Go.Extern.Stop Go.Stop Go.Extern

/-- every cell is a byte -/
def AllBytes (cs : List Value) : Prop := ∀ v ∈ cs, ∃ z, v = .int .u8 z ∧ (Lit.int .u8 z).wf = true

theorem AllBytes.part {cs : List Value} (h : AllBytes cs) (o n : Nat) : AllBytes ((cs.drop o).take n) := fun v hv => h v (List.mem_of_mem_drop (List.mem_of_mem_take hv))

theorem mapM_some {α β : Type} (f : α → Option β) : ∀ (l : List α), (∀ i ∈ l, ∃ x, f i = some x) → ∃ xs, l.mapM f = some xs
  | [], _ => ⟨[], by simp⟩
  | i :: l, h => by
    obtain ⟨x, hx⟩ := h i (by simp)
    obtain ⟨xs, hxs⟩ := mapM_some f l (fun j hj => h j (by simp [hj]))
    exact ⟨x :: xs, by simp [List.mapM_cons, hx, hxs]⟩

/-- type t reads whatever bytes fill it -/
def Reads (d : Nat) (t : TypeId) : Prop := ∀ cs, AllBytes cs → cs.length = Tryf.prog.cellsOf t → ∃ L, Tryf.prog.keyLits d t cs = some L

theorem Tryf.cells5 : Tryf.prog.cellsOf 5 = 1 := by kernel_rfl

theorem reads5 (d : Nat) : Reads (d + 1) 5 := by
  intro cs h hl
  rw [Tryf.cells5] at hl
  match cs, hl with
  | [v], _ =>
    obtain ⟨z, rfl, hw⟩ := h v (by simp)
    exact ⟨[.int .u8 z], by simp [Program.keyLits, Tryf.underlying5, hw]⟩

theorem readsArr (d : Nat) (t e : TypeId) (n : Nat) (hu : Tryf.prog.underlying t = some (.array n e)) (hc : Tryf.prog.cellsOf t = n * Tryf.prog.cellsOf e) (H : Reads d e) : Reads (d + 1) t := by
  intro cs h hl
  obtain ⟨xs, hxs⟩ := mapM_some (fun i => Tryf.prog.keyLits d e ((cs.drop (i * Tryf.prog.cellsOf e)).take (Tryf.prog.cellsOf e))) (List.range n) (fun i hi => H _ (h.part _ _) (by
    rw [List.length_take, List.length_drop, hl, hc]
    have hi' : i < n := List.mem_range.1 hi
    have : i * Tryf.prog.cellsOf e + Tryf.prog.cellsOf e ≤ n * Tryf.prog.cellsOf e := by
      rw [← Nat.succ_mul]; exact Nat.mul_le_mul_right _ hi'
    omega))
  exact ⟨xs.flatten, by simp only [Program.keyLits, hu]; rw [if_pos hl, hxs]; rfl⟩

theorem Tryf.cells29 : Tryf.prog.cellsOf 29 = 16 := by kernel_rfl
theorem Tryf.cells30 : Tryf.prog.cellsOf 30 = 48 := by kernel_rfl
theorem Tryf.cells31 : Tryf.prog.cellsOf 31 = 8 := by kernel_rfl
theorem Tryf.cells32 : Tryf.prog.cellsOf 32 = 192 := by kernel_rfl
theorem Tryf.cells33 : Tryf.prog.cellsOf 33 = 64 := by kernel_rfl
theorem Tryf.cells35 : Tryf.prog.cellsOf 35 = 432 := by kernel_rfl

theorem reads29 (d : Nat) : Reads (d + 2) 29 := readsArr _ 29 5 16 Tryf.underlying29 (by rw [Tryf.cells29, Tryf.cells5]) (reads5 d)
theorem reads30 (d : Nat) : Reads (d + 2) 30 := readsArr _ 30 5 48 Tryf.underlying30 (by rw [Tryf.cells30, Tryf.cells5]) (reads5 d)
theorem reads31 (d : Nat) : Reads (d + 2) 31 := readsArr _ 31 5 8 Tryf.underlying31 (by rw [Tryf.cells31, Tryf.cells5]) (reads5 d)
theorem reads33 (d : Nat) : Reads (d + 2) 33 := readsArr _ 33 5 64 Tryf.underlying33 (by rw [Tryf.cells33, Tryf.cells5]) (reads5 d)
theorem reads32 (d : Nat) : Reads (d + 3) 32 := readsArr _ 32 30 4 Tryf.underlying32 (by rw [Tryf.cells32, Tryf.cells30]) (reads30 d)

theorem fields35 : ∃ fs, Tryf.prog.underlying 35 = some (.struct fs) ∧ fs.all (·.name != "_") = true ∧ (fs.toList.all fun f => decide (f.offset + Tryf.prog.cellsOf f.type ≤ 432) && [29, 30, 31, 32, 33].contains f.type) = true :=
  ⟨_, Tryf.underlying35, by kernel_rfl, by kernel_rfl⟩

theorem reads35' (D : Nat) (H : ∀ t, t = 29 ∨ t = 30 ∨ t = 31 ∨ t = 32 ∨ t = 33 → Reads D t) : Reads (D + 1) 35 := by
  intro cs h hl
  obtain ⟨fs, hu, hn, hf⟩ := fields35
  obtain ⟨xs, hxs⟩ := mapM_some (fun f : Field => Tryf.prog.keyLits D f.type ((cs.drop f.offset).take (Tryf.prog.cellsOf f.type))) fs.toList (fun f hm => by
    have hb := List.all_eq_true.1 hf f hm
    simp only [Bool.and_eq_true, decide_eq_true_eq, List.contains_iff_mem] at hb
    have hlen : ((cs.drop f.offset).take (Tryf.prog.cellsOf f.type)).length = Tryf.prog.cellsOf f.type := by
      rw [List.length_take, List.length_drop, hl, Tryf.cells35]; omega
    have hmem := hb.2
    simp only [List.mem_cons, List.not_mem_nil, or_false] at hmem
    exact H _ hmem _ (h.part _ _) hlen)
  exact ⟨xs.flatten, by simp only [Program.keyLits, hu]; rw [if_pos ⟨hl, hn⟩, hxs]; rfl⟩

theorem reads35 : Reads 4 35 := reads35' 3 (fun t h => by
  rcases h with rfl | rfl | rfl | rfl | rfl
  · exact reads29 1
  · exact reads30 1
  · exact reads31 1
  · exact reads32 0
  · exact reads33 1)

/-- two quotes of the same bytes are equal -/
theorem quote_eq (cs : List Value) (h : AllBytes cs) (hl : cs.length = 432) (w : World) : (Op.equalIn 10000 35 (.agg cs.toArray) (.agg cs.toArray)).run Tryf.prog w = .ok true w := by
  obtain ⟨L, hL⟩ := reads35 cs h (by rw [Tryf.cells35]; exact hl)
  have hf : (Value.agg cs.toArray).formed Tryf.prog 35 = true := by
    obtain ⟨fs, hu, _⟩ := fields35
    simp only [Value.formed, hu, Tryf.cells35]
    simp [hl]
  obtain ⟨r, hr, hiff⟩ := run_equalIn_deep (P := Tryf.prog) 9996 4 35 (by kernel_rfl) w 4 4 (.agg cs.toArray) (.agg cs.toArray) L L hf hf hL hL
  have : r = true := hiff.2 rfl
  subst this
  exact hr

/-- one operation of a quiet walk that yields a value -/
theorem quiet_val {ops : Array Oper} {C : World → Prop} {Q : Act → Prop} {a : Act} {o : Oper} {rest : List Oper} (hgd : o.guard = none) (v : Value)
    (h : ∀ w, C w → (execOp a.eval o).run Tryf.prog w = .ok (.value v) w) (hK : wpQuiet Tryf.prog ops C Q rest (a.put o.dst v)) : wpQuiet Tryf.prog ops C Q (o :: rest) a := by
  have hw : Region.wanted o (yielded ops a.tmps) = true := by simp [Region.wanted, hgd]
  unfold wpQuiet
  rw [if_pos hw]
  refine ⟨v, fun w hC => ?_, hK⟩
  unfold Oper.quietAt
  rw [h w hC]
  exact ⟨rfl, rfl⟩

theorem quiet_load {ops : Array Oper} {C : World → Prop} {Q : Act → Prop} {a : Act} {o : Oper} {rest : List Oper} (hgd : o.guard = none) (x : Operand) (ho : o.op = .load 35 x)
    (q : Nat) (cs : List Value) (hx : a.eval x = .pointer (some ⟨q, 0, none⟩)) (hl : cs.length = 432) (hC : ∀ w, C w → w.heap[q]? = some (.cells cs.toArray 35 (0, 0)))
    (hK : wpQuiet Tryf.prog ops C Q rest (a.put o.dst (.agg cs.toArray))) : wpQuiet Tryf.prog ops C Q (o :: rest) a := by
  refine quiet_val hgd _ (fun w hw => ?_) hK
  have hi : (Tryf.prog.info? 35).map (·.size) = some cs.toArray.size := by
    rw [List.size_toArray, hl]; kernel_rfl
  obtain ⟨fs, hu, _⟩ := fields35
  unfold execOp
  simp only [ho, hx, Instr.loadAt, Instr.sureAddr, Sem.run_bind, Sem.run_pure, Result.andThen_ok, run_loadVar_row w q 35 35 cs.toArray (0, 0) (.struct fs) (hC w hw) hu rfl hi]

theorem quiet_neq {ops : Array Oper} {C : World → Prop} {Q : Act → Prop} {a : Act} {o : Oper} {rest : List Oper} (hgd : o.guard = none) (x y : Operand) (t : TypeId) (ho : o.op = .binOp .neq 35 x y t)
    (cs : List Value) (hx : a.eval x = .agg cs.toArray) (hy : a.eval y = .agg cs.toArray) (hb : AllBytes cs) (hl : cs.length = 432)
    (hK : wpQuiet Tryf.prog ops C Q rest (a.put o.dst (.bool false))) : wpQuiet Tryf.prog ops C Q (o :: rest) a := by
  refine quiet_val hgd _ (fun w _ => ?_) hK
  have hg : (eqGuard .neq 35 x y (.agg cs.toArray) (.agg cs.toArray)).run Tryf.prog w = .ok () w := run_eqGuard_agg w .neq 35 x y cs.toArray cs.toArray (by kernel_rfl)
  have hn := run_neq_struct (P := Tryf.prog) w 35 cs.toArray cs.toArray
  rw [quote_eq cs hb hl w] at hn
  unfold execOp
  simp only [ho, hx, hy, Sem.run_bind, hg, Result.andThen_ok, hn]
  rfl

end Go.Proofs.Qxb6627577aFmt
