import Derived.Test.Qxb6627582aSetM
namespace Go.Proofs.Qxb6627582a
open Go.RowKit Go.Sort

theorem Frm.both {F G : Nat → Prop} {a b c : World} (h : Frm F a b) (k : Frm F b c) (hG : ∀ x, F x → G x) : Frm G a c :=
  (h.trans k fun _ hx => .inl hx).mono fun x _ hx => hG x hx

/-- the end of Merge: the counts are stored, the other set is emptied -/
theorem merge_end {W : World} {sb ob : Nat} {c2 co : SC} (h : Mem W sb c2 c2.ns) (hob : W.heap[ob]? = some (.cells ⟨co.cells⟩ 47 (0, 0))) (h8 : co.rc.length = 8) (hne : ¬ c2.fp sb ob) (e d : Int) :
    Mem (((W.setCell ⟨sb, 17, none⟩ (.int .i64 e)).setCell ⟨sb, 18, none⟩ (.int .i64 d)).setCells ob 0 (emptySC 0 0).cells) sb { c2 with de := e, dw := d } c2.ns ∧
    (((W.setCell ⟨sb, 17, none⟩ (.int .i64 e)).setCell ⟨sb, 18, none⟩ (.int .i64 d)).setCells ob 0 (emptySC 0 0).cells).heap[ob]? = some (emptyB 0 0) ∧
    Frm (fun b => b = sb ∨ b = ob) W (((W.setCell ⟨sb, 17, none⟩ (.int .i64 e)).setCell ⟨sb, 18, none⟩ (.int .i64 d)).setCells ob 0 (emptySC 0 0).cells) := by
  have hos : ob ≠ sb := fun x => hne (.inl x)
  have m1 := h.upd { c2 with de := e } 17 _ (cells_set17 c2 h.rc8 e) rfl rfl rfl rfl rfl rfl rfl rfl
  have m2 := m1.upd { c2 with de := e, dw := d } 18 _ (cells_set18 _ m1.rc8 d) rfl rfl rfl rfl rfl rfl rfl rfl
  have hob2 : ((W.setCell ⟨sb, 17, none⟩ (.int .i64 e)).setCell ⟨sb, 18, none⟩ (.int .i64 d)).heap[ob]? = some (.cells ⟨co.cells⟩ 47 (0, 0)) :=
    (Below.heap_setCell _ _ _ ob hos).trans ((Below.heap_setCell _ _ _ ob hos).trans hob)
  refine ⟨?_, whole_blk (c' := emptySC 0 0) hob2 h8 rfl, ?_⟩
  · refine m2.kept fun b hb => heap_setCells_other ?_ _ _ _
    intro x
    subst x
    exact hne hb
  · exact ((Frm.setCell _ W ⟨sb, 17, none⟩ _ (.inl rfl)).trans (Frm.setCell (fun b => b = sb ∨ b = ob) _ ⟨sb, 18, none⟩ _ (.inl rfl)) fun _ h => .inl h).trans (frm_setCells (F := fun b => b = sb ∨ b = ob) (.inr rfl) _ _ _) fun _ h => .inl h

/-- '*s = *o': the other set's cells are laid over this one's -/
theorem merge_copy {W : World} {sb ob : Nat} {c co : SC} (h : W.heap[sb]? = some (.cells ⟨c.cells⟩ 47 (0, 0))) (h8 : c.rc.length = 8) (ho : Mem W ob co co.ns) (hd : ¬ co.fp ob sb) :
    Mem (W.setCells sb 0 co.cells) sb co co.ns ∧ (W.setCells sb 0 co.cells).heap[ob]? = some (.cells ⟨co.cells⟩ 47 (0, 0)) ∧ Frm (fun b => b = sb) W (W.setCells sb 0 co.cells) := by
  have hso : sb ≠ ob := fun x => hd (.inl x)
  have hk : ∀ b, b ≠ sb → (W.setCells sb 0 co.cells).heap[b]? = W.heap[b]? := fun b hb => heap_setCells_other hb _ _ _
  refine ⟨⟨whole_blk h h8 ho.rc8, ?_, ?_, ?_, ?_, ho.rc8⟩, (hk ob hso.symm).trans ho.blk, frm_setCells (F := fun b => b = sb) rfl _ _ _⟩
  · exact owns_kept ho.nts fun b hb => hk b fun x => hd (.inr (.inl (by rw [← x]; exact hb)))
  · exact owns_kept ho.fol fun b hb => hk b fun x => hd (.inr (.inr (.inl (by rw [← x]; exact hb))))
  · exact owns_kept ho.ent fun b hb => hk b fun x => hd (.inr (.inr (.inr (.inl (by rw [← x]; exact hb)))))
  · exact map_kept ho.map fun b hb => hk b fun x => hd (.inr (.inr (.inr (.inr (by rw [← x]; exact hb)))))

end Go.Proofs.Qxb6627582a
