import Derived.Test.Qxb6627582aSetK
namespace Go.Proofs.Qxb6627582a
open Go.RowKit Go.Sort

theorem drewN_drewN (w : World) (a b : Nat) : (w.drewN a).drewN b = w.drewN (a + b) := by simp [World.drewN, Nat.add_assoc]

/-- a store into a cell of the set's own block that is no row's -/
theorem Mem.upd {w : World} {sb : Nat} {c : SC} {ms : List Nt} (h : Mem w sb c ms) (c' : SC) (j : Nat) (v : Value) (e : c.cells.set j v = c'.cells)
    (e1 : c'.nv = c.nv) (e2 : c'.fv = c.fv) (e3 : c'.ev = c.ev) (e4 : c'.mv = c.mv) (e5 : c'.ns = c.ns) (e6 : c'.fs = c.fs) (e7 : c'.es = c.es) (e8 : c'.rc.length = c.rc.length) :
    Mem (w.setCell ⟨sb, j, none⟩ v) sb c' ms := by
  obtain ⟨n1, n2, n3, n4⟩ := h.sb_ne
  have hk : ∀ b, b ≠ sb → (w.setCell ⟨sb, j, none⟩ v).heap[b]? = w.heap[b]? := fun b hb => Below.heap_setCell w _ v b hb
  refine ⟨set_blk h.blk j v e, ?_, ?_, ?_, ?_, by rw [e8]; exact h.rc8⟩
  · rw [e1, e5]; exact owns_kept h.nts fun b hb => hk b fun x => n1 (by rw [hb, x])
  · rw [e2, e6]; exact owns_kept h.fol fun b hb => hk b fun x => n2 (by rw [hb, x])
  · rw [e3, e7]; exact owns_kept h.ent fun b hb => hk b fun x => n3 (by rw [hb, x])
  · rw [e4]; exact map_kept h.map fun b hb => hk b fun x => n4 (by rw [hb, x])

/-- an empty map is laid and stored -/
theorem Mem.newMap {w : World} {sb : Nat} {c : SC} {ms : List Nt} (h : Mem w sb c ms) (hm : c.mv = .map none) :
    Mem ((w.alloc (.map #[] 0)).setCell ⟨sb, 1, none⟩ (.map (some w.heap.size))) sb { c with mv := .map (some w.heap.size) } [] ∧ ms = [] := by
  obtain ⟨n1, n2, n3, _⟩ := h.sb_ne
  have hsb := heap_lt h.blk
  have hms : ms = [] := by
    rcases h.map with ⟨_, h2⟩ | ⟨mb, D, h1, _⟩
    · exact h2
    · rw [hm] at h1; cases h1
  have ha : ∀ b, b < w.heap.size → (w.alloc (.map #[] 0)).heap[b]? = w.heap[b]? := fun b hb => Below.heap_alloc w _ b hb
  have hk : ∀ b, b < w.heap.size → b ≠ sb → ((w.alloc (.map #[] 0)).setCell ⟨sb, 1, none⟩ (.map (some w.heap.size))).heap[b]? = w.heap[b]? := fun b hl hb => (Below.heap_setCell _ _ _ b hb).trans (ha b hl)
  refine ⟨⟨set_blk (c := c) ((ha sb hsb).trans h.blk) 1 _ rfl, ?_, ?_, ?_, ?_, h.rc8⟩, hms⟩
  · exact owns_kept h.nts fun b hb => hk b (h.nts.lt b hb).2 fun x => n1 (by rw [hb, x])
  · exact owns_kept h.fol fun b hb => hk b (h.fol.lt b hb).2 fun x => n2 (by rw [hb, x])
  · exact owns_kept h.ent fun b hb => hk b (h.ent.lt b hb).2 fun x => n3 (by rw [hb, x])
  · refine .inr ⟨w.heap.size, .map [], rfl, ?_, KD.empty⟩
    obtain ⟨es, cl, hb, h2⟩ := World.ownsMap_made (H := Unit) w Try.prog 52 (plainElem Try.prog 21)
    exact ⟨es, cl, (Below.heap_setCell _ _ _ _ (by show w.heap.size ≠ sb; omega)).trans hb, h2⟩

/-- the map has taken one more -/
theorem Mem.mapped {w w' : World} {sb : Nat} {c : SC} {ms ms' : List Nt} {mb : Nat} (h : Mem w sb c ms) (hm : c.mv = .map (some mb)) (hg : w.grownBy w' (some mb)) (ho : MapOK w' (.map (some mb)) ms') : Mem w' sb c ms' := by
  have hk : ∀ b, b < w.heap.size → b ≠ mb → w'.heap[b]? = w.heap[b]? := fun b hl hb => hg.block b hl (by simpa using hb)
  obtain ⟨_, _, _, n4⟩ := h.sb_ne
  refine ⟨(hk sb (heap_lt h.blk) fun x => n4 (by rw [hm, x])).trans h.blk, ?_, ?_, ?_, by rw [hm]; exact ho, h.rc8⟩
  · exact owns_kept h.nts fun b hb => hk b (h.nts.lt b hb).2 fun x => row_map_apart h.nts h.map hb (by rw [hm, x])
  · exact owns_kept h.fol fun b hb => hk b (h.fol.lt b hb).2 fun x => row_map_apart h.fol h.map hb (by rw [hm, x])
  · exact owns_kept h.ent fun b hb => hk b (h.ent.lt b hb).2 fun x => row_map_apart h.ent h.map hb (by rw [hm, x])

/-- where a row lies behind an append: where it lay, or in a new block -/
def Moved (w : World) (v v' : Value) : Prop := v'.ownBlock = v.ownBlock ∨ ∃ g, v'.ownBlock = some g ∧ w.heap.size ≤ g

theorem Moved.ne {w : World} {v v' : Value} {sb : Nat} (h : Moved w v v') (h1 : v.ownBlock ≠ some sb) (hsb : sb < w.heap.size) : v'.ownBlock ≠ some sb := by
  rcases h with h | ⟨g, h, hg⟩
  · rw [h]; exact h1
  · rw [h]; intro e; cases e; omega

/-- the notes' row has been appended to, and its new value stored -/
theorem Mem.noted {w w1 : World} {sb : Nat} {c : SC} {ms : List Nt} (h : Mem w sb c ms) (v' : Value) (ns' : List Nt) (g : w.grownBy w1 c.nv.ownBlock) (o : w1.ownsRow 0 52 4 v' ns'.length (ns'.flatMap encN)) (hv : Moved w c.nv v') :
    Mem (w1.setCell ⟨sb, 0, none⟩ v') sb { c with nv := v', ns := ns' } ms := by
  obtain ⟨n1, n2, n3, n4⟩ := h.sb_ne
  have hsb := heap_lt h.blk
  have hs : ∀ b, b ≠ sb → (w1.setCell ⟨sb, 0, none⟩ v').heap[b]? = w1.heap[b]? := fun b hb => Below.heap_setCell w1 _ v' b hb
  have hk : ∀ b, b < w.heap.size → c.nv.ownBlock ≠ some b → w1.heap[b]? = w.heap[b]? := fun b hl hb => g.block b hl (fun e => hb e.symm)
  refine ⟨set_blk (c := c) ((hk sb hsb n1).trans h.blk) 0 v' rfl, ?_, ?_, ?_, ?_, h.rc8⟩
  · exact owns_kept o fun b hb => hs b fun x => hv.ne n1 hsb (by rw [hb, x])
  · exact owns_kept h.fol fun b hb => (hs b fun x => n2 (by rw [hb, x])).trans (hk b (h.fol.lt b hb).2 (rows_apart h.fol h.nts (by decide) hb))
  · exact owns_kept h.ent fun b hb => (hs b fun x => n3 (by rw [hb, x])).trans (hk b (h.ent.lt b hb).2 (rows_apart h.ent h.nts (by decide) hb))
  · exact map_kept h.map fun b hb => (hs b fun x => n4 (by rw [hb, x])).trans (hk b (by
      rcases h.map with ⟨h1, _⟩ | ⟨mb, D, h1, ⟨es, cl, hb', _⟩, _⟩
      · rw [hb] at h1; cases h1
      · rw [hb] at h1; cases h1; exact heap_lt hb') fun e => row_map_apart h.nts h.map e hb)

theorem cells_set11 (c : SC) (h8 : c.rc.length = 8) (v : Value) : c.cells.set 11 v = ({ c with fv := v } : SC).cells := by
  unfold SC.cells
  rw [List.set_append_right _ _ (by simp), List.set_append_right _ _ (by simp [h8])]
  simp [h8]
theorem cells_set13 (c : SC) (h8 : c.rc.length = 8) (v : Value) : c.cells.set 13 v = ({ c with ev := v } : SC).cells := by
  unfold SC.cells
  rw [List.set_append_right _ _ (by simp), List.set_append_right _ _ (by simp [h8])]
  simp [h8]
theorem cells_set10 (c : SC) (h8 : c.rc.length = 8) (k : Nat) : c.cells.set 10 (.int .i64 k) = ({ c with lk := k } : SC).cells := by
  unfold SC.cells
  rw [List.set_append_right _ _ (by simp), List.set_append_right _ _ (by simp [h8])]
  simp [h8]
theorem cells_set12 (c : SC) (h8 : c.rc.length = 8) (k : Nat) : c.cells.set 12 (.int .i32 k) = ({ c with la := k } : SC).cells := by
  unfold SC.cells
  rw [List.set_append_right _ _ (by simp), List.set_append_right _ _ (by simp [h8])]
  simp [h8]
theorem cells_set14 (c : SC) (h8 : c.rc.length = 8) (k : Int) : c.cells.set 14 (.int .i64 k) = ({ c with se := k } : SC).cells := by
  unfold SC.cells
  rw [List.set_append_right _ _ (by simp), List.set_append_right _ _ (by simp [h8])]
  simp [h8]
theorem cells_set15 (c : SC) (h8 : c.rc.length = 8) (k : Bool) : c.cells.set 15 (.bool k) = ({ c with un := k } : SC).cells := by
  unfold SC.cells
  rw [List.set_append_right _ _ (by simp), List.set_append_right _ _ (by simp [h8])]
  simp [h8]
theorem cells_set16 (c : SC) (h8 : c.rc.length = 8) (k : Int) : c.cells.set 16 (.int .i64 k) = ({ c with nx := k } : SC).cells := by
  unfold SC.cells
  rw [List.set_append_right _ _ (by simp), List.set_append_right _ _ (by simp [h8])]
  simp [h8]
theorem cells_set17 (c : SC) (h8 : c.rc.length = 8) (k : Int) : c.cells.set 17 (.int .i64 k) = ({ c with de := k } : SC).cells := by
  unfold SC.cells
  rw [List.set_append_right _ _ (by simp), List.set_append_right _ _ (by simp [h8])]
  simp [h8]
theorem cells_set18 (c : SC) (h8 : c.rc.length = 8) (k : Int) : c.cells.set 18 (.int .i64 k) = ({ c with dw := k } : SC).cells := by
  unfold SC.cells
  rw [List.set_append_right _ _ (by simp), List.set_append_right _ _ (by simp [h8])]
  simp [h8]
theorem cells_setR (c : SC) (j : Nat) (hj : j < c.rc.length) (k : Nat) : c.cells.set (2 + j) (.int .i32 k) = ({ c with rc := c.rc.set j k } : SC).cells := by
  unfold SC.cells
  rw [List.set_append_right _ _ (by simp), List.set_append_left _ _ (by simp; omega)]
  simp

/-- the followers' row has been appended to, and its new value stored -/
theorem Mem.followed {w w1 : World} {sb : Nat} {c : SC} {ms : List Nt} (h : Mem w sb c ms) (v' : Value) (fs' : List Nat) (g : w.grownBy w1 c.fv.ownBlock) (o : w1.ownsRow 0 21 1 v' fs'.length (fs'.map (fun n => Value.int .i32 (n : Nat)))) (hv : Moved w c.fv v') :
    Mem (w1.setCell ⟨sb, 11, none⟩ v') sb { c with fv := v', fs := fs' } ms := by
  obtain ⟨n1, n2, n3, n4⟩ := h.sb_ne
  have hsb := heap_lt h.blk
  have hs : ∀ b, b ≠ sb → (w1.setCell ⟨sb, 11, none⟩ v').heap[b]? = w1.heap[b]? := fun b hb => Below.heap_setCell w1 _ v' b hb
  have hk : ∀ b, b < w.heap.size → c.fv.ownBlock ≠ some b → w1.heap[b]? = w.heap[b]? := fun b hl hb => g.block b hl (fun e => hb e.symm)
  refine ⟨set_blk (c := c) ((hk sb hsb n2).trans h.blk) 11 v' (cells_set11 c h.rc8 v'), ?_, ?_, ?_, ?_, h.rc8⟩
  · exact owns_kept h.nts fun b hb => (hs b fun x => n1 (by rw [hb, x])).trans (hk b (h.nts.lt b hb).2 (rows_apart h.nts h.fol (by decide) hb))
  · exact owns_kept o fun b hb => hs b fun x => hv.ne n2 hsb (by rw [hb, x])
  · exact owns_kept h.ent fun b hb => (hs b fun x => n3 (by rw [hb, x])).trans (hk b (h.ent.lt b hb).2 (rows_apart h.ent h.fol (by decide) hb))
  · exact map_kept h.map fun b hb => (hs b fun x => n4 (by rw [hb, x])).trans (hk b (by
      rcases h.map with ⟨h1, _⟩ | ⟨mb, D, h1, ⟨es, cl, hb', _⟩, _⟩
      · rw [hb] at h1; cases h1
      · rw [hb] at h1; cases h1; exact heap_lt hb') fun e => row_map_apart h.fol h.map e hb)

/-- the entries' row has been appended to (or moved), and its new value stored -/
theorem Mem.entered {w w1 : World} {sb : Nat} {c : SC} {ms : List Nt} (h : Mem w sb c ms) (v' : Value) (es' : List En) (g : w.grownBy w1 c.ev.ownBlock) (o : w1.ownsRow 0 55 3 v' es'.length (es'.flatMap encE)) (hv : Moved w c.ev v') :
    Mem (w1.setCell ⟨sb, 13, none⟩ v') sb { c with ev := v', es := es' } ms := by
  obtain ⟨n1, n2, n3, n4⟩ := h.sb_ne
  have hsb := heap_lt h.blk
  have hs : ∀ b, b ≠ sb → (w1.setCell ⟨sb, 13, none⟩ v').heap[b]? = w1.heap[b]? := fun b hb => Below.heap_setCell w1 _ v' b hb
  have hk : ∀ b, b < w.heap.size → c.ev.ownBlock ≠ some b → w1.heap[b]? = w.heap[b]? := fun b hl hb => g.block b hl (fun e => hb e.symm)
  refine ⟨set_blk (c := c) ((hk sb hsb n3).trans h.blk) 13 v' (cells_set13 c h.rc8 v'), ?_, ?_, ?_, ?_, h.rc8⟩
  · exact owns_kept h.nts fun b hb => (hs b fun x => n1 (by rw [hb, x])).trans (hk b (h.nts.lt b hb).2 (rows_apart h.nts h.ent (by decide) hb))
  · exact owns_kept h.fol fun b hb => (hs b fun x => n2 (by rw [hb, x])).trans (hk b (h.fol.lt b hb).2 (rows_apart h.fol h.ent (by decide) hb))
  · exact owns_kept o fun b hb => hs b fun x => hv.ne n3 hsb (by rw [hb, x])
  · exact map_kept h.map fun b hb => (hs b fun x => n4 (by rw [hb, x])).trans (hk b (by
      rcases h.map with ⟨h1, _⟩ | ⟨mb, D, h1, ⟨es, cl, hb', _⟩, _⟩
      · rw [hb] at h1; cases h1
      · rw [hb] at h1; cases h1; exact heap_lt hb') fun e => row_map_apart h.ent h.map e hb)

/-! ### from one state of a set to a later one -/
/-- nothing but the set has turned, and the set's blocks are its old ones or new -/
structure Via (sb : Nat) (c c' : SC) (w w' : World) : Prop where
  frm : Frm (c.fp sb) w w'
  fp : ∀ b, c'.fp sb b → c.fp sb b ∨ w.heap.size ≤ b

theorem Via.refl (sb : Nat) (c : SC) (w : World) : Via sb c c w w := ⟨Frm.refl _ _, fun _ h => .inl h⟩
theorem Via.trans {sb : Nat} {a b c : SC} {u v w : World} (h : Via sb a b u v) (k : Via sb b c v w) : Via sb a c u w :=
  ⟨h.frm.trans k.frm h.fp, fun x hx => by
    rcases k.fp x hx with h1 | h1
    · exact h.fp x h1
    · exact .inr (Nat.le_trans h.frm.size h1)⟩
theorem Via.of_below {sb : Nat} {c : SC} {w w' : World} (h : Below w.heap.size w w') : Via sb c c w w' := ⟨.of_below h, fun _ h => .inl h⟩
theorem Via.drew {sb : Nat} {c c' : SC} {w w' : World} (h : Via sb c c' w w') : Via sb c c' w w'.drew := ⟨h.frm.drew, h.fp⟩
theorem Via.cell (sb : Nat) (c c' : SC) (w : World) (j : Nat) (v : Value) (e1 : c'.nv = c.nv) (e2 : c'.fv = c.fv) (e3 : c'.ev = c.ev) (e4 : c'.mv = c.mv) : Via sb c c' w (w.setCell ⟨sb, j, none⟩ v) :=
  ⟨Frm.setCell _ w _ v (.inl rfl), fun b hb => .inl (by unfold SC.fp at *; rw [e1, e2, e3, e4] at hb; exact hb)⟩
theorem Via.map {sb : Nat} {c : SC} {w w' : World} {mb : Nat} (hm : c.mv = .map (some mb)) (hg : w.grownBy w' (some mb)) : Via sb c c w w' :=
  ⟨Frm.of_grown hg (.inr (.inr (.inr (.inr hm)))), fun _ h => .inl h⟩
theorem Via.newMap (sb : Nat) (c : SC) (w : World) (o : Obj) : Via sb c { c with mv := .map (some w.heap.size) } w ((w.alloc o).setCell ⟨sb, 1, none⟩ (.map (some w.heap.size))) := by
  refine ⟨(Frm.alloc _ w o).trans (Frm.setCell (c.fp sb) _ _ _ (.inl rfl)) fun x hx => .inl hx, ?_⟩
  rintro b (h | h | h | h | h)
  · exact .inl (.inl h)
  · exact .inl (.inr (.inl h))
  · exact .inl (.inr (.inr (.inl h)))
  · exact .inl (.inr (.inr (.inr (.inl h))))
  · simp only [Value.map.injEq, Option.some.injEq] at h
    exact .inr (Nat.le_of_eq h)

theorem Frm.of_grownO {F : Nat → Prop} {w w' : World} {r : Option Nat} (h : w.grownBy w' r) (hF : ∀ k, r = some k → F k) : Frm F w w' :=
  ⟨h.os, h.tape, h.output, h.size, fun k hk hf => h.block k hk fun e => hf (hF k e.symm)⟩

theorem Via.noted {sb : Nat} {c : SC} {w w1 : World} (v' : Value) (ns' : List Nt) (g : w.grownBy w1 c.nv.ownBlock) (hv : Moved w c.nv v') : Via sb c { c with nv := v', ns := ns' } w (w1.setCell ⟨sb, 0, none⟩ v') := by
  refine ⟨(Frm.of_grownO g fun k e => .inr (.inl e)).trans (Frm.setCell (c.fp sb) _ _ _ (.inl rfl)) fun x hx => .inl hx, ?_⟩
  rintro b (h | h | h | h | h)
  · exact .inl (.inl h)
  · rcases hv with e | ⟨q, e, hq⟩
    · exact .inl (.inr (.inl (by rw [← e]; exact h)))
    · have : v'.ownBlock = some b := h
      rw [e] at this
      cases this
      exact .inr hq
  · exact .inl (.inr (.inr (.inl h)))
  · exact .inl (.inr (.inr (.inr (.inl h))))
  · exact .inl (.inr (.inr (.inr (.inr h))))
theorem Via.followed {sb : Nat} {c : SC} {w w1 : World} (v' : Value) (fs' : List Nat) (g : w.grownBy w1 c.fv.ownBlock) (hv : Moved w c.fv v') : Via sb c { c with fv := v', fs := fs' } w (w1.setCell ⟨sb, 11, none⟩ v') := by
  refine ⟨(Frm.of_grownO g fun k e => .inr (.inr (.inl e))).trans (Frm.setCell (c.fp sb) _ _ _ (.inl rfl)) fun x hx => .inl hx, ?_⟩
  rintro b (h | h | h | h | h)
  · exact .inl (.inl h)
  · exact .inl (.inr (.inl h))
  · rcases hv with e | ⟨q, e, hq⟩
    · exact .inl (.inr (.inr (.inl (by rw [← e]; exact h))))
    · have : v'.ownBlock = some b := h
      rw [e] at this
      cases this
      exact .inr hq
  · exact .inl (.inr (.inr (.inr (.inl h))))
  · exact .inl (.inr (.inr (.inr (.inr h))))
theorem Via.entered {sb : Nat} {c : SC} {w w1 : World} (v' : Value) (es' : List En) (g : w.grownBy w1 c.ev.ownBlock) (hv : Moved w c.ev v') : Via sb c { c with ev := v', es := es' } w (w1.setCell ⟨sb, 13, none⟩ v') := by
  refine ⟨(Frm.of_grownO g fun k e => .inr (.inr (.inr (.inl e)))).trans (Frm.setCell (c.fp sb) _ _ _ (.inl rfl)) fun x hx => .inl hx, ?_⟩
  rintro b (h | h | h | h | h)
  · exact .inl (.inl h)
  · exact .inl (.inr (.inl h))
  · exact .inl (.inr (.inr (.inl h)))
  · rcases hv with e | ⟨q, e, hq⟩
    · exact .inl (.inr (.inr (.inr (.inl (by rw [← e]; exact h)))))
    · have : v'.ownBlock = some b := h
      rw [e] at this
      cases this
      exact .inr hq
  · exact .inl (.inr (.inr (.inr (.inr h))))

end Go.Proofs.Qxb6627582a
