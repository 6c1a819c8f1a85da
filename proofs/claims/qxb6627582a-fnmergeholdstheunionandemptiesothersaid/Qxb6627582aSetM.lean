import Derived.Test.Qxb6627582aWalksP
import Derived.Test.Qxb6627582aWalksQ
import Derived.Laws.IdiomCopy
namespace Go.Proofs.Qxb6627582a
open Go.RowKit Go.Sort

def setL : List Value → Nat → List Value → List Value
  | l, _, [] => l
  | l, o, v :: r => setL (l.set o v) (o + 1) r

theorem setL_eq : ∀ (vs pre rest : List Value), vs.length ≤ rest.length → setL (pre ++ rest) pre.length vs = pre ++ vs ++ rest.drop vs.length
  | [], pre, rest, _ => by simp [setL]
  | v :: r, pre, [], h => by simp at h
  | v :: r, pre, x :: rest, h => by
    have e1 : (pre ++ x :: rest).set pre.length v = (pre ++ [v]) ++ rest := by
      rw [List.set_append_right _ _ (Nat.le_refl _)]
      simp
    have := setL_eq r (pre ++ [v]) rest (by simpa using h)
    rw [setL, e1]
    rw [List.length_append] at this
    simp only [List.length_singleton] at this
    rw [this]
    simp

theorem setL_all {l vs : List Value} (h : vs.length = l.length) : setL l 0 vs = vs := by
  have := setL_eq vs [] l (by omega)
  simp only [List.nil_append, List.length_nil] at this
  rw [this, List.drop_eq_nil_of_le (by omega), List.append_nil]

theorem heap_setCells {b : Nat} {t : TypeId} : ∀ (vs : List Value) (o : Nat) (w : World) (cur : List Value), w.heap[b]? = some (.cells ⟨cur⟩ t (0, 0)) → (w.setCells b o vs).heap[b]? = some (.cells ⟨setL cur o vs⟩ t (0, 0))
  | [], _, _, _, h => h
  | v :: r, o, w, cur, h => by
    have h1 := heap_setCell_same w b o _ t v h
    have e : (⟨cur⟩ : Array Value).setIfInBounds o v = ⟨cur.set o v⟩ := by apply Array.ext'; simp
    rw [e] at h1
    exact heap_setCells r (o + 1) _ _ h1

theorem heap_setCells_other {b k : Nat} (hk : k ≠ b) : ∀ (vs : List Value) (o : Nat) (w : World), (w.setCells b o vs).heap[k]? = w.heap[k]?
  | [], _, _ => rfl
  | v :: r, o, w => (heap_setCells_other hk r (o + 1) _).trans (Below.heap_setCell w _ v k hk)

theorem frm_setCells {F : Nat → Prop} {b : Nat} (hF : F b) : ∀ (vs : List Value) (o : Nat) (w : World), Frm F w (w.setCells b o vs)
  | [], _, _ => Frm.refl _ _
  | v :: r, o, w => (Frm.setCell F w ⟨b, o, none⟩ v hF).trans (frm_setCells hF r (o + 1) _) fun _ h => .inl h

theorem cells_len (c : SC) (h : c.rc.length = 8) : c.cells.length = 19 := by simp [SC.cells, h]

/-- a whole Set is written over another's block -/
theorem whole_blk {w : World} {sb : Nat} {c c' : SC} (h : w.heap[sb]? = some (.cells ⟨c.cells⟩ 47 (0, 0))) (h1 : c.rc.length = 8) (h2 : c'.rc.length = 8) : (w.setCells sb 0 c'.cells).heap[sb]? = some (.cells ⟨c'.cells⟩ 47 (0, 0)) := by
  rw [heap_setCells _ _ _ _ h, setL_all (by rw [cells_len c h1, cells_len c' h2])]

end Go.Proofs.Qxb6627582a
