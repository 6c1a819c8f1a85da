import Derived.Test.Qxb6627582aWalksJ
import Derived.Test.Qxb6627582aShelf
import Derived.Shelf.SlSortCmp.WholeK
namespace Go.Proofs.Qxb6627582a
open Go.Shelf Go.RowKit Go.Sort


theorem swo_of_good {α β : Type} {c : β → β → Int} (h : Good c) (f : α → β) : SWO (Go.Proofs.ltOf fun x y : α => c (f x) (f y)) where
  irrefl x := by
    have := (h.eq0 (f x) (f x)).mpr rfl
    simp [Go.Proofs.ltOf, this]
  trans x y z h1 h2 := by
    simp only [Go.Proofs.ltOf, decide_eq_true_eq] at *
    exact h.tr _ _ _ h1 h2
  ntrans x y z h1 h2 := by
    simp only [Go.Proofs.ltOf, decide_eq_false_iff_not, Int.not_lt] at *
    by_cases e : f x = f y
    · rw [e]; exact h2
    by_cases e' : f y = f z
    · rw [← e']; exact h1
    have k1 : c (f x) (f y) ≠ 0 := fun q => e ((h.eq0 _ _).mp q)
    have k2 : c (f y) (f z) ≠ 0 := fun q => e' ((h.eq0 _ _).mp q)
    have j1 := (h.anti (f y) (f x)).mpr (by omega)
    have j2 := (h.anti (f z) (f y)).mpr (by omega)
    have j3 := (h.anti (f z) (f x)).mp (h.tr _ _ _ j2 j1)
    omega

theorem swo_E : SWO (Go.Proofs.ltOf cmpE) :=
  swo_of_good (good_lex good_I (good_lex good_I good_I)) (fun e : En => (e.l, e.c, (e.n : Int)))

theorem flatK_E [Inhabited En] (es : List En) : (flatK encE 3 es.toArray).toList = es.flatMap encE := by
  apply List.ext_getElem?
  intro t
  by_cases ht : t < es.length * 3
  · obtain ⟨i, j, hj, rfl⟩ : ∃ i j, j < 3 ∧ t = i * 3 + j := ⟨t / 3, t % 3, Nat.mod_lt _ (by omega), by omega⟩
    have hi : i < es.length := by omega
    rw [flat_get encE_len es i j hi hj]
    have hs : i * 3 + j < (flatK encE 3 es.toArray).size := by simp; omega
    rw [Array.getElem?_toList, Array.getElem?_eq_getElem hs, ← getElem!_pos (flatK encE 3 es.toArray) (i * 3 + j) hs, get_flatK encE 3 es.toArray (i * 3 + j) (by simpa using ht)]
    rw [show (i * 3 + j) / 3 = i by omega, show (i * 3 + j) % 3 = j by omega]
    have e1 : es.toArray[i]! = es[i] := by rw [getElem!_pos _ i (by simpa using hi)]; simp
    rw [e1]
    have hjl : j < (encE es[i]).length := hj
    rw [List.getElem?_eq_getElem hjl, getElem!_pos _ j hjl]
  · rw [List.getElem?_eq_none (by rw [Array.length_toList]; simp; omega), List.getElem?_eq_none (by rw [flat_len encE_len]; omega)]

theorem holds_E [Inhabited En] {w : World} {g cap n : Nat} {es : List En} (ho : w.ownsRow 0 55 3 (.slice (some ⟨g, 0, none⟩) n cap) n (es.flatMap encE)) (hn : es.length = n) : HoldsK encE 3 w g 0 es.toArray := by
  intro j hj
  have hj' : j < n * 3 := by simpa [hn] using hj
  refine ⟨?_, by rw [Nat.zero_add]; exact ho.frozenAt j⟩
  rw [Nat.zero_add, ho.cellAt j hj', ← flatK_E, Array.getElem?_toList, Array.getElem?_eq_getElem hj, ← getElem!_pos (flatK encE 3 es.toArray) j hj]
  rfl

theorem put_take (cur F : Array Value) (h : F.size ≤ cur.size) : (putCells id 0 F cur).toList.take F.size = F.toList := by
  apply List.ext_getElem?
  intro j
  by_cases hj : j < F.size
  · rw [List.getElem?_take_of_lt hj, Array.getElem?_toList, Array.getElem?_toList]
    simp [putCells, hj, show j < cur.size by omega]
  · rw [List.getElem?_take_eq_none (by omega), List.getElem?_eq_none (by simp; omega)]

theorem owns_sortedE [Inhabited En] {w : World} {g cap n : Nat} {es es' : List En} (ho : w.ownsRow 0 55 3 (.slice (some ⟨g, 0, none⟩) n cap) n (es.flatMap encE)) (hn : es'.length = n) (q : Nat) (os : Array Obj) :
    (sortWorldK encE 3 w g 0 q es'.toArray os).ownsRow 0 55 3 (.slice (some ⟨g, 0, none⟩) n cap) n (es'.flatMap encE) ∧ w.grownBy (sortWorldK encE 3 w g 0 q es'.toArray os) (some g) := by
  have hlt := (ho.lt g rfl).2
  have hh : ∀ k, k < w.heap.size → (sortWorldK encE 3 w g 0 q es'.toArray os).heap[k]? = (putRowK encE 3 (Sort.ahead w q) g 0 es'.toArray).heap[k]? := fun k hk => by
    unfold sortWorldK
    rw [heap_grow_old _ _ (by simpa [putRowK, putRow, mapBlock, Sort.ahead] using hk)]
  refine ⟨⟨by rw [flat_len encE_len, hn], .inr ?_⟩, ⟨rfl, rfl, rfl, ?_, fun k hk hne => ?_⟩⟩
  · rcases ho.2 with ⟨h', _⟩ | ⟨g', cap', cur, h', h1, hg, h2, h3, h4, h5⟩
    · simp at h'
    · simp only [Value.slice.injEq, Option.some.injEq, Addr.mk.injEq, and_true, true_and] at h'
      obtain ⟨rfl, rfl⟩ := h'
      refine ⟨g, cap, putCells id 0 (flatK encE 3 es'.toArray) cur, rfl, h1, ?_, h2, h3, by simpa [putCells] using h4, ?_⟩
      · rw [hh g hlt]
        simp [putRowK, putRow, mapBlock, Sort.ahead, Array.getElem?_modify, hg, onCells]
      · have hs : (flatK encE 3 es'.toArray).size = n * 3 := by simp [hn]
        rw [← hs, put_take cur _ (by rw [hs, h4]; exact Nat.mul_le_mul_right 3 h2), flatK_E]
  · simp [sortWorldK, putRowK, putRow, mapBlock, Sort.ahead, grow]
  · rw [hh k hk]
    have : g ≠ k := fun e => hne (by rw [e])
    simp [putRowK, putRow, mapBlock, Sort.ahead, Array.getElem?_modify, this]

theorem cmpLays28 [Inhabited En] (blk off size : Nat) (w : World) : CmpLays Try.prog 28 #[] encE 3 cmpE blk off size w :=
  fun _ _ _ _ x y => f28 x y _

/-- slices.SortFunc(s.entries, entry.compare) -/
theorem f33_in [Inhabited En] (g cap n : Nat) (es : List En) (w : World) (ho : w.ownsRow 0 55 3 (.slice (some ⟨g, 0, none⟩) n cap) n (es.flatMap encE)) (hn : es.length = n) (hl : n ≤ 1048576) :
    Calls Try.prog 33 #[.slice (some ⟨g, 0, none⟩) n cap, .func (.func 28) #[] #[]] w fun e w' => e = .returned (.tuple #[]) ∧ ∃ es' : List En, es'.Perm es ∧ w'.ownsRow 0 55 3 (.slice (some ⟨g, 0, none⟩) n cap) n (es'.flatMap encE) ∧ w.grownBy w' (some g) := by
  have eg : ∀ args w, (callFunc 28 args).run Try.prog w = .ok (.enter 28 args) w := enters_of Try.func28 (by kernel_rfl) rfl
  have hcon := AnyQ.slices_SortFunc Try.sortEnt 3 Try.isAgg55 Try.sizeOf55 encE (fun _ => rfl) (fun x v hv => by simp [encE] at hv; rcases hv with rfl | rfl | rfl <;> rfl) cmpE swo_E 28 #[] g 0 cap es.toArray w eg (cmpLays28 g 0 _ w) (holds_E ho hn) (ho.lt g rfl).2 (by simp; omega)
  have hsz : es.toArray.size = n := by simpa using hn
  rw [hsz] at hcon
  change Calls Try.prog 33 _ _ _ at hcon
  refine hcon.mono ?_
  rintro e w' ⟨rfl, d', q, os, hp, _, rfl⟩
  have hp1 : d'.toList.Perm es := by
    have h1 := hp.2.2
    have h2 := hp.1
    rw [Array.extract_eq_self_of_le (by rw [h2, hsz]; exact Nat.le_refl _), Array.extract_eq_self_of_le (by rw [hsz]; exact Nat.le_refl _)] at h1
    exact h1
  have hd : d' = d'.toList.toArray := by simp
  have hln : d'.toList.length = n := by rw [hp1.length_eq]; exact hn
  refine ⟨rfl, d'.toList, hp1, ?_, ?_⟩
  · have := (owns_sortedE (es' := d'.toList) ho hln q os).1
    rw [← hd] at this
    exact this
  · have := (owns_sortedE (es' := d'.toList) ho hln q os).2
    rw [← hd] at this
    exact this

/-- slices.SortFunc(s.entries, entry.compare) -/
theorem f33 (g cap n : Nat) (es : List En) (w : World) (ho : w.ownsRow 0 55 3 (.slice (some ⟨g, 0, none⟩) n cap) n (es.flatMap encE)) (hn : es.length = n) (hl : n ≤ 1048576) :
    Calls Try.prog 33 #[.slice (some ⟨g, 0, none⟩) n cap, .func (.func 28) #[] #[]] w fun e w' => e = .returned (.tuple #[]) ∧ ∃ es' : List En, es'.Perm es ∧ w'.ownsRow 0 55 3 (.slice (some ⟨g, 0, none⟩) n cap) n (es'.flatMap encE) ∧ w.grownBy w' (some g) := by
  have hI : Inhabited En := ⟨⟨0, 0, 0, by decide, by decide, by decide⟩⟩
  exact f33_in g cap n es w ho hn hl

end Go.Proofs.Qxb6627582a
