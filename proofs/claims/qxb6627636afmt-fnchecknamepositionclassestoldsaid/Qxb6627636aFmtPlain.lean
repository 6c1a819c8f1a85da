/-
  The plain functions: when a text is a name. No Go in sight.
-/
import Derived.Below
namespace Go.Proofs.Qxb6627636aFmt

/-- may the byte c stand at position i of a name? -/
def okI (i : Nat) (c : Int) : Bool :=
  decide (97 ≤ c ∧ c ≤ 122) || decide (65 ≤ c ∧ c ≤ 90) || decide (48 ≤ c ∧ c ≤ 57) || (decide (0 < i) && (decide (c = 45) || decide (c = 95)))

/-- the first k bytes of l may all stand where they stand -/
def allB (l : List UInt8) : Nat → Bool
  | 0 => true
  | k + 1 => allB l k && okI k ((l.getD k 0).toNat : Int)

/-- l is a name -/
def nameB (l : List UInt8) : Bool := decide (0 < l.length) && decide (l.length ≤ 64) && allB l l.length

theorem allB_succ (l : List UInt8) (k : Nat) : allB l (k + 1) = (allB l k && okI k ((l.getD k 0).toNat : Int)) := rfl

theorem allB_false (l : List UInt8) (k n : Nat) (h : k ≤ n) (hf : allB l k = false) : allB l n = false := by
  induction n with
  | zero => have : k = 0 := by omega
            subst this; exact hf
  | succ n ih =>
    by_cases e : k = n + 1
    · subst e; exact hf
    · rw [allB_succ, ih (by omega)]; rfl

theorem allB_iff (l : List UInt8) (k : Nat) : allB l k = true ↔ ∀ i, i < k → okI i ((l.getD i 0).toNat : Int) = true := by
  induction k with
  | zero => simp [allB]
  | succ k ih =>
    rw [allB_succ, Bool.and_eq_true, ih]
    constructor
    · rintro ⟨a, b⟩ i hi
      by_cases e : i = k
      · subst e; exact b
      · exact a i (by omega)
    · intro a
      exact ⟨fun i hi => a i (by omega), a k (by omega)⟩

theorem nameB_iff (l : List UInt8) : nameB l = true ↔ 0 < l.length ∧ l.length ≤ 64 ∧ ∀ i, i < l.length → okI i ((l.getD i 0).toNat : Int) = true := by
  unfold nameB
  rw [Bool.and_eq_true, Bool.and_eq_true, allB_iff, decide_eq_true_iff, decide_eq_true_iff, and_assoc]

theorem nameB_out (l : List UInt8) (h : l.length = 0 ∨ 64 < l.length) : nameB l = false := by
  cases e : nameB l
  · rfl
  · have := (nameB_iff l).1 e; omega

/-- okI asks of the position only whether it is the first -/
theorem okI_pos (i j : Nat) (c : Int) (h : 0 < i ↔ 0 < j) : okI i c = okI j c := by
  unfold okI
  rw [show decide (0 < i) = decide (0 < j) from by rw [decide_eq_decide]; exact h]

theorem okI_97 : okI 0 97 = true := by decide

/-- a text cut in two behind at least one byte -/
theorem nameB_append (l m : List UInt8) (h0 : 0 < l.length) (h64 : l.length + m.length ≤ 64) : nameB (l ++ m) = (nameB l && nameB (97 :: m)) := by
  rw [Bool.eq_iff_iff, Bool.and_eq_true, nameB_iff, nameB_iff, nameB_iff]
  have gl : ∀ i, i < l.length → (l ++ m).getD i 0 = l.getD i 0 := fun i hi => by
    rw [List.getD_eq_getElem?_getD, List.getD_eq_getElem?_getD, List.getElem?_append_left hi]
  have gm : ∀ i, (l ++ m).getD (l.length + i) 0 = m.getD i 0 := fun i => by
    rw [List.getD_eq_getElem?_getD, List.getD_eq_getElem?_getD, List.getElem?_append_right (by omega)]
    congr 2; omega
  constructor
  · rintro ⟨_, _, h⟩
    rw [List.length_append] at h
    refine ⟨⟨h0, by omega, fun i hi => ?_⟩, by simp, by simp; omega, fun i hi => ?_⟩
    · rw [← gl i hi]; exact h i (by omega)
    · rw [List.length_cons] at hi
      cases i with
      | zero => exact okI_97
      | succ i =>
        rw [List.getD_cons_succ, ← gm i, okI_pos (i + 1) (l.length + i) _ (by omega)]
        exact h (l.length + i) (by omega)
  · rintro ⟨⟨_, _, h⟩, _, _, g⟩
    rw [List.length_append]
    refine ⟨by omega, by omega, fun i hi => ?_⟩
    by_cases hl : i < l.length
    · rw [gl i hl]; exact h i hl
    · obtain ⟨j, rfl⟩ : ∃ j, i = l.length + j := ⟨i - l.length, by omega⟩
      have := g (j + 1) (by rw [List.length_cons]; omega)
      rw [List.getD_cons_succ] at this
      rw [gm j, okI_pos (l.length + j) (j + 1) _ (by omega)]
      exact this

/-- the byte at i put to c -/
theorem nameB_set (l : List UInt8) (i : Nat) (c d : UInt8) (hi : i < l.length) (h : okI i (c.toNat : Int) = okI i (d.toNat : Int)) : nameB (l.set i c) = nameB (l.set i d) := by
  have gd : ∀ (x : UInt8) (j : Nat), (l.set i x).getD j 0 = if i = j then x else l.getD j 0 := fun x j => by
    rw [List.getD_eq_getElem?_getD, List.getD_eq_getElem?_getD, List.getElem?_set]
    split
    · rfl
    · rfl
  rw [Bool.eq_iff_iff, nameB_iff, nameB_iff, List.length_set, List.length_set]
  constructor
  · rintro ⟨a, b, g⟩
    refine ⟨a, b, fun j hj => ?_⟩
    have := g j hj
    rw [gd] at this ⊢
    split
    · rename_i e; subst e; rw [if_pos rfl] at this; rw [← h]; exact this
    · rename_i e; rw [if_neg e] at this; exact this
  · rintro ⟨a, b, g⟩
    refine ⟨a, b, fun j hj => ?_⟩
    have := g j hj
    rw [gd] at this ⊢
    split
    · rename_i e; subst e; rw [if_pos rfl] at this; rw [h]; exact this
    · rename_i e; rw [if_neg e] at this; exact this

/-- a byte that may not stand at i -/
theorem nameB_set_bad (l : List UInt8) (i : Nat) (c : UInt8) (hi : i < l.length) (h : okI i (c.toNat : Int) = false) : nameB (l.set i c) = false := by
  cases e : nameB (l.set i c)
  · rfl
  · obtain ⟨_, _, g⟩ := (nameB_iff _).1 e
    have := g i (by rw [List.length_set]; exact hi)
    rw [List.getD_eq_getElem?_getD, List.getElem?_set] at this
    simp [hi] at this
    rw [h] at this; cases this

end Go.Proofs.Qxb6627636aFmt
