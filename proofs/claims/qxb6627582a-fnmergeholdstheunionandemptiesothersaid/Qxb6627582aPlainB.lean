import Derived.Test.Qxb6627582aPlain
namespace Go.Proofs.Qxb6627582a

def seg (ys : List Dg) (a b : Nat) : List Dg := (ys.drop a).take (b - a)

theorem seg_cons {ys : List Dg} {a b : Nat} (h : a < b) (hl : a < ys.length) : seg ys a b = ys[a] :: seg ys (a + 1) b := by
  unfold seg
  rw [List.drop_eq_getElem_cons hl, show b - a = (b - (a + 1)) + 1 by omega, List.take_succ_cons]

theorem seg_nil {ys : List Dg} {a : Nat} : seg ys a a = [] := by simp [seg]

structure MS (W : Nat) (ys T : List Dg) (M H : Nat) (zs : List Dg) (i j k : Nat) : Prop where
  eq : zs.take k ++ (mg (seg ys i M) (seg ys j H) ++ pass W (ys.drop H)) = T
  hk : k + M = i + j
  hi : i ≤ M
  hj : M ≤ j
  hH : j ≤ H
  hn : H ≤ ys.length
  hz : zs.length = ys.length

theorem take_set_succ (zs : List Dg) (k : Nat) (d : Dg) (h : k < zs.length) : (zs.set k d).take (k + 1) = zs.take k ++ [d] := by
  rw [List.take_succ_eq_append_getElem (by rw [List.length_set]; exact h), List.getElem_set_self, List.take_set_of_le (Nat.le_refl _)]

theorem MS.kn {W : Nat} {ys T : List Dg} {M H : Nat} {zs : List Dg} {i j k : Nat} (h : MS W ys T M H zs i j k) (hlt : i < M ∨ j < H) : k < ys.length := by
  have := h.hk; have := h.hi; have := h.hj; have := h.hH; have := h.hn
  omega

theorem MS.right {W : Nat} {ys T : List Dg} {M H : Nat} {zs : List Dg} {i j k : Nat} (h : MS W ys T M H zs i j k) (h1 : i < M) (h2 : j < H) (hi' : i < ys.length) (hj' : j < ys.length) (hc : cmpD ys[j] ys[i] < 0) :
    MS W ys T M H (zs.set k ys[j]) i (j + 1) (k + 1) := by
  have hkn := h.kn (.inl h1)
  refine ⟨?_, by have := h.hk; omega, h.hi, by have := h.hj; omega, by omega, h.hn, by rw [List.length_set, h.hz]⟩
  have e := h.eq
  rw [seg_cons h1 hi', seg_cons h2 hj', mg_right _ _ _ _ hc] at e
  rw [take_set_succ _ _ _ (by rw [h.hz]; exact hkn), seg_cons h1 hi', List.append_assoc, ← e]
  rfl

theorem MS.left {W : Nat} {ys T : List Dg} {M H : Nat} {zs : List Dg} {i j k : Nat} (h : MS W ys T M H zs i j k) (h1 : i < M) (h2 : j < H) (hi' : i < ys.length) (hj' : j < ys.length) (hc : ¬ cmpD ys[j] ys[i] < 0) :
    MS W ys T M H (zs.set k ys[i]) (i + 1) j (k + 1) := by
  have hkn := h.kn (.inl h1)
  refine ⟨?_, by have := h.hk; omega, by omega, h.hj, h.hH, h.hn, by rw [List.length_set, h.hz]⟩
  have e := h.eq
  rw [seg_cons h1 hi', seg_cons h2 hj', mg_left _ _ _ _ hc] at e
  rw [take_set_succ _ _ _ (by rw [h.hz]; exact hkn), seg_cons h2 hj', List.append_assoc, ← e]
  rfl

theorem MS.left' {W : Nat} {ys T : List Dg} {M H : Nat} {zs : List Dg} {i j k : Nat} (h : MS W ys T M H zs i j k) (h1 : i < M) (h2 : j = H) (hi' : i < ys.length) :
    MS W ys T M H (zs.set k ys[i]) (i + 1) j (k + 1) := by
  have hkn := h.kn (.inl h1)
  refine ⟨?_, by have := h.hk; omega, by omega, h.hj, h.hH, h.hn, by rw [List.length_set, h.hz]⟩
  have e := h.eq
  subst h2
  rw [seg_nil, mg_nil_right, seg_cons h1 hi'] at e
  rw [take_set_succ _ _ _ (by rw [h.hz]; exact hkn), seg_nil, mg_nil_right, List.append_assoc, ← e]
  rfl

theorem MS.right' {W : Nat} {ys T : List Dg} {M H : Nat} {zs : List Dg} {i j k : Nat} (h : MS W ys T M H zs i j k) (h0 : i = M) (h2 : j < H) (hj' : j < ys.length) :
    MS W ys T M H (zs.set k ys[j]) i (j + 1) (k + 1) := by
  subst h0
  have hkn := h.kn (.inr h2)
  refine ⟨?_, by have := h.hk; omega, Nat.le_refl _, by have := h.hj; omega, by omega, h.hn, by rw [List.length_set, h.hz]⟩
  have e := h.eq
  rw [seg_nil, mg_nil_left, seg_cons h2 hj'] at e
  rw [take_set_succ _ _ _ (by rw [h.hz]; exact hkn), seg_nil, mg_nil_left, List.append_assoc, ← e]
  rfl

theorem MS.start {W : Nat} {ys T zs : List Dg} {lo M H : Nat} (hW : 0 < W) (hlo : lo < ys.length) (hM : M = min (lo + W) ys.length) (hH : H = min (lo + 2 * W) ys.length) (hz : zs.length = ys.length)
    (e : zs.take lo ++ pass W (ys.drop lo) = T) : MS W ys T M H zs lo M lo := by
  refine ⟨?_, by omega, by omega, Nat.le_refl _, by omega, by omega, hz⟩
  have e0 : ys.drop lo ≠ [] := by
    intro x
    have := congrArg List.length x
    simp at this
    omega
  rw [← e, pass_cons (ys := ys.drop lo) hW e0]
  have e1 : (ys.drop lo).take W = seg ys lo M := by
    unfold seg
    by_cases h : lo + W ≤ ys.length
    · rw [show M - lo = W by omega]
    · rw [List.take_of_length_le (by simp; omega), List.take_of_length_le (by simp; omega)]
  have e2 : ((ys.drop lo).drop W).take W = seg ys M H := by
    unfold seg
    rw [List.drop_drop]
    by_cases h : lo + W ≤ ys.length
    · rw [show M = lo + W by omega]
      by_cases h' : lo + 2 * W ≤ ys.length
      · rw [show H - (lo + W) = W by omega]
      · rw [List.take_of_length_le (by simp; omega), List.take_of_length_le (by simp; omega)]
    · rw [List.drop_eq_nil_of_le (by omega), List.drop_eq_nil_of_le (by omega), List.take_nil, List.take_nil]
  have e3 : (ys.drop lo).drop (2 * W) = ys.drop H := by
    rw [List.drop_drop]
    by_cases h' : lo + 2 * W ≤ ys.length
    · rw [show H = lo + 2 * W by omega]
    · rw [List.drop_eq_nil_of_le (by omega), List.drop_eq_nil_of_le (by omega)]
  rw [e1, e2, e3]

theorem MS.fin {W : Nat} {ys T zs : List Dg} {lo M H k : Nat} (hH : H = min (lo + 2 * W) ys.length) {i j : Nat} (h : MS W ys T M H zs i j k) (h0 : i = M) (h1 : j = H) : zs.take (lo + 2 * W) ++ pass W (ys.drop (lo + 2 * W)) = T := by
  subst h0
  subst h1
  have e := h.eq
  have := h.hk
  obtain rfl : k = j := by omega
  rw [seg_nil, seg_nil, mg_nil_left, List.nil_append] at e
  rw [← e]
  by_cases h' : lo + 2 * W ≤ ys.length
  · rw [show k = lo + 2 * W by omega]
  · rw [List.drop_eq_nil_of_le (by omega), List.drop_eq_nil_of_le (by omega), List.take_of_length_le (by rw [h.hz]; omega), List.take_of_length_le (by rw [h.hz]; omega)]

end Go.Proofs.Qxb6627582a
