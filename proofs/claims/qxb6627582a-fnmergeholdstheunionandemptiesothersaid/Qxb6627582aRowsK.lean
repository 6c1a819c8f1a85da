import Derived.Test.Qxb6627582aWalksC
import Derived.Deep.AppendLies
import Derived.Deep.DeepAppendRoom
import Derived.OwnWalk
import Derived.WalkSmall
namespace Go.Proofs.Qxb6627582a
open Go.RowKit Go.Sort

theorem flat_len {α : Type} {enc : α → List Value} {k : Nat} (hk : ∀ x, (enc x).length = k) : ∀ xs : List α, (xs.flatMap enc).length = xs.length * k
  | [] => by simp
  | x :: xs => by rw [List.flatMap_cons, List.length_append, flat_len hk xs, hk, List.length_cons, Nat.succ_mul]; omega

theorem flat_get {α : Type} {enc : α → List Value} {k : Nat} (hk : ∀ x, (enc x).length = k) : ∀ (xs : List α) (i j : Nat) (hi : i < xs.length), j < k → (xs.flatMap enc)[i * k + j]? = (enc xs[i])[j]?
  | [], i, j, hi, _ => by simp at hi
  | x :: xs, 0, j, _, hj => by
    rw [List.flatMap_cons, Nat.zero_mul, Nat.zero_add, List.getElem?_append_left (by rw [hk]; exact hj)]
    rfl
  | x :: xs, i + 1, j, hi, hj => by
    rw [List.flatMap_cons, List.getElem?_append_right (by rw [hk, Nat.succ_mul]; omega), hk, show (i + 1) * k + j - k = i * k + j by rw [Nat.succ_mul]; omega]
    rw [flat_get hk xs i j (by simpa using hi) hj]
    rfl

theorem encD_len (d : Dg) : (encD d).length = 6 := rfl
theorem encN_len (d : Nt) : (encN d).length = 4 := rfl
theorem encE_len (d : En) : (encE d).length = 3 := rfl

theorem set6 : ∀ (xs : List Dg) (i : Nat) (d : Dg), i < xs.length →
    (((((((xs.flatMap encD).set (i * 6) (.int .i32 d.l)).set (i * 6 + 1) (.int .i32 d.c)).set (i * 6 + 2) (.string d.p)).set (i * 6 + 3) (.int .i64 d.s)).set (i * 6 + 4) (.string d.r)).set (i * 6 + 5) (.string d.m)) = (xs.set i d).flatMap encD
  | [], i, d, hi => by simp at hi
  | x :: xs, 0, d, _ => by simp [encD]
  | x :: xs, i + 1, d, hi => by
    have e := set6 xs i d (by simpa using hi)
    rw [List.set_cons_succ, List.flatMap_cons, List.flatMap_cons, ← e]
    rw [List.set_append_right _ _ (by rw [encD_len]; omega), List.set_append_right _ _ (by rw [encD_len]; omega), List.set_append_right _ _ (by rw [encD_len]; omega), List.set_append_right _ _ (by rw [encD_len]; omega), List.set_append_right _ _ (by rw [encD_len]; omega), List.set_append_right _ _ (by rw [encD_len]; omega)]
    rw [encD_len]
    rw [show (i + 1) * 6 - 6 = i * 6 by omega, show (i + 1) * 6 + 1 - 6 = i * 6 + 1 by omega, show (i + 1) * 6 + 2 - 6 = i * 6 + 2 by omega, show (i + 1) * 6 + 3 - 6 = i * 6 + 3 by omega, show (i + 1) * 6 + 4 - 6 = i * 6 + 4 by omega, show (i + 1) * 6 + 5 - 6 = i * 6 + 5 by omega]

/-- an owned row of Diags at the head of block g -/
abbrev OwnD (base : Nat) (w : World) (g cap : Nat) (xs : List Dg) : Prop := w.ownsRow base 38 6 (.slice (some ⟨g, 0, none⟩) xs.length cap) xs.length (xs.flatMap encD)

theorem own_at6 {base : Nat} {w : World} {g cap : Nat} {xs : List Dg} (h : OwnD base w g cap xs) (i : Nat) (hi : i < xs.length) : At6 w g (i * 6) xs[i] := by
  have c : ∀ j, j < 6 → w.cell? ⟨g, i * 6 + j, none⟩ = (encD xs[i])[j]? := fun j hj => by
    rw [h.cellAt (i * 6 + j) (by omega), flat_get encD_len xs i j hi hj]
  exact ⟨c 0 (by omega), c 1 (by omega), c 2 (by omega), c 3 (by omega), c 4 (by omega), c 5 (by omega)⟩

theorem own_drow {base : Nat} {w : World} {g cap : Nat} {xs : List Dg} (h : OwnD base w g cap xs) : DRow w (some ⟨g, 0, none⟩) xs := fun i hi => by
  refine ⟨g, 0, rfl, ?_⟩
  rw [Nat.zero_add]
  exact own_at6 h i hi

theorem own_lt {base : Nat} {w : World} {g cap : Nat} {xs : List Dg} (h : OwnD base w g cap xs) : base ≤ g ∧ g < w.heap.size := h.lt g rfl

theorem OwnD.below {base : Nat} {w w' : World} {g cap : Nat} {xs : List Dg} (h : OwnD base w g cap xs) {B : Nat} (hb : Below B w w') (hg : g < B) : OwnD base w' g cap xs := by
  refine ⟨h.1, .inr ?_⟩
  rcases h.2 with ⟨h', _⟩ | ⟨g', cap', cur, h', h1, hg', h2, h3, h4, h5⟩
  · simp at h'
  · simp only [Value.slice.injEq, Option.some.injEq, Addr.mk.injEq, and_true, true_and] at h'
    obtain ⟨rfl, rfl⟩ := h'
    exact ⟨g, cap, cur, rfl, h1, (hb.block g hg).trans hg', h2, h3, h4, h5⟩

theorem DRow.below {w w' : World} {bo : Option Addr} {xs : List Dg} (h : DRow w bo xs) {B : Nat} (hb : Below B w w') (hB : w.heap.size ≤ B) : DRow w' bo xs := fun i hi => by
  obtain ⟨b, off, e, h0, h1, h2, h3, h4, h5⟩ := h i hi
  have hlt : b < B := Nat.lt_of_lt_of_le (World.block_lt_of_cell? _ _ h0) hB
  refine ⟨b, off, e, ?_, ?_, ?_, ?_, ?_, ?_⟩
  · rw [hb.cell (p := ⟨b, _, none⟩) hlt]; exact h0
  · rw [hb.cell (p := ⟨b, _, none⟩) hlt]; exact h1
  · rw [hb.cell (p := ⟨b, _, none⟩) hlt]; exact h2
  · rw [hb.cell (p := ⟨b, _, none⟩) hlt]; exact h3
  · rw [hb.cell (p := ⟨b, _, none⟩) hlt]; exact h4
  · rw [hb.cell (p := ⟨b, _, none⟩) hlt]; exact h5

theorem own_store6 {base : Nat} {w : World} {g cap : Nat} {xs : List Dg} (h : OwnD base w g cap xs) (i : Nat) (hi : i < xs.length) (d : Dg) :
    OwnD base ((((((w.setCell ⟨g, i * 6, none⟩ (.int .i32 d.l)).setCell ⟨g, i * 6 + 1, none⟩ (.int .i32 d.c)).setCell ⟨g, i * 6 + 2, none⟩ (.string d.p)).setCell ⟨g, i * 6 + 3, none⟩ (.int .i64 d.s)).setCell ⟨g, i * 6 + 4, none⟩ (.string d.r)).setCell ⟨g, i * 6 + 5, none⟩ (.string d.m)) g cap (xs.set i d) ∧
    w.grownBy ((((((w.setCell ⟨g, i * 6, none⟩ (.int .i32 d.l)).setCell ⟨g, i * 6 + 1, none⟩ (.int .i32 d.c)).setCell ⟨g, i * 6 + 2, none⟩ (.string d.p)).setCell ⟨g, i * 6 + 3, none⟩ (.int .i64 d.s)).setCell ⟨g, i * 6 + 4, none⟩ (.string d.r)).setCell ⟨g, i * 6 + 5, none⟩ (.string d.m)) (some g) := by
  obtain ⟨h1, k1⟩ := World.ownsRow.stored h (i * 6) (.int .i32 d.l)
  obtain ⟨h2, k2⟩ := World.ownsRow.stored h1 (i * 6 + 1) (.int .i32 d.c)
  obtain ⟨h3, k3⟩ := World.ownsRow.stored h2 (i * 6 + 2) (.string d.p)
  obtain ⟨h4, k4⟩ := World.ownsRow.stored h3 (i * 6 + 3) (.int .i64 d.s)
  obtain ⟨h5, k5⟩ := World.ownsRow.stored h4 (i * 6 + 4) (.string d.r)
  obtain ⟨h6, k6⟩ := World.ownsRow.stored h5 (i * 6 + 5) (.string d.m)
  refine ⟨?_, k1.trans (k2.trans (k3.trans (k4.trans (k5.trans k6))))⟩
  rw [set6 xs i d hi] at h6
  unfold OwnD
  rw [List.length_set]
  exact h6

def zeroD : Dg := ⟨0, 0, ByteArray.empty, 0, ByteArray.empty, ByteArray.empty, by decide, by decide, by decide, by decide, by decide, by decide⟩

theorem Try.info38 : (Try.prog.info? 38).map (fun i => (i.zero, i.size, i.bytes)) = some (some (.agg #[.int .i32 0, .int .i32 0, .string ByteArray.empty, .int .i64 0, .string ByteArray.empty, .string ByteArray.empty]), 6, 64) := by kernel_rfl

theorem made_get (z : Array Value) (k : Nat) (hz : z.size = k) (n i j : Nat) (hi : i < n) (hj : j < k) : (madeCells z (n * k)).toList[i * k + j]? = z[j]? := by
  have hlt : i * k + j < n * k := by
    have : (i + 1) * k ≤ n * k := Nat.mul_le_mul_right k hi
    rw [Nat.succ_mul] at this
    omega
  have hm : (i * k + j) % k = j := by rw [Nat.mul_comm, Nat.mul_add_mod, Nat.mod_eq_of_lt hj]
  rw [Array.getElem?_toList, madeCells, Array.getElem?_map, Array.getElem?_range]
  rw [if_pos hlt]
  simp [hz, hm, hj]

theorem made_flat {α : Type} (enc : α → List Value) (k : Nat) (hk : ∀ x, (enc x).length = k) (x : α) (z : Array Value) (hz : z.toList = enc x) (n : Nat) : (madeCells z (n * k)).toList = (List.replicate n x).flatMap enc := by
  have hs : z.size = k := by rw [← Array.length_toList, hz, hk]
  apply List.ext_getElem?
  intro t
  by_cases ht : t < n * k
  · have k0 : 0 < k := by rcases Nat.eq_zero_or_pos k with h | h; · subst h; simp at ht
                          · exact h
    obtain ⟨i, j, hj, rfl⟩ : ∃ i j, j < k ∧ t = i * k + j := ⟨t / k, t % k, Nat.mod_lt _ k0, by rw [Nat.mul_comm]; exact (Nat.div_add_mod t k).symm⟩
    have hi : i < n := by
      rcases Nat.lt_or_ge i n with h | h
      · exact h
      · have := Nat.mul_le_mul_right k h
        omega
    rw [made_get z k hs n i j hi hj, flat_get hk _ i j (by simpa using hi) hj, List.getElem_replicate, ← hz, Array.getElem?_toList]
  · rw [List.getElem?_eq_none (by rw [Array.length_toList, size_madeCells]; omega), List.getElem?_eq_none (by rw [flat_len hk]; simp; omega)]

end Go.Proofs.Qxb6627582a
