import Derived.Test.Qxb6627582aWalksK
import Derived.Laws.IdiomCopy
namespace Go.Proofs.Qxb6627582a
open Go.RowKit Go.Sort

theorem set3 : ∀ (xs : List En) (i : Nat) (d : En), i < xs.length →
    ((((xs.flatMap encE).set (i * 3) (.int .i32 d.l)).set (i * 3 + 1) (.int .i32 d.c)).set (i * 3 + 2) (.int .i32 (d.n : Nat))) = (xs.set i d).flatMap encE
  | [], i, d, hi => by simp at hi
  | x :: xs, 0, d, _ => by simp [encE]
  | x :: xs, i + 1, d, hi => by
    have e := set3 xs i d (by simpa using hi)
    rw [List.set_cons_succ, List.flatMap_cons, List.flatMap_cons, ← e]
    rw [List.set_append_right _ _ (by rw [encE_len]; omega), List.set_append_right _ _ (by rw [encE_len]; omega), List.set_append_right _ _ (by rw [encE_len]; omega)]
    rw [encE_len]
    rw [show (i + 1) * 3 - 3 = i * 3 by omega, show (i + 1) * 3 + 1 - 3 = i * 3 + 1 by omega, show (i + 1) * 3 + 2 - 3 = i * 3 + 2 by omega]

/-- the cells of one entry -/
def At3 (w : World) (b off : Nat) (d : En) : Prop :=
  w.cell? ⟨b, off, none⟩ = some (.int .i32 d.l) ∧ w.cell? ⟨b, off + 1, none⟩ = some (.int .i32 d.c) ∧ w.cell? ⟨b, off + 2, none⟩ = some (.int .i32 (d.n : Nat))

abbrev OwnE (w : World) (g n cap : Nat) (es : List En) : Prop := w.ownsRow 0 55 3 (.slice (some ⟨g, 0, none⟩) n cap) n (es.flatMap encE)

theorem own_len3 {w : World} {g n cap : Nat} {es : List En} (h : OwnE w g n cap es) : es.length = n := by
  have := h.1
  rw [flat_len encE_len] at this
  omega

theorem own_at3 {w : World} {g n cap : Nat} {es : List En} (h : OwnE w g n cap es) (i off : Nat) (hi : i < es.length) (ho : off = i * 3) : At3 w g off es[i] := by
  have hn := own_len3 h
  subst ho
  have c : ∀ j, j < 3 → w.cell? ⟨g, i * 3 + j, none⟩ = (encE es[i])[j]? := fun j hj => by
    rw [h.cellAt (i * 3 + j) (by omega), flat_get encE_len es i j hi hj]
  exact ⟨c 0 (by omega), c 1 (by omega), c 2 (by omega)⟩

theorem own_store3 {w : World} {g n cap : Nat} {es : List En} (h : OwnE w g n cap es) (i : Nat) (hi : i < es.length) (d : En) :
    OwnE (((w.setCell ⟨g, i * 3, none⟩ (.int .i32 d.l)).setCell ⟨g, i * 3 + 1, none⟩ (.int .i32 d.c)).setCell ⟨g, i * 3 + 2, none⟩ (.int .i32 (d.n : Nat))) g n cap (es.set i d) ∧
    w.grownBy (((w.setCell ⟨g, i * 3, none⟩ (.int .i32 d.l)).setCell ⟨g, i * 3 + 1, none⟩ (.int .i32 d.c)).setCell ⟨g, i * 3 + 2, none⟩ (.int .i32 (d.n : Nat))) (some g) := by
  obtain ⟨h1, k1⟩ := World.ownsRow.stored h (i * 3) (.int .i32 d.l)
  obtain ⟨h2, k2⟩ := World.ownsRow.stored h1 (i * 3 + 1) (.int .i32 d.c)
  obtain ⟨h3, k3⟩ := World.ownsRow.stored h2 (i * 3 + 2) (.int .i32 (d.n : Nat))
  refine ⟨?_, k1.trans (k2.trans k3)⟩
  rw [set3 es i d hi] at h3
  exact h3

/-- a shorter slice of the same row -/
theorem own_short {w : World} {g n cap : Nat} {es : List En} (h : OwnE w g n cap es) (k : Nat) (hk : k ≤ n) : OwnE w g k cap (es.take k) := by
  have hn := own_len3 h
  have e : (es.take k).flatMap encE = (es.flatMap encE).take (k * 3) := by
    have h1 : es.flatMap encE = (es.take k).flatMap encE ++ (es.drop k).flatMap encE := by rw [← List.flatMap_append, List.take_append_drop]
    rw [h1, List.take_left' (by rw [flat_len encE_len, List.length_take]; congr 1; omega)]
  refine ⟨by rw [flat_len encE_len, List.length_take]; congr 1; omega, .inr ?_⟩
  rcases h.2 with ⟨h', _⟩ | ⟨g', cap', cur, h', h1, hg, h2, h3, h4, h5⟩
  · simp at h'
  · simp only [Value.slice.injEq, Option.some.injEq, Addr.mk.injEq, and_true, true_and] at h'
    obtain ⟨rfl, rfl⟩ := h'
    refine ⟨g, cap, cur, rfl, h1, hg, by omega, h3, h4, ?_⟩
    rw [e, ← h5, List.take_take]
    congr 1
    have : k * 3 ≤ n * 3 := Nat.mul_le_mul_right 3 hk
    omega

theorem setCells_owned {g n cap M : Nat} : ∀ (vs : List Value) (o : Nat) (w : World) (xs : List Value), w.ownsRow 0 55 3 (.slice (some ⟨g, 0, none⟩) n cap) n xs → M ≤ o →
    ∃ xs', (w.setCells g o vs).ownsRow 0 55 3 (.slice (some ⟨g, 0, none⟩) n cap) n xs' ∧ xs'.take M = xs.take M ∧ w.grownBy (w.setCells g o vs) (some g)
  | [], o, w, xs, h, _ => ⟨xs, h, rfl, World.grownBy.refl _ _⟩
  | v :: r, o, w, xs, h, hM => by
    obtain ⟨h1, k1⟩ := World.ownsRow.stored h o v
    obtain ⟨xs', h2, h3, h4⟩ := setCells_owned (M := M) r (o + 1) _ _ h1 (by omega)
    exact ⟨xs', h2, by rw [h3, List.take_set_of_le hM], k1.trans h4⟩

/-- clear(s[k:]) -/
theorem clear_run {w : World} {g n cap k cc : Nat} {es : List En} (h : OwnE w g n cap es) (hk : k < n) :
    ∃ w', (∀ ty, (Builtin.clear_ #[45] ty #[.slice (some ⟨g, k * 3, none⟩) (n - k) cc]).run Try.prog w = .ok (.tuple #[]) w') ∧ OwnE w' g k cap (es.take k) ∧ w.grownBy w' (some g) := by
  have hn := own_len3 h
  have hzv : ∀ w, (zeroValue 55).run Try.prog w = .ok (.agg #[.int .i32 0, .int .i32 0, .int .i32 0]) w := fun w => by kernel_rfl
  obtain ⟨vs, hvs⟩ : ∃ vs, vs = (Builtin.zeroCells #[.int .i32 0, .int .i32 0, .int .i32 0] (n - k)).toList := ⟨_, rfl⟩
  have hvl : vs.length = (n - k) * 3 := by rw [hvs, Array.length_toList, size_zeroCells]; rfl
  have hv1 : ∀ v ∈ vs, v.oneCell' = true := by
    intro v hv
    rw [hvs] at hv
    simp [Builtin.zeroCells] at hv
    obtain ⟨t, _, rfl⟩ := hv
    have : t % 3 = 0 ∨ t % 3 = 1 ∨ t % 3 = 2 := by omega
    rcases this with e | e | e <;> simp [e] <;> rfl
  have hst := run_storeCells_cells (P := Try.prog) g (k * 3) vs 0 w (fun j hj => by
      rw [h.cellAt (k * 3 + 0 + j) (by omega)]
      rw [List.getElem?_eq_getElem (by rw [flat_len encE_len]; omega)]
      rfl) (fun j _ => h.frozenAt _) hv1
  simp only [Nat.add_zero] at hst
  obtain ⟨xs', h2, h3, h4⟩ := setCells_owned (M := k * 3) vs (k * 3) w _ h (Nat.le_refl _)
  refine ⟨_, fun ty => ?_, ?_, h4⟩
  · obtain ⟨m, hm⟩ : ∃ m, n - k = m + 1 := ⟨n - k - 1, by omega⟩
    rw [hm] at hvs ⊢
    simp [Builtin.clear_, run_underlying Try.underlying45, hzv]
    rw [show (Value.agg #[Value.int .i32 0, Value.int .i32 0, Value.int .i32 0]).cells = #[Value.int .i32 0, Value.int .i32 0, Value.int .i32 0] from rfl, ← hvs, hst]
    rfl
  · have e : (es.take k).flatMap encE = xs'.take (k * 3) := by
      have h1 : es.flatMap encE = (es.take k).flatMap encE ++ (es.drop k).flatMap encE := by rw [← List.flatMap_append, List.take_append_drop]
      rw [h3, h1, List.take_left' (by rw [flat_len encE_len, List.length_take]; congr 1; omega)]
    refine ⟨by rw [flat_len encE_len, List.length_take]; congr 1; omega, .inr ?_⟩
    rcases h2.2 with ⟨h', _⟩ | ⟨g', cap', cur, h', j1, hg, j2, j3, j4, j5⟩
    · simp at h'
    · simp only [Value.slice.injEq, Option.some.injEq, Addr.mk.injEq, and_true, true_and] at h'
      obtain ⟨rfl, rfl⟩ := h'
      refine ⟨g, cap, cur, rfl, j1, hg, by omega, j3, j4, ?_⟩
      rw [e, ← j5, List.take_take]
      congr 1
      have : k * 3 ≤ n * 3 := Nat.mul_le_mul_right 3 (by omega)
      omega

/-! what Compact has done so far -/
structure CP (es cs : List En) (k0 k k2 : Nat) : Prop where
  len : cs.length = es.length
  hk : k + 1 ≤ k0 + k2
  dr : ∀ i, k0 + k2 ≤ i + 1 → cs[i]? = es[i]?
  mem : ∀ e, e ∈ cs.take k ↔ e ∈ es.take (k0 + k2)

theorem memE_take_succ {ys : List En} {k : Nat} (hk : k < ys.length) (d : En) : d ∈ ys.take (k + 1) ↔ d ∈ ys.take k ∨ d = ys[k] := by
  rw [List.take_succ_eq_append_getElem hk, List.mem_append, List.mem_singleton]

theorem mem_prev {es : List En} {p q : Nat} (hp : p < es.length) (h : p < q) : es[p] ∈ es.take q := by
  rw [List.mem_take_iff_getElem]
  exact ⟨p, by omega, rfl⟩

theorem CP.start {es : List En} {k0 : Nat} (h0 : 0 < k0) (hk : k0 < es.length) (e : es[k0] = es[k0 - 1]'(by omega)) : CP es es k0 k0 1 :=
  ⟨rfl, Nat.le_refl _, fun _ _ => rfl, fun d => by
    rw [memE_take_succ hk, e]
    constructor
    · exact Or.inl
    · rintro (h | rfl)
      · exact h
      · exact mem_prev _ (by omega)⟩

theorem CP.skip {es cs : List En} {k0 k k2 : Nat} (h : CP es cs k0 k k2) (hp : k0 + k2 < es.length) (h2 : 0 < k0 + k2) (e : es[k0 + k2] = es[k0 + k2 - 1]'(by omega)) : CP es cs k0 k (k2 + 1) :=
  ⟨h.len, by have := h.hk; omega, fun i hi => h.dr i (by omega), fun d => by
    rw [h.mem, ← Nat.add_assoc, memE_take_succ hp, e]
    constructor
    · exact Or.inl
    · rintro (h | rfl)
      · exact h
      · exact mem_prev _ (by omega)⟩

theorem CP.take {es cs : List En} {k0 k k2 : Nat} (h : CP es cs k0 k k2) (hp : k0 + k2 < es.length) : CP es (cs.set k es[k0 + k2]) k0 (k + 1) (k2 + 1) := by
  have hk := h.hk
  have hl := h.len
  refine ⟨by rw [List.length_set, hl], by omega, fun i hi => ?_, fun d => ?_⟩
  · rw [List.getElem?_set_ne (by omega)]
    exact h.dr i (by omega)
  · rw [← Nat.add_assoc, memE_take_succ hp, ← h.mem, List.take_succ_eq_append_getElem (by rw [List.length_set]; omega), List.getElem_set_self, List.take_set_of_le (Nat.le_refl _), List.mem_append, List.mem_singleton]

theorem CP.at' {es cs : List En} {k0 k k2 : Nat} (h : CP es cs k0 k k2) (i : Nat) (hi : k0 + k2 ≤ i + 1) (hc : i < cs.length) (he : i < es.length) : cs[i] = es[i] := by
  have := h.dr i hi
  rw [List.getElem?_eq_getElem hc, List.getElem?_eq_getElem he] at this
  exact Option.some.inj this

end Go.Proofs.Qxb6627582a
