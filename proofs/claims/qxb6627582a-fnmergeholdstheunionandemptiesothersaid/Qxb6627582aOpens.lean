import Derived.Test.Qxb6627582aWalksC
import Derived.Deep.Slices
import Derived.OpenShut
namespace Go.Proofs.Qxb6627582a
open Go.RowKit Go.Sort Go.ChangeShapes Go.WideShapes

theorem Try.cells22 : Try.prog.cellsOf 22 = 1 := by kernel_rfl
theorem Try.cells21 : Try.prog.cellsOf 21 = 1 := by kernel_rfl
theorem Try.cells9 : Try.prog.cellsOf 9 = 1 := by kernel_rfl
theorem Try.cells3 : Try.prog.cellsOf 3 = 1 := by kernel_rfl

/-- one element of an argument -/
theorem open_dg {H : Type} {enc : TypeId × Value → H} {w : World} {base n : Nat} {spare : Nat → Bool} {held : Bool} {cs : List Value} {x : DataW H × List MemPlace}
    (h : DataW.trod enc Try.prog w base spare held n 38 cs = some x) :
    ∃ d : Dg, cs = [.int .i32 d.l, .int .i32 d.c, .string d.p, .int .i64 d.s, .string d.r, .string d.m] := by
  obtain ⟨xs, k, hk, hx, hlen, hxl, hf⟩ := DataW.trod_struct Try.underlying38 h
  rw [Try.cells38] at hlen
  match xs, hxl, cs, hlen with
  | [y0, y1, y2, y3, y4, y5], _, [v0, v1, v2, v3, v4, v5], _ =>
    have g0 := hf 0 _ rfl
    have g1 := hf 1 _ rfl
    have g2 := hf 2 _ rfl
    have g3 := hf 3 _ rfl
    have g4 := hf 4 _ rfl
    have g5 := hf 5 _ rfl
    simp [Try.cells21, Try.cells9, Try.cells3] at g0 g1 g2 g3 g4 g5
    obtain ⟨l, e0, _, w0⟩ := DataW.trod_int Try.underlying21 g0
    obtain ⟨c, e1, _, w1⟩ := DataW.trod_int Try.underlying21 g1
    obtain ⟨p, e2, _, w2⟩ := DataW.trod_string Try.underlying9 g2
    obtain ⟨s, e3, _, w3⟩ := DataW.trod_int Try.underlying3 g3
    obtain ⟨r, e4, _, w4⟩ := DataW.trod_string Try.underlying9 g4
    obtain ⟨m, e5, _, w5⟩ := DataW.trod_string Try.underlying9 g5
    simp only [List.cons.injEq, and_true] at e0 e1 e2 e3 e4 e5
    exact ⟨⟨l, c, p, s, r, m, bounds_i32 w0, bounds_i32 w1, bounds_i64 w3, w2, w4, w5⟩, by rw [e0, e1, e2, e3, e4, e5]⟩

/-- an argument '[]Diag' opened -/
theorem open_drow {H : Type} {enc : TypeId × Value → H} {w : World} {base fuel : Nat} {spare : Nat → Bool} {held : Bool} {cs : List Value} {x : DataW H × List MemPlace}
    (h : DataW.trod enc Try.prog w base spare held fuel 22 cs = some x) :
    ∃ (ao : Option Addr) (cap : Nat) (xs : List Dg), cs = [.slice ao xs.length cap] ∧ xs.length ≤ maxLen ∧ DRow w ao xs := by
  rcases Deep.open_slice Try.underlying22 h with ⟨rfl, _⟩ | ⟨a, len, cap, m, n, D, Pl, rfl, hb, hl, hm, hmm, rfl, hx⟩
  · exact ⟨none, 0, [], rfl, by decide, fun i hi => by simp at hi⟩
  · have hlm : len ≤ m := by rw [hmm]; split <;> omega
    rw [Try.cells38] at hx
    have each : ∀ i, i < m → ∃ d : Dg, w.cells? base (a.add (i * 6)) 6 = some [.int .i32 d.l, .int .i32 d.c, .string d.p, .int .i64 d.s, .string d.r, .string d.m] := fun i hi => by
      obtain ⟨cs', h1, h2⟩ := hx i hi
      obtain ⟨d, rfl⟩ := open_dg h2
      exact ⟨d, h1⟩
    have hI : Inhabited Dg := ⟨⟨0, 0, ByteArray.empty, 0, ByteArray.empty, ByteArray.empty, by decide, by decide, by decide, by decide, by decide, by decide⟩⟩
    obtain ⟨f, hfi⟩ := Deep.choose_lt each
    refine ⟨some a, cap, (List.range len).map f, by simp, by simp; omega, fun i hi => ?_⟩
    simp at hi
    obtain ⟨b, off, spot⟩ := a
    have h0 := World.cells?_some (hfi 0 (by omega))
    have hspot : spot = none := by
      have := h0.2.2 0 (by omega)
      simpa [Addr.add] using World.cell?_spot this
    subst hspot
    refine ⟨b, off, rfl, ?_⟩
    have h1 := (World.cells?_some (hfi i (by omega))).2.2
    rw [List.getElem_map, List.getElem_range]
    have c : ∀ j, j < 6 → w.cell? ⟨b, off + i * 6 + j, none⟩ = [Value.int .i32 (f i).l, .int .i32 (f i).c, .string (f i).p, .int .i64 (f i).s, .string (f i).r, .string (f i).m][j]? := fun j hj => by
      have := h1 j hj
      rw [Deep.add_add, add_plain, ← Nat.add_assoc] at this
      exact this
    exact ⟨c 0 (by omega), c 1 (by omega), c 2 (by omega), c 3 (by omega), c 4 (by omega), c 5 (by omega)⟩

end Go.Proofs.Qxb6627582a
