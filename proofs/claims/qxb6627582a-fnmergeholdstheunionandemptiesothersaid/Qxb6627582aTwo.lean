import Derived.Test.Qxb6627582aWalksS
namespace Go.Proofs.Qxb6627582a
open Go.RowKit Go.Sort

/-- an argument: it can be read, and lies below block number B -/
structure Arg (B : Nat) (w : World) (bo : Option Addr) (xs : List Dg) : Prop where
  row : DRow w bo xs
  low : 0 < xs.length → ∀ ad, bo = some ad → ad.block < B

theorem Arg.of_row {w : World} {bo : Option Addr} {xs : List Dg} (h : DRow w bo xs) : Arg w.heap.size w bo xs :=
  ⟨h, fun hp ad e => by
    obtain ⟨b, off, e', h0, _⟩ := h 0 hp
    rw [e] at e'
    cases e'
    exact World.block_lt_of_cell? _ _ h0⟩

theorem Arg.mono {B B' : Nat} {w : World} {bo : Option Addr} {xs : List Dg} (h : Arg B w bo xs) (hB : B ≤ B') : Arg B' w bo xs := ⟨h.row, fun hp ad e => Nat.lt_of_lt_of_le (h.low hp ad e) hB⟩

theorem Arg.below {B : Nat} {w w' : World} {bo : Option Addr} {xs : List Dg} (h : Arg B w bo xs) (hb : Below B w w') : Arg B w' bo xs :=
  ⟨fun i hi => by
    obtain ⟨b, off, e, h0, h1, h2, h3, h4, h5⟩ := h.row i hi
    have hlt : b < B := h.low (by omega) _ e
    refine ⟨b, off, e, ?_, ?_, ?_, ?_, ?_, ?_⟩
    · rw [hb.cell (p := ⟨b, _, none⟩) hlt]; exact h0
    · rw [hb.cell (p := ⟨b, _, none⟩) hlt]; exact h1
    · rw [hb.cell (p := ⟨b, _, none⟩) hlt]; exact h2
    · rw [hb.cell (p := ⟨b, _, none⟩) hlt]; exact h3
    · rw [hb.cell (p := ⟨b, _, none⟩) hlt]; exact h4
    · rw [hb.cell (p := ⟨b, _, none⟩) hlt]; exact h5, h.low⟩

theorem Arg.own {B base : Nat} {w : World} {g cap : Nat} {xs : List Dg} (h : OwnD base w g cap xs) (hg : g < B) : Arg B w (some ⟨g, 0, none⟩) xs :=
  ⟨own_drow h, fun _ ad e => by cases e; exact hg⟩

/-- one set that lies from block number B on -/
structure One (B : Nat) (w : World) (sb : Nat) (c : SC) (K : Nat) : Prop where
  s : SetAt w sb c K
  lo : ∀ b, c.fp sb b → B ≤ b
  B : B ≤ w.heap.size

/-- two sets that share nothing -/
structure Pair (B : Nat) (w : World) (sb : Nat) (c : SC) (K ob : Nat) (co : SC) (Ko : Nat) : Prop where
  s : SetAt w sb c K
  o : SetAt w ob co Ko
  ap : ∀ b, c.fp sb b → ¬ co.fp ob b
  ls : ∀ b, c.fp sb b → B ≤ b
  lo : ∀ b, co.fp ob b → B ≤ b
  B : B ≤ w.heap.size

theorem Pair.symm {B : Nat} {w : World} {sb : Nat} {c : SC} {K ob : Nat} {co : SC} {Ko : Nat} (h : Pair B w sb c K ob co Ko) : Pair B w ob co Ko sb c K :=
  ⟨h.o, h.s, fun b h1 h2 => h.ap b h2 h1, h.lo, h.ls, h.B⟩

theorem One.new (w : World) (a b : Int) : One w.heap.size (w.alloc (emptyB a b)) w.heap.size (emptySC a b) 0 :=
  ⟨emptySet (heap_alloc_new _ _) 0, fun x hx => Nat.le_of_eq (empty_fp a b _ x hx).symm, by simp⟩

theorem One.via {B : Nat} {w w' : World} {sb : Nat} {c c' : SC} {K K' : Nat} (h : One B w sb c K) (hs : SetAt w' sb c' K') (hv : Via sb c c' w w') : One B w' sb c' K' ∧ Below B w w' :=
  ⟨⟨hs, fun b hb => by
    rcases hv.fp b hb with h1 | h1
    · exact h.lo b h1
    · exact Nat.le_trans h.B h1, Nat.le_trans h.B hv.frm.size⟩, hv.frm.below h.B h.lo⟩

theorem Pair.new {B : Nat} {w : World} {sb : Nat} {c : SC} {K : Nat} (h : One B w sb c K) (a b : Int) : Pair B (w.alloc (emptyB a b)) sb c K w.heap.size (emptySC a b) 0 ∧ Below B w (w.alloc (emptyB a b)) :=
  ⟨⟨⟨h.s.m.frm (Frm.alloc (fun _ => False) w _) (fun _ _ => id), h.s.i⟩, emptySet (heap_alloc_new _ _) 0, fun x hx hy => by
    have h1 := h.s.m.fp_lt x hx
    have h2 := empty_fp a b _ x hy
    omega, h.lo, fun x hx => by rw [empty_fp a b _ x hx]; exact h.B, by have := h.B; simp; omega⟩, (Below.refl _ _).alloc h.B _⟩

theorem Pair.right {B : Nat} {w w' : World} {sb : Nat} {c : SC} {K ob : Nat} {co co' : SC} {Ko Ko' : Nat} (h : Pair B w sb c K ob co Ko) (hs : SetAt w' ob co' Ko') (hv : Via ob co co' w w') :
    Pair B w' sb c K ob co' Ko' ∧ Below B w w' :=
  ⟨⟨⟨h.s.m.frm hv.frm h.ap, h.s.i⟩, hs, fun b h1 h2 => by
    rcases hv.fp b h2 with h3 | h3
    · exact h.ap b h1 h3
    · have := h.s.m.fp_lt b h1
      omega, h.ls, fun b hb => by
    rcases hv.fp b hb with h1 | h1
    · exact h.lo b h1
    · exact Nat.le_trans h.B h1, Nat.le_trans h.B hv.frm.size⟩, hv.frm.below h.B h.lo⟩

theorem Pair.below {B : Nat} {w w' : World} {sb : Nat} {c : SC} {K ob : Nat} {co : SC} {Ko : Nat} (h : Pair B w sb c K ob co Ko) (hb : Below w.heap.size w w') : Pair B w' sb c K ob co Ko :=
  ⟨⟨h.s.m.kept fun b x => hb.block b (h.s.m.fp_lt b x), h.s.i⟩, ⟨h.o.m.kept fun b x => hb.block b (h.o.m.fp_lt b x), h.o.i⟩, h.ap, h.ls, h.lo, Nat.le_trans h.B hb.size⟩

theorem f10one {B : Nat} {w : World} {sb : Nat} {c : SC} {K : Nat} (h : One B w sb c K) (bo : Option Addr) (cap : Nat) (xs : List Dg) (hr : Arg B w bo xs) (hl : xs.length ≤ 4096) (hK : K < 100000) :
    Calls Try.prog 10 #[.pointer (some ⟨sb, 0, none⟩), .slice bo xs.length cap] w fun x w' => x = .returned (.tuple #[]) ∧ ∃ c' : SC, One B w' sb c' (K + 2 * xs.length) ∧ (∀ x, c'.mem x ↔ c.mem x ∨ x ∈ xs) ∧ c'.de = c.de ∧ c'.dw = c.dw ∧ Below B w w' :=
  (f10 sb K B c bo cap xs w h.s hr.row hr.low h.lo h.B hl hK).mono fun _ _ ⟨e, c', hs, hm, h1, h2, hv⟩ => ⟨e, c', (h.via hs hv).1, hm, h1, h2, (h.via hs hv).2⟩

theorem f10right {B : Nat} {w : World} {sb : Nat} {c : SC} {K ob : Nat} {co : SC} {Ko : Nat} (h : Pair B w sb c K ob co Ko) (bo : Option Addr) (cap : Nat) (xs : List Dg) (hr : Arg B w bo xs) (hl : xs.length ≤ 4096) (hK : Ko < 100000) :
    Calls Try.prog 10 #[.pointer (some ⟨ob, 0, none⟩), .slice bo xs.length cap] w fun x w' => x = .returned (.tuple #[]) ∧ ∃ co' : SC, Pair B w' sb c K ob co' (Ko + 2 * xs.length) ∧ (∀ x, co'.mem x ↔ co.mem x ∨ x ∈ xs) ∧ co'.de = co.de ∧ co'.dw = co.dw ∧ Below B w w' :=
  (f10 ob Ko B co bo cap xs w h.o hr.row hr.low h.lo h.B hl hK).mono fun _ _ ⟨e, c', hs, hm, h1, h2, hv⟩ => ⟨e, c', (h.right hs hv).1, hm, h1, h2, (h.right hs hv).2⟩

theorem f10left {B : Nat} {w : World} {sb : Nat} {c : SC} {K ob : Nat} {co : SC} {Ko : Nat} (h : Pair B w sb c K ob co Ko) (bo : Option Addr) (cap : Nat) (xs : List Dg) (hr : Arg B w bo xs) (hl : xs.length ≤ 4096) (hK : K < 100000) :
    Calls Try.prog 10 #[.pointer (some ⟨sb, 0, none⟩), .slice bo xs.length cap] w fun x w' => x = .returned (.tuple #[]) ∧ ∃ c' : SC, Pair B w' sb c' (K + 2 * xs.length) ob co Ko ∧ (∀ x, c'.mem x ↔ c.mem x ∨ x ∈ xs) ∧ c'.de = c.de ∧ c'.dw = c.dw ∧ Below B w w' :=
  (f10right h.symm bo cap xs hr hl hK).mono fun _ _ ⟨e, c', h1, h2⟩ => ⟨e, c', h1.symm, h2⟩

theorem f11two {B : Nat} {w : World} {sb : Nat} {c : SC} {K ob : Nat} {co : SC} {Ko : Nat} (h : Pair B w sb c K ob co Ko) (hK : K + 2 * Ko < 400000)
    (h1 : 0 ≤ c.de ∧ c.de ≤ 1073741824) (h2 : 0 ≤ c.dw ∧ c.dw ≤ 1073741824) (h3 : 0 ≤ co.de ∧ co.de ≤ 1073741824) (h4 : 0 ≤ co.dw ∧ co.dw ≤ 1073741824) :
    Calls Try.prog 11 #[.pointer (some ⟨sb, 0, none⟩), .pointer (some ⟨ob, 0, none⟩)] w fun e w' => e = .returned (.tuple #[]) ∧
      ∃ c' : SC, Pair B w' sb c' (K + 2 * Ko) ob (emptySC 0 0) 0 ∧ (∀ x, c'.mem x ↔ c.mem x ∨ co.mem x) ∧ c'.de = c.de + co.de ∧ c'.dw = c.dw + co.dw ∧ Below B w w' :=
  (f11 sb ob K Ko c co w h.s h.o h.ap hK h1 h2 h3 h4).mono fun _ w' ⟨e, c', hs, ho, hm, hde, hdw, hf, hp, hne⟩ => ⟨e, c',
    ⟨hs, ho, fun b hb hx => hne (by rw [empty_fp 0 0 _ b hx] at hb; exact hb), fun b hb => by
      rcases hp b hb with h5 | h5 | h5
      · exact h.ls b h5
      · exact h.lo b h5
      · exact Nat.le_trans h.B h5, fun b hb => by rw [empty_fp 0 0 _ b hb]; exact h.lo ob (.inl rfl), Nat.le_trans h.B hf.size⟩, hm, hde, hdw,
    hf.below h.B fun b hb => hb.elim (h.ls b) (h.lo b)⟩

end Go.Proofs.Qxb6627582a
