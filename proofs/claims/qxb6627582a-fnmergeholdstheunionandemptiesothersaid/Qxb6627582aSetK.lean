import Derived.Test.Qxb6627582aKeys
import Derived.Test.Qxb6627582aRowsK
namespace Go.Proofs.Qxb6627582a
open Go.RowKit Go.Sort

/-- what a Set's cells hold, as plain data -/
structure SC where
  nv : Value
  mv : Value
  rc : List Nat
  lk : Nat
  fv : Value
  la : Nat
  ev : Value
  se : Int
  un : Bool
  nx : Int
  de : Int
  dw : Int
  ns : List Nt
  fs : List Nat
  es : List En

def SC.cells (c : SC) : List Value :=
  [c.nv, c.mv] ++ (c.rc.map (fun n => Value.int .i32 (n : Nat)) ++ [.int .i64 (c.lk : Nat), c.fv, .int .i32 (c.la : Nat), c.ev, .int .i64 c.se, .bool c.un, .int .i64 c.nx, .int .i64 c.de, .int .i64 c.dw])

/-- the blocks of a set -/
def SC.fp (sb : Nat) (c : SC) (b : Nat) : Prop := b = sb ∨ c.nv.ownBlock = some b ∨ c.fv.ownBlock = some b ∨ c.ev.ownBlock = some b ∨ c.mv = .map (some b)

/-- a Set's memory: its own block, its three rows, its map (which holds the notes ms) -/
structure Mem (w : World) (sb : Nat) (c : SC) (ms : List Nt) : Prop where
  blk : w.heap[sb]? = some (.cells ⟨c.cells⟩ 47 (0, 0))
  nts : w.ownsRow 0 52 4 c.nv c.ns.length (c.ns.flatMap encN)
  fol : w.ownsRow 0 21 1 c.fv c.fs.length (c.fs.map (fun n => Value.int .i32 (n : Nat)))
  ent : w.ownsRow 0 55 3 c.ev c.es.length (c.es.flatMap encE)
  map : MapOK w c.mv ms
  rc8 : c.rc.length = 8

/-- what always holds of a Set's data; its counts are at most K -/
structure Inv (c : SC) (K : Nat) : Prop where
  rcb : ∀ r ∈ c.rc, r ≤ 2147483647
  fsl : c.fs.length = c.ns.length
  fsb : ∀ f ∈ c.fs, f ≤ c.ns.length
  lab : c.la ≤ c.ns.length
  esb : ∀ e ∈ c.es, e.n < c.ns.length
  nsK : c.ns.length ≤ K
  esK : c.es.length ≤ K
  lkK : c.lk ≤ K

/-- a Set lies at block sb -/
structure SetAt (w : World) (sb : Nat) (c : SC) (K : Nat) : Prop where
  m : Mem w sb c c.ns
  i : Inv c K

/-- the diagnostic that an entry stands for -/
def mkD (e : En) (n : Nt) : Dg := ⟨e.l, e.c, n.p, n.s, n.r, n.m, e.hl, e.hc, n.hs, n.hp, n.hr, n.hm⟩

/-- d is held -/
def SC.mem (c : SC) (d : Dg) : Prop := ∃ e ∈ c.es, ∃ n, c.ns[e.n]? = some n ∧ d = mkD e n

/-- outside F nothing that was there has turned -/
structure Frm (F : Nat → Prop) (w w' : World) : Prop where
  os : w'.os = w.os
  tape : w'.tape = w.tape
  output : w'.output = w.output
  size : w.heap.size ≤ w'.heap.size
  block : ∀ k, k < w.heap.size → ¬ F k → w'.heap[k]? = w.heap[k]?

theorem Frm.refl (F : Nat → Prop) (w : World) : Frm F w w := ⟨rfl, rfl, rfl, Nat.le_refl _, fun _ _ _ => rfl⟩
theorem Frm.mono {F G : Nat → Prop} {w w' : World} (h : Frm F w w') (hf : ∀ b, b < w.heap.size → F b → G b) : Frm G w w' := ⟨h.os, h.tape, h.output, h.size, fun k hk hg => h.block k hk fun x => hg (hf k hk x)⟩
/-- one after the other; what the second may turn is what the first may, or new -/
theorem Frm.trans {F G : Nat → Prop} {a b c : World} (h : Frm F a b) (k : Frm G b c) (hG : ∀ x, G x → F x ∨ a.heap.size ≤ x) : Frm F a c :=
  ⟨k.os.trans h.os, k.tape.trans h.tape, k.output.trans h.output, Nat.le_trans h.size k.size, fun i hi hf =>
    (k.block i (Nat.lt_of_lt_of_le hi h.size) fun x => by rcases hG i x with h1 | h1; exact hf h1; omega).trans (h.block i hi hf)⟩
theorem Frm.of_below {F : Nat → Prop} {w w' : World} (h : Below w.heap.size w w') : Frm F w w' := ⟨h.os, h.tape, h.output, h.size, fun k hk _ => h.block k hk⟩
theorem Frm.below {F : Nat → Prop} {w w' : World} {B : Nat} (h : Frm F w w') (hB : B ≤ w.heap.size) (hF : ∀ b, F b → B ≤ b) : Below B w w' :=
  ⟨h.os, h.tape, h.output, h.size, fun k hk => h.block k (by omega) fun x => by have := hF k x; omega⟩
theorem Frm.of_grown {F : Nat → Prop} {w w' : World} {r : Nat} (h : w.grownBy w' (some r)) (hF : F r) : Frm F w w' :=
  ⟨h.os, h.tape, h.output, h.size, fun k hk hf => h.block k hk fun e => by cases e; exact hf hF⟩
theorem Frm.setCell (F : Nat → Prop) (w : World) (a : Addr) (v : Value) (hF : F a.block) : Frm F w (w.setCell a v) :=
  ⟨rfl, rfl, rfl, by simp, fun k _ hk => Below.heap_setCell w a v k fun e => hk (e ▸ hF)⟩
theorem Frm.alloc (F : Nat → Prop) (w : World) (o : Obj) : Frm F w (w.alloc o) := .of_below ((Below.refl _ _).alloc (Nat.le_refl _) o)
theorem Frm.drew {F : Nat → Prop} {w w' : World} (h : Frm F w w') : Frm F w w'.drew := ⟨h.os, h.tape, h.output, h.size, h.block⟩

theorem owns_kept {w w' : World} {base : Nat} {e : TypeId} {size : Nat} {v : Value} {n : Nat} {xs : List Value} (h : w.ownsRow base e size v n xs)
    (hk : ∀ b, v.ownBlock = some b → w'.heap[b]? = w.heap[b]?) : w'.ownsRow base e size v n xs := by
  refine ⟨h.1, ?_⟩
  rcases h.2 with h0 | ⟨g, cap, cur, rfl, h1, h2, h3⟩
  · exact .inl h0
  · exact .inr ⟨g, cap, cur, rfl, h1, (hk g rfl).trans h2, h3⟩

theorem map_kept {w w' : World} {mv : Value} {ns : List Nt} (h : MapOK w mv ns) (hk : ∀ b, mv = .map (some b) → w'.heap[b]? = w.heap[b]?) : MapOK w' mv ns := by
  rcases h with h | ⟨mb, D, rfl, ⟨es, clock, hb, h2⟩, h3⟩
  · exact .inl h
  · exact .inr ⟨mb, D, rfl, ⟨es, clock, (hk mb rfl).trans hb, h2⟩, h3⟩

theorem Mem.kept {w w' : World} {sb : Nat} {c : SC} {K : List Nt} (h : Mem w sb c K) (hk : ∀ b, c.fp sb b → w'.heap[b]? = w.heap[b]?) : Mem w' sb c K :=
  { h with
    blk := (hk sb (.inl rfl)).trans h.blk
    nts := owns_kept h.nts fun b e => hk b (.inr (.inl e))
    fol := owns_kept h.fol fun b e => hk b (.inr (.inr (.inl e)))
    ent := owns_kept h.ent fun b e => hk b (.inr (.inr (.inr (.inl e))))
    map := map_kept h.map fun b e => hk b (.inr (.inr (.inr (.inr e)))) }

theorem heap_lt {w : World} {b : Nat} {o : Obj} (h : w.heap[b]? = some o) : b < w.heap.size := by
  rcases Nat.lt_or_ge b w.heap.size with h1 | h1
  · exact h1
  · rw [Array.getElem?_eq_none h1] at h; cases h

theorem Mem.fp_lt {w : World} {sb : Nat} {c : SC} {K : List Nt} (h : Mem w sb c K) : ∀ b, c.fp sb b → b < w.heap.size := by
  rintro b (rfl | e | e | e | e)
  · exact heap_lt h.blk
  · exact (h.nts.lt b e).2
  · exact (h.fol.lt b e).2
  · exact (h.ent.lt b e).2
  · rcases h.map with ⟨h1, _⟩ | ⟨mb, D, h1, ⟨es, cl, hb, _⟩, _⟩
    · rw [e] at h1; cases h1
    · rw [e] at h1; cases h1; exact heap_lt hb

theorem Mem.frm {w w' : World} {sb : Nat} {c : SC} {K : List Nt} {F : Nat → Prop} (h : Mem w sb c K) (hf : Frm F w w') (hd : ∀ b, c.fp sb b → ¬ F b) : Mem w' sb c K :=
  h.kept fun b hb => hf.block b (h.fp_lt b hb) (hd b hb)

theorem Inv.mono {c : SC} {K K' : Nat} (h : Inv c K) (hK : K ≤ K') : Inv c K' :=
  { h with nsK := Nat.le_trans h.nsK hK, esK := Nat.le_trans h.esK hK, lkK := Nat.le_trans h.lkK hK }

/-- a cell of the set's own block -/
theorem Mem.cell {w : World} {sb : Nat} {c : SC} {K : List Nt} (h : Mem w sb c K) (j : Nat) : w.cell? ⟨sb, j, none⟩ = c.cells[j]? := by
  rw [cell_of_row w sb j _ 47 (0, 0) h.blk]; simp
theorem Mem.frozen {w : World} {sb : Nat} {c : SC} {K : List Nt} (h : Mem w sb c K) (j : Nat) : w.frozen? ⟨sb, j, none⟩ = false :=
  frozen_of_row w sb j _ 47 h.blk

theorem Mem.c0 {w : World} {sb : Nat} {c : SC} {K : List Nt} (h : Mem w sb c K) : w.cell? ⟨sb, 0, none⟩ = some c.nv := by rw [h.cell]; rfl
theorem Mem.c1 {w : World} {sb : Nat} {c : SC} {K : List Nt} (h : Mem w sb c K) : w.cell? ⟨sb, 1, none⟩ = some c.mv := by rw [h.cell]; rfl
theorem cells_rc {c : SC} {j : Nat} (hj : j < c.rc.length) : c.cells[2 + j]? = some (.int .i32 (c.rc[j] : Nat)) := by
  unfold SC.cells
  rw [List.getElem?_append_right (by simp), List.getElem?_append_left (by simp; omega)]
  simp [hj]
theorem cells_tail {c : SC} (h8 : c.rc.length = 8) (j : Nat) : c.cells[10 + j]? = [Value.int .i64 (c.lk : Nat), c.fv, .int .i32 (c.la : Nat), c.ev, .int .i64 c.se, .bool c.un, .int .i64 c.nx, .int .i64 c.de, .int .i64 c.dw][j]? := by
  unfold SC.cells
  rw [List.getElem?_append_right (by simp; omega), List.getElem?_append_right (by simp; omega)]
  congr 1
  simp [h8]
  omega
theorem Mem.cr {w : World} {sb : Nat} {c : SC} {K : List Nt} (h : Mem w sb c K) (j : Nat) (hj : j < c.rc.length) : w.cell? ⟨sb, 2 + j, none⟩ = some (.int .i32 (c.rc[j] : Nat)) := by rw [h.cell]; exact cells_rc hj
theorem Mem.c10 {w : World} {sb : Nat} {c : SC} {K : List Nt} (h : Mem w sb c K) : w.cell? ⟨sb, 10, none⟩ = some (.int .i64 (c.lk : Nat)) := by rw [h.cell]; exact cells_tail h.rc8 0
theorem Mem.c11 {w : World} {sb : Nat} {c : SC} {K : List Nt} (h : Mem w sb c K) : w.cell? ⟨sb, 11, none⟩ = some c.fv := by rw [h.cell]; exact cells_tail h.rc8 1
theorem Mem.c12 {w : World} {sb : Nat} {c : SC} {K : List Nt} (h : Mem w sb c K) : w.cell? ⟨sb, 12, none⟩ = some (.int .i32 (c.la : Nat)) := by rw [h.cell]; exact cells_tail h.rc8 2
theorem Mem.c13 {w : World} {sb : Nat} {c : SC} {K : List Nt} (h : Mem w sb c K) : w.cell? ⟨sb, 13, none⟩ = some c.ev := by rw [h.cell]; exact cells_tail h.rc8 3
theorem Mem.c14 {w : World} {sb : Nat} {c : SC} {K : List Nt} (h : Mem w sb c K) : w.cell? ⟨sb, 14, none⟩ = some (.int .i64 c.se) := by rw [h.cell]; exact cells_tail h.rc8 4
theorem Mem.c15 {w : World} {sb : Nat} {c : SC} {K : List Nt} (h : Mem w sb c K) : w.cell? ⟨sb, 15, none⟩ = some (.bool c.un) := by rw [h.cell]; exact cells_tail h.rc8 5
theorem Mem.c16 {w : World} {sb : Nat} {c : SC} {K : List Nt} (h : Mem w sb c K) : w.cell? ⟨sb, 16, none⟩ = some (.int .i64 c.nx) := by rw [h.cell]; exact cells_tail h.rc8 6
theorem Mem.c17 {w : World} {sb : Nat} {c : SC} {K : List Nt} (h : Mem w sb c K) : w.cell? ⟨sb, 17, none⟩ = some (.int .i64 c.de) := by rw [h.cell]; exact cells_tail h.rc8 7
theorem Mem.c18 {w : World} {sb : Nat} {c : SC} {K : List Nt} (h : Mem w sb c K) : w.cell? ⟨sb, 18, none⟩ = some (.int .i64 c.dw) := by rw [h.cell]; exact cells_tail h.rc8 8

/-- what a store into the set's own block leaves -/
theorem set_blk {w : World} {sb : Nat} {c c' : SC} (hb : w.heap[sb]? = some (.cells ⟨c.cells⟩ 47 (0, 0))) (j : Nat) (v : Value) (e : c.cells.set j v = c'.cells) :
    (w.setCell ⟨sb, j, none⟩ v).heap[sb]? = some (.cells ⟨c'.cells⟩ 47 (0, 0)) := by
  rw [heap_setCell_same w sb j _ 47 v hb]
  congr 2
  rw [← e]
  apply Array.ext'
  simp

/-- the set's own block is none of its rows -/
theorem Mem.sb_ne {w : World} {sb : Nat} {c : SC} {K : List Nt} (h : Mem w sb c K) : c.nv.ownBlock ≠ some sb ∧ c.fv.ownBlock ≠ some sb ∧ c.ev.ownBlock ≠ some sb ∧ c.mv ≠ .map (some sb) := by
  have row : ∀ (e : TypeId) (size : Nat) (v : Value) (n : Nat) (xs : List Value), w.ownsRow 0 e size v n xs → e ≠ 47 → v.ownBlock ≠ some sb := by
    intro e size v n xs h1 he hb
    rcases h1.2 with ⟨rfl, _⟩ | ⟨g, cap, cur, rfl, _, hg, _⟩
    · cases hb
    · simp only [Value.ownBlock, Option.some.injEq] at hb
      subst hb
      rw [h.blk] at hg
      simp only [Option.some.injEq, Obj.cells.injEq] at hg
      exact he hg.2.1.symm
  refine ⟨row _ _ _ _ _ h.nts (by decide), row _ _ _ _ _ h.fol (by decide), row _ _ _ _ _ h.ent (by decide), fun hm => ?_⟩
  rcases h.map with ⟨h1, _⟩ | ⟨mb, D, h1, ⟨es, cl, hb, _⟩, _⟩
  · rw [hm] at h1; cases h1
  · rw [hm] at h1
    cases h1
    rw [h.blk] at hb
    cases hb

/-- a row and another row of other elements lie apart -/
theorem rows_apart {w : World} {e e' : TypeId} {size size' : Nat} {v v' : Value} {n n' : Nat} {xs xs' : List Value} (h : w.ownsRow 0 e size v n xs) (h' : w.ownsRow 0 e' size' v' n' xs') (he : e ≠ e') {b : Nat}
    (h1 : v.ownBlock = some b) : v'.ownBlock ≠ some b := by
  intro h2
  rcases h.2 with ⟨rfl, _⟩ | ⟨g, cap, cur, rfl, _, hg, _⟩
  · cases h1
  · rcases h'.2 with ⟨rfl, _⟩ | ⟨g', cap', cur', rfl, _, hg', _⟩
    · cases h2
    · simp only [Value.ownBlock, Option.some.injEq] at h1 h2
      subst h1
      subst h2
      rw [hg] at hg'
      simp only [Option.some.injEq, Obj.cells.injEq] at hg'
      exact he hg'.2.1

/-- a row and the map lie apart -/
theorem row_map_apart {w : World} {e : TypeId} {size : Nat} {v mv : Value} {n : Nat} {xs : List Value} {ns : List Nt} (h : w.ownsRow 0 e size v n xs) (hm : MapOK w mv ns) {b : Nat}
    (h1 : v.ownBlock = some b) : mv ≠ .map (some b) := by
  intro h2
  rcases h.2 with ⟨rfl, _⟩ | ⟨g, cap, cur, rfl, _, hg, _⟩
  · cases h1
  · simp only [Value.ownBlock, Option.some.injEq] at h1
    subst h1
    rcases hm with ⟨h3, _⟩ | ⟨mb, D, h3, ⟨es, cl, hb, _⟩, _⟩
    · rw [h2] at h3; cases h3
    · rw [h2] at h3
      cases h3
      rw [hg] at hb
      cases hb

end Go.Proofs.Qxb6627582a
