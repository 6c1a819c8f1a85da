import Derived.Test.Qxb6627577aFmtWalksB
import Derived.Laws.CopyOwn
import Derived.Deep.RegionLaw
namespace Go.Proofs.Qxb6627577aFmt
open Go.RowKit Go.Extern.Stop Go.Stop Go.Extern

/-- L bytes of r from so on, as cells -/
def seg (r : List Int) (so L : Nat) : List Value := ((r.drop so).take L).map (Value.int .u8)
theorem seg_len (r : List Int) (so L : Nat) (h : so + L ≤ r.length) : (seg r so L).length = L := by
  simp [seg]; omega
theorem seg_at (r : List Int) (so L j : Nat) (v : Value) (h : (seg r so L)[j]? = some v) : j < L ∧ so + j < r.length ∧ v = .int .u8 (r.getD (so + j) 0) := by
  unfold seg at h
  rw [List.getElem?_map, Option.map_eq_some_iff] at h
  obtain ⟨z, hz, rfl⟩ := h
  have hL : j < L := by
    have := (List.getElem?_eq_some_iff.1 hz).1
    rw [List.length_take] at this; omega
  rw [List.getElem?_take_of_lt hL, List.getElem?_drop] at hz
  have := (List.getElem?_eq_some_iff.1 hz).1
  exact ⟨hL, this, by rw [List.getD_eq_getElem?_getD, hz]; rfl⟩
theorem seg_one (r : List Int) (so L : Nat) : ∀ v ∈ seg r so L, v.oneCell' = true := by
  intro v hv
  unfold seg at hv
  obtain ⟨z, _, rfl⟩ := List.mem_map.1 hv
  rfl
theorem seg_add (r : List Int) (so L M : Nat) : seg r so L ++ seg r (so + L) M = seg r so (L + M) := by
  unfold seg
  rw [← List.map_append, ← List.drop_drop, List.take_add]

/-- block q holds the cells 'pre', then zeros: 432 in all -/
def Row (w : World) (q : Nat) (pre : List Value) : Prop := w.heap[q]? = some (.cells (pre ++ List.replicate (432 - pre.length) (Value.int .u8 0)).toArray 35 (0, 0))

theorem splice_row (pre cs : List Value) (h : pre.length + cs.length ≤ 432) :
    splice (pre ++ List.replicate (432 - pre.length) (Value.int .u8 0)) pre.length cs = (pre ++ cs) ++ List.replicate (432 - (pre ++ cs).length) (Value.int .u8 0) := by
  unfold splice
  rw [List.take_left, List.append_assoc]
  congr 2
  rw [List.drop_append, List.drop_eq_nil_of_le (by omega), List.nil_append, List.drop_replicate]
  congr 1
  rw [List.length_append]; omega

/-- the step of a copy into the quote -/
theorem step_row {ops : Array Oper} {o : Oper} {a : Act} {w : World} {K : Act → World → Prop} {Q : Exit → Act → World → Prop} {E : Prop} (hgd : o.guard = none) (d s : Operand)
    (ho : o.op = .call { callee := .builtin .copy, args := #[d, s], argTypes := #[22, 22] })
    (r : List Int) (q off g st so sa L dCap sLen sCap : Nat) (pre : List Value) (hpre : pre.length = off)
    (hd : a.eval d = .slice (some ⟨q, off, none⟩) L dCap) (hs : a.eval s = .slice (some ⟨g, sa, none⟩) sLen sCap) (hsa : sa = st + so) (hsl : L ≤ sLen)
    (hrow : Row w q pre) (hso : so + L ≤ r.length) (hfit : off + L ≤ 432) (hL : 0 < L)
    (w0 : World) (hsrc : ∀ j, j < r.length → w0.cell? ⟨g, st + j, none⟩ = some (.int .u8 (r.getD j 0))) (hgq : g < q) (hb : RowKit.Below q w0 w)
    (h : ∀ w', Row w' q (pre ++ seg r so L) → RowKit.Below q w0 w' → K (a.put o.dst (goInt L)) w') :
    if Region.wanted o (yielded ops a.tmps) = true then Oper.wp Tryf.prog o a w K Q else E := by
  subst hsa
  have hl := seg_len r so L hso
  refine step_copy_splice hgd d s 22 22 ho 5 Tryf.underlying22 (by kernel_rfl) _ _ _ _ _ _ hd hs q off (pre ++ List.replicate (432 - pre.length) (Value.int .u8 0)) 35 hrow (seg r so L) ?_ ?_ ?_ (seg_one r so L) q w0 hb (Nat.le_refl _) ?_
  · rw [hl]; exact (Nat.min_eq_right hsl).symm
  · intro _
    refine ⟨rfl, _, rfl, fun j v hj => ?_⟩
    obtain ⟨h1, h2, rfl⟩ := seg_at r so L j v hj
    have e : (⟨g, st + so, none⟩ : Addr).add j = ⟨g, st + (so + j), none⟩ := by
      unfold Addr.add; split <;> simp_all [Nat.add_assoc]
    rw [e, hb.cell (p := ⟨g, st + (so + j), none⟩) hgq]
    exact hsrc _ h2
  · rw [hl]; simp; omega
  · intro w' h1 h2
    rw [hl]
    refine h w' ?_ h2
    have h1 := h1.out
    rw [← hpre, splice_row pre (seg r so L) (by rw [hl]; omega)] at h1
    exact h1

def zeros : Array Value := (List.replicate 432 (Value.int .u8 0)).toArray
theorem zero_run (w : World) : (zeroValue 35).run Tryf.prog w = .ok (.agg zeros) w := by kernel_rfl

theorem row_new (w : World) : Row (w.alloc (Obj.cells zeros 35)) w.heap.size [] := (MapKept.heap_alloc w _).1

theorem frameOf_ok {bs : List Int} {st sz : Nat} (h : frameOf bs = some (st, sz)) : st + sz + 4 ≤ bs.length ∧ 584 ≤ sz := by
  unfold frameOf at h
  split at h
  · cases h
  split at h
  · cases h
  split at h
  · split at h
    · cases h
    · cases h; omega
  split at h
  · split at h
    · rename_i hb
      split at h
      · cases h
      · simp only [Option.some.injEq, Prod.mk.injEq] at h
        obtain ⟨rfl, rfl⟩ := h
        have : 584 ≤ le32 bs 50 := by
          simp [bodyOk] at hb
          omega
        omega
    · cases h
  · cases h

/-- the report's own bytes -/
theorem frame_src {w : World} {g : Nat} {bs : List Int} (h : Byt w g bs) {st sz : Nat} (hl : st + sz + 4 ≤ bs.length) (r : List Int) (hr : r = (bs.drop st).take sz) :
    r.length = sz ∧ (∀ j, j < r.length → w.cell? ⟨g, st + j, none⟩ = some (.int .u8 (r.getD j 0))) := by
  subst hr
  refine ⟨by simp; omega, fun j hj => ?_⟩
  have hj' : j < sz := by simp at hj; omega
  rw [h.cell (st + j) (by omega)]
  congr 2
  rw [List.getD_eq_getElem?_getD, List.getD_eq_getElem?_getD, List.getElem?_take_of_lt hj', List.getElem?_drop]

/-- what Parse lays out of the report r -/
def pre1 (r : List Int) : List Value := seg r 0 16
def pre2 (r : List Int) : List Value := pre1 r ++ seg r 64 48
def pre3 (r : List Int) : List Value := pre2 r ++ seg r 112 8
def pre4 (r : List Int) : List Value := pre3 r ++ seg r 120 8
def pre5 (r : List Int) : List Value := pre4 r ++ seg r 136 48
def pre6 (r : List Int) : List Value := pre5 r ++ seg r 184 48
def preK (r : List Int) (k : Nat) : List Value := pre6 r ++ seg r 328 (48 * k)
def quoteOf (r : List Int) : List Value := preK r 4 ++ seg r 520 64

theorem pre_len (r : List Int) (h : 584 ≤ r.length) : (pre1 r).length = 16 ∧ (pre2 r).length = 64 ∧ (pre3 r).length = 72 ∧ (pre4 r).length = 80 ∧ (pre5 r).length = 128 ∧ (pre6 r).length = 176 ∧ (∀ k, k ≤ 4 → (preK r k).length = 176 + 48 * k) ∧ (quoteOf r).length = 432 := by
  have a1 := seg_len r 0 16 (by omega)
  have a2 := seg_len r 64 48 (by omega)
  have a3 := seg_len r 112 8 (by omega)
  have a4 := seg_len r 120 8 (by omega)
  have a5 := seg_len r 136 48 (by omega)
  have a6 := seg_len r 184 48 (by omega)
  have a8 := seg_len r 520 64 (by omega)
  have ak : ∀ k, k ≤ 4 → (seg r 328 (48 * k)).length = 48 * k := fun k hk => seg_len r 328 (48 * k) (by omega)
  have a7 := ak 4 (by omega)
  refine ⟨?_, ?_, ?_, ?_, ?_, ?_, fun k hk => ?_, ?_⟩
  · simp only [pre1, a1]
  · simp only [pre2, pre1, List.length_append, a1, a2]
  · simp only [pre3, pre2, pre1, List.length_append, a1, a2, a3]
  · simp only [pre4, pre3, pre2, pre1, List.length_append, a1, a2, a3, a4]
  · simp only [pre5, pre4, pre3, pre2, pre1, List.length_append, a1, a2, a3, a4, a5]
  · simp only [pre6, pre5, pre4, pre3, pre2, pre1, List.length_append, a1, a2, a3, a4, a5, a6]
  · simp only [preK, pre6, pre5, pre4, pre3, pre2, pre1, List.length_append, a1, a2, a3, a4, a5, a6, ak k hk]
  · simp only [quoteOf, preK, pre6, pre5, pre4, pre3, pre2, pre1, List.length_append, a1, a2, a3, a4, a5, a6, a7, a8]

theorem preK_zero (r : List Int) : preK r 0 = pre6 r := by simp [preK, seg]
theorem preK_succ (r : List Int) (k : Nat) : preK r k ++ seg r (328 + 48 * k) 48 = preK r (k + 1) := by
  unfold preK
  rw [List.append_assoc, seg_add]
  congr 2

/-- what Parse hands back where it accepts -/
def ParseOk (w : World) (r : List Int) (e : Ending) (w' : World) : Prop :=
  ∃ q, e = .returned (.tuple #[.pointer (some ⟨q, 0, none⟩), .nilIface]) ∧ Row w' q (quoteOf r) ∧ w.heap.size ≤ q ∧ Below w.heap.size w w'

set_option maxRecDepth 100000 in
set_option maxHeartbeats 4000000 in
theorem parse_ok (F : Interp) (g : Nat) (bs : List Int) (c st sz : Nat) (w : World) (hF : F.answers w.tape) (hb : Byt w g bs) (hn2 : bs.length ≤ 2097152) (hc : bs.length ≤ c) (hfr : frameOf bs = some (st, sz)) (r : List Int) (hre : Hid (r = (bs.drop st).take sz)) :
    Calls Tryf.prog 5 #[.slice (some ⟨g, 0, none⟩) bs.length c] w fun e w' => ParseOk w r e w' := by
  have hn : 54 ≤ bs.length := by
    unfold frameOf at hfr
    by_cases h : bs.length < 54
    · rw [if_pos h] at hfr; cases hfr
    · omega
  have hz := zero_run
  go_enter Tryf.func5, Tryf.ntmps5
  go_wp2_with fail
  refine (split_any F g bs c w hF hb hn hn2 hc).mono ?_
  rintro e w1 hp
  rcases hp with ⟨h, _⟩ | ⟨st', sz', f, h, rfl, hcell, hB1⟩
  · rw [hfr] at h; cases h
  rw [hfr] at h
  cases h
  have hr := frameOf_ok hfr
  obtain ⟨hrl, hrc⟩ := frame_src (hb.later hB1) hr.1 r hre.out
  have hsz : 584 ≤ sz := hr.2
  have hcp : sz < c - st := by omega
  go_wp2
  have hx : w1.heap.size < (w1.alloc (Obj.cells zeros 35)).heap.size := by simp
  have hrow0 : Row (w1.alloc (Obj.cells zeros 35)) w1.heap.size [] := row_new w1
  have hsrc : ∀ j, j < r.length → (w1.alloc (Obj.cells zeros 35)).cell? ⟨g, st + j, none⟩ = some (.int .u8 (r.getD j 0)) := fun j hj => cell_later ((Below.refl _ w1).alloc (Nat.le_refl _) _) (hrc j hj)
  have hgq : g < w1.heap.size := (hb.later hB1).lt
  have hB2 : Below w.heap.size w (w1.alloc (Obj.cells zeros 35)) := hB1.alloc hB1.size _
  have hqw : w.heap.size ≤ w1.heap.size := hB1.size
  clear hrc hcell hb hfr hn hn2 hc hr hF hB1 hz
  have HS : Hid (∀ j, j < r.length → (w1.alloc (Obj.cells zeros 35)).cell? ⟨g, st + j, none⟩ = some (.int .u8 (r.getD j 0))) := hsrc
  clear hsrc
  generalize (w1.alloc (Obj.cells zeros 35)) = W at *
  generalize w1.heap.size = q at *
  generalize c - st = cp at *
  clear hre
  subst hrl
  have PL : Hid (_ ∧ _) := pre_len r hsz
  have jc : (r.length : Int) ≤ (cp : Int) := by omega
  have hb0 : Below q W W := Below.refl _ _
  have j0 : (0 : Int) ≤ (r.length : Int) := by omega
  have k0 : ¬ cp = 0 := by omega
  go_region_law ((refine step_row rfl (.tmp 26) (.tmp 28) rfl r q 0 g st 0 st 16 16 r.length cp [] rfl ?hd ?hs rfl (by omega) (by exact hrow0) (by omega) (by omega) (by omega) W (by exact HS.out) (by exact hgq) (by exact hb0.drew) ?_; (case hd => kernel_rfl); (case hs => kernel_rfl); intro w3 hrow1' hb1))
  have hrow1 : Row w3 q (pre1 r) := hrow1'
  clear hrow1' hrow0 hb0 j0 k0
  have j1 : (64 : Int) ≤ (r.length : Int) := by omega
  have k1 : ¬ cp = 64 := by omega
  go_wp2
  go_region_law ((refine step_row rfl (.tmp 33) (.tmp 35) rfl r q 16 g st 64 (st + 64) 48 48 (r.length - 64) (cp - 64) (pre1 r) (PL.out.1) ?hd ?hs rfl (by omega) (by exact hrow1) (by omega) (by omega) (by omega) W (by exact HS.out) (by exact hgq) (by exact hb1.drew) ?_; (case hd => kernel_rfl); (case hs => kernel_rfl); intro w4 hrow2' hb2))
  have hrow2 : Row w4 q (pre2 r) := hrow2'
  clear hrow2' hrow1 hb1 j1 k1
  have j2 : (112 : Int) ≤ (r.length : Int) := by omega
  have k2 : ¬ cp = 112 := by omega
  go_wp2
  go_region_law ((refine step_row rfl (.tmp 40) (.tmp 42) rfl r q 64 g st 112 (st + 112) 8 8 (r.length - 112) (cp - 112) (pre2 r) (PL.out.2.1) ?hd ?hs rfl (by omega) (by exact hrow2) (by omega) (by omega) (by omega) W (by exact HS.out) (by exact hgq) (by exact hb2.drew) ?_; (case hd => kernel_rfl); (case hs => kernel_rfl); intro w5 hrow3' hb3))
  have hrow3 : Row w5 q (pre3 r) := hrow3'
  clear hrow3' hrow2 hb2 j2 k2
  have j3 : (120 : Int) ≤ (r.length : Int) := by omega
  have k3 : ¬ cp = 120 := by omega
  go_wp2
  go_region_law ((refine step_row rfl (.tmp 47) (.tmp 49) rfl r q 72 g st 120 (st + 120) 8 8 (r.length - 120) (cp - 120) (pre3 r) (PL.out.2.2.1) ?hd ?hs rfl (by omega) (by exact hrow3) (by omega) (by omega) (by omega) W (by exact HS.out) (by exact hgq) (by exact hb3.drew) ?_; (case hd => kernel_rfl); (case hs => kernel_rfl); intro w6 hrow4' hb4))
  have hrow4 : Row w6 q (pre4 r) := hrow4'
  clear hrow4' hrow3 hb3 j3 k3
  have j4 : (136 : Int) ≤ (r.length : Int) := by omega
  have k4 : ¬ cp = 136 := by omega
  go_wp2
  go_region_law ((refine step_row rfl (.tmp 54) (.tmp 56) rfl r q 80 g st 136 (st + 136) 48 48 (r.length - 136) (cp - 136) (pre4 r) (PL.out.2.2.2.1) ?hd ?hs rfl (by omega) (by exact hrow4) (by omega) (by omega) (by omega) W (by exact HS.out) (by exact hgq) (by exact hb4.drew) ?_; (case hd => kernel_rfl); (case hs => kernel_rfl); intro w7 hrow5' hb5))
  have hrow5 : Row w7 q (pre5 r) := hrow5'
  clear hrow5' hrow4 hb4 j4 k4
  have j5 : (184 : Int) ≤ (r.length : Int) := by omega
  have k5 : ¬ cp = 184 := by omega
  go_wp2
  go_region_law ((refine step_row rfl (.tmp 61) (.tmp 63) rfl r q 128 g st 184 (st + 184) 48 48 (r.length - 184) (cp - 184) (pre5 r) (PL.out.2.2.2.2.1) ?hd ?hs rfl (by omega) (by exact hrow5) (by omega) (by omega) (by omega) W (by exact HS.out) (by exact hgq) (by exact hb5.drew) ?_; (case hd => kernel_rfl); (case hs => kernel_rfl); intro w8 hrow6' hb6))
  have hrow6 : Row w8 q (pre6 r) := hrow6'
  clear hrow6' hrow5 hb5 j5 k5
  go_wp2
  go_loopw [65] (fun i wr => ∃ k : Nat, k ≤ 4 ∧ i = .int .i64 k ∧ Row wr q (preK r k) ∧ Below q W wr) (fun i _ => 4 - (intOf i).toNat)
  case atStart => exact ⟨0, by omega, rfl, by rw [preK_zero]; exact hrow6, hb6⟩
  case round =>
    obtain ⟨k, hk, rfl, hrowk, hbk⟩ := hrel
    by_cases hlt : k < 4
    · have h4 : k = 0 ∨ k = 1 ∨ k = 2 ∨ k = 3 := by omega
      rcases h4 with rfl | rfl | rfl | rfl
      · have j7 : (328 : Int) ≤ (r.length : Int) := by omega
        have k7 : ¬ cp = 328 := by omega
        have w7 : IntKind.i64.wrap 0 = 0 := by decide
        have x7 : IntKind.i64.wrap 328 = 328 := by decide
        go_wp2
        go_region_law ((refine step_row rfl (.tmp 73) (.tmp 78) rfl r q 176 g st 328 (st + 328) 48 48 (r.length - 328) (cp - 328) (preK r 0) (PL.out.2.2.2.2.2.2.1 0 (by omega)) ?hd ?hs rfl (by omega) (by exact hrowk) (by omega) (by omega) (by omega) W (by exact HS.out) (by exact hgq) (by exact hbk.drew) ?_; (case hd => kernel_rfl); (case hs => kernel_rfl); intro wn hrown hbn))
        go_wp2
        go_roundw
        case rel => exact ⟨1, by omega, by go_num, by rw [← preK_succ r 0]; exact hrown, hbn⟩
        case measure => simp [intOf]
      · have j7 : (376 : Int) ≤ (r.length : Int) := by omega
        have k7 : ¬ cp = 376 := by omega
        have w7 : IntKind.i64.wrap 48 = 48 := by decide
        have x7 : IntKind.i64.wrap 376 = 376 := by decide
        go_wp2
        go_region_law ((refine step_row rfl (.tmp 73) (.tmp 78) rfl r q 224 g st 376 (st + 376) 48 48 (r.length - 376) (cp - 376) (preK r 1) (PL.out.2.2.2.2.2.2.1 1 (by omega)) ?hd ?hs rfl (by omega) (by exact hrowk) (by omega) (by omega) (by omega) W (by exact HS.out) (by exact hgq) (by exact hbk.drew) ?_; (case hd => kernel_rfl); (case hs => kernel_rfl); intro wn hrown hbn))
        go_wp2
        go_roundw
        case rel => exact ⟨2, by omega, by go_num, by rw [← preK_succ r 1]; exact hrown, hbn⟩
        case measure => simp [intOf]
      · have j7 : (424 : Int) ≤ (r.length : Int) := by omega
        have k7 : ¬ cp = 424 := by omega
        have w7 : IntKind.i64.wrap 96 = 96 := by decide
        have x7 : IntKind.i64.wrap 424 = 424 := by decide
        go_wp2
        go_region_law ((refine step_row rfl (.tmp 73) (.tmp 78) rfl r q 272 g st 424 (st + 424) 48 48 (r.length - 424) (cp - 424) (preK r 2) (PL.out.2.2.2.2.2.2.1 2 (by omega)) ?hd ?hs rfl (by omega) (by exact hrowk) (by omega) (by omega) (by omega) W (by exact HS.out) (by exact hgq) (by exact hbk.drew) ?_; (case hd => kernel_rfl); (case hs => kernel_rfl); intro wn hrown hbn))
        go_wp2
        go_roundw
        case rel => exact ⟨3, by omega, by go_num, by rw [← preK_succ r 2]; exact hrown, hbn⟩
        case measure => simp [intOf]
      · have j7 : (472 : Int) ≤ (r.length : Int) := by omega
        have k7 : ¬ cp = 472 := by omega
        have w7 : IntKind.i64.wrap 144 = 144 := by decide
        have x7 : IntKind.i64.wrap 472 = 472 := by decide
        go_wp2
        go_region_law ((refine step_row rfl (.tmp 73) (.tmp 78) rfl r q 320 g st 472 (st + 472) 48 48 (r.length - 472) (cp - 472) (preK r 3) (PL.out.2.2.2.2.2.2.1 3 (by omega)) ?hd ?hs rfl (by omega) (by exact hrowk) (by omega) (by omega) (by omega) W (by exact HS.out) (by exact hgq) (by exact hbk.drew) ?_; (case hd => kernel_rfl); (case hs => kernel_rfl); intro wn hrown hbn))
        go_wp2
        go_roundw
        case rel => exact ⟨4, by omega, by go_num, by rw [← preK_succ r 3]; exact hrown, hbn⟩
        case measure => simp [intOf]
    · obtain rfl : k = 4 := by omega
      have j8 : (520 : Int) ≤ (r.length : Int) := by omega
      have k8 : ¬ cp = 520 := by omega
      go_wp2
      go_region_law ((refine step_row rfl (.tmp 84) (.tmp 86) rfl r q 368 g st 520 (st + 520) 64 64 (r.length - 520) (cp - 520) (preK r 4) (PL.out.2.2.2.2.2.2.1 4 (by omega)) ?hd ?hs rfl (by omega) (by exact hrowk) (by omega) (by omega) (by omega) W (by exact HS.out) (by exact hgq) (by exact hbk.drew) ?_; (case hd => kernel_rfl); (case hs => kernel_rfl); intro wn hrown hbn))
      go_wp2
      go_ret2
      exact ⟨q, rfl, hrown, hqw, hB2.trans (hbn.mono hqw)⟩

end Go.Proofs.Qxb6627577aFmt
