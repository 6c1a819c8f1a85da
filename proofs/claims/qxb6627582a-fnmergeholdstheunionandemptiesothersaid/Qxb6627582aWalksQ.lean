import Derived.Test.Qxb6627582aWalksH
import Derived.Test.Qxb6627582aWalksL
import Derived.Lib.SliceRun
namespace Go.Proofs.Qxb6627582a
open Go.RowKit Go.Sort

/-- an empty set -/
def emptySC (a b : Int) : SC := ⟨.slice none 0 0, .map none, [0, 0, 0, 0, 0, 0, 0, 0], 0, .slice none 0 0, 0, .slice none 0 0, 0, false, 0, a, b, [], [], []⟩

abbrev emptyB (a b : Int) : Obj := .cells #[.slice none 0 0, .map none, .int .i32 0, .int .i32 0, .int .i32 0, .int .i32 0, .int .i32 0, .int .i32 0, .int .i32 0, .int .i32 0, .int .i64 0, .slice none 0 0, .int .i32 0, .slice none 0 0, .int .i64 0, .bool false, .int .i64 0, .int .i64 a, .int .i64 b] 47

theorem emptyInv (a b : Int) (K : Nat) : Inv (emptySC a b) K :=
  ⟨fun r hr => by simp [emptySC] at hr; omega, rfl, fun f hf => by simp [emptySC] at hf, Nat.le_refl _, fun e he => by simp [emptySC] at he, Nat.zero_le _, Nat.zero_le _, Nat.zero_le _⟩

theorem emptyMem {w : World} {sb : Nat} {a b : Int} (h : w.heap[sb]? = some (emptyB a b)) : Mem w sb (emptySC a b) [] :=
  ⟨h, World.ownsRow_nil _ _ _ _, World.ownsRow_nil _ _ _ _, World.ownsRow_nil _ _ _ _, .inl ⟨rfl, rfl⟩, rfl⟩

theorem emptySet {w : World} {sb : Nat} {a b : Int} (h : w.heap[sb]? = some (emptyB a b)) (K : Nat) : SetAt w sb (emptySC a b) K := ⟨emptyMem h, emptyInv a b K⟩

theorem empty_mem (a b : Int) (x : Dg) : ¬ (emptySC a b).mem x := by
  rintro ⟨e, h, _⟩
  simp [emptySC] at h

theorem empty_fp (a b : Int) (sb x : Nat) (h : (emptySC a b).fp sb x) : x = sb := by
  rcases h with h | h | h | h | h
  · exact h
  all_goals (simp [emptySC, Value.ownBlock] at h)

set_option maxHeartbeats 1000000 in
theorem f9 (a b : Int) (w : World) : Calls Try.prog 9 #[.int .i64 a, .int .i64 b] w fun e w' => e = .returned (.pointer (some ⟨w.heap.size, 0, none⟩)) ∧ w' = w.alloc (emptyB a b) := by
  go_enter Try.func9, Try.ntmps9
  go_wp2
  go_ret
  exact ⟨rfl, rfl⟩

set_option maxHeartbeats 1000000 in
theorem f15 (sb K : Nat) (c : SC) (w : World) (h : SetAt w sb c K) : Calls Try.prog 15 #[.pointer (some ⟨sb, 0, none⟩)] w fun e w' => e = .returned (.tuple #[.int .i64 c.de, .int .i64 c.dw]) ∧ ∃ q, w' = w.drewN q := by
  have s17 := h.m.c17
  have s18 := h.m.c18
  clear h
  go_enter Try.func15, Try.ntmps15
  go_wp2
  go_quiet (fail)
  go_wp2
  go_ret2
  exact ⟨rfl, _, rfl⟩

set_option maxHeartbeats 1000000 in
theorem f16 (sb K : Nat) (c : SC) (w : World) (h : SetAt w sb c K) : Calls Try.prog 16 #[.pointer (some ⟨sb, 0, none⟩)] w fun e w' => e = .returned (.int .i64 c.es.length) ∧ w' = w := by
  obtain ⟨ao, ce, hev⟩ := own_slice h.m.ent
  have s13 : w.cell? ⟨sb, 13, none⟩ = some (.slice ao c.es.length ce) := by rw [h.m.c13, hev]
  clear h hev
  go_enter Try.func16, Try.ntmps16
  go_wp2
  go_ret
  exact ⟨rfl, rfl⟩

set_option maxHeartbeats 1000000 in
theorem f17 (sb K : Nat) (c : SC) (w : World) (h : SetAt w sb c K) : Calls Try.prog 17 #[.pointer (some ⟨sb, 0, none⟩)] w fun e w' => e = .returned (.int .i64 c.ns.length) ∧ w' = w := by
  obtain ⟨ao, ce, hev⟩ := own_slice h.m.nts
  have s0 : w.cell? ⟨sb, 0, none⟩ = some (.slice ao c.ns.length ce) := by rw [h.m.c0, hev]
  clear h hev
  go_enter Try.func17, Try.ntmps17
  go_wp2
  go_ret
  exact ⟨rfl, rfl⟩

theorem results_tmp6 {fn : Func} {t0 t1 t2 t3 t4 t5 : Tmp} (h : fn.results = #[.tmp t0, .tmp t1, .tmp t2, .tmp t3, .tmp t4, .tmp t5]) (tmps : Array Value) (P : Program) (w : World) :
    (results fn tmps).run P w = .ok (.tuple #[tmps.getD t0 undef, tmps.getD t1 undef, tmps.getD t2 undef, tmps.getD t3 undef, tmps.getD t4 undef, tmps.getD t5 undef]) w := by
  simp [results, h]

set_option maxRecDepth 100000 in
set_option maxHeartbeats 1000000 in
theorem f24 (sb K : Nat) (c : SC) (i : Nat) (e : En) (n : Nt) (w : World) (h : SetAt w sb c K) (hi : c.es[i]? = some e) (hn : c.ns[e.n]? = some n) :
    Calls Try.prog 24 #[.pointer (some ⟨sb, 0, none⟩), .int .i64 i] w fun x w' => x = .returned (.tuple #[.int .i32 e.l, .int .i32 e.c, .string n.p, .int .i64 n.s, .string n.r, .string n.m]) ∧ Below w.heap.size w w' := by
  have hil : i < c.es.length := by
    rcases Nat.lt_or_ge i c.es.length with h1 | h1
    · exact h1
    · rw [List.getElem?_eq_none h1] at hi; cases hi
  have hnl : e.n < c.ns.length := by
    rcases Nat.lt_or_ge e.n c.ns.length with h1 | h1
    · exact h1
    · rw [List.getElem?_eq_none h1] at hn; cases hn
  have hei : c.es[i] = e := by rw [List.getElem?_eq_getElem hil] at hi; exact Option.some.inj hi
  have hni : c.ns[e.n] = n := by rw [List.getElem?_eq_getElem hnl] at hn; exact Option.some.inj hn
  obtain ⟨ge, ce, hev, _, _⟩ := h.m.ent.form (by omega)
  obtain ⟨gn, cn, hnv, _, _⟩ := h.m.nts.form (by omega)
  have s13 : w.cell? ⟨sb, 13, none⟩ = some (.slice (some ⟨ge, 0, none⟩) c.es.length ce) := by rw [h.m.c13, hev]
  have oe : OwnE w ge c.es.length ce c.es := by have := h.m.ent; rw [hev] at this; exact this
  obtain ⟨a0, a1, a2⟩ := own_at3 oe i (i * 3) hil rfl
  rw [hei] at a0 a1 a2
  have i1 : (i : Int) < (c.es.length : Int) := by omega
  have i2 : (e.n : Int) < (c.ns.length : Int) := by omega
  have HS : Hid (SetAt w sb c K) := h
  have HNV : Hid (c.nv = .slice (some ⟨gn, 0, none⟩) c.ns.length cn) := hnv
  have HNI : Hid (c.ns[e.n] = n) := hni
  clear h hev oe hei hni hi hn hnv
  go_enter Try.func24, Try.ntmps24
  go_upto_region 2 with fail
  have B0 : Hid (Below w.heap.size w (w.alloc (.cells #[.int .i32 e.l, .int .i32 e.c, .int .i32 (e.n : Nat)] 55))) := (Below.refl _ _).alloc (Nat.le_refl _) _
  have M1 : Hid (Mem (w.alloc (.cells #[.int .i32 e.l, .int .i32 e.c, .int .i32 (e.n : Nat)] 55)) sb c c.ns) := HS.out.m.frm (Frm.alloc (fun _ => False) w _) (fun _ _ => id)
  have b0 : (w.alloc (.cells #[.int .i32 e.l, .int .i32 e.c, .int .i32 (e.n : Nat)] 55)).cell? ⟨w.heap.size, 0, none⟩ = some (.int .i32 e.l) := by go_simp
  have b1 : (w.alloc (.cells #[.int .i32 e.l, .int .i32 e.c, .int .i32 (e.n : Nat)] 55)).cell? ⟨w.heap.size, 1, none⟩ = some (.int .i32 e.c) := by go_simp
  have b2 : (w.alloc (.cells #[.int .i32 e.l, .int .i32 e.c, .int .i32 (e.n : Nat)] 55)).cell? ⟨w.heap.size, 2, none⟩ = some (.int .i32 (e.n : Nat)) := by go_simp
  clear a0 a1 a2 s13 HS
  generalize (w.alloc (.cells #[.int .i32 e.l, .int .i32 e.c, .int .i32 (e.n : Nat)] 55)) = W1 at *
  obtain ⟨B, hB⟩ : ∃ B, B = w.heap.size := ⟨_, rfl⟩
  rw [← hB] at b0 b1 b2 ⊢
  have HBB : Hid (B = w.heap.size) := hB
  clear hB
  have s0 : W1.cell? ⟨sb, 0, none⟩ = some (.slice (some ⟨gn, 0, none⟩) c.ns.length cn) := by rw [M1.out.c0, HNV.out]
  have NT := M1.out.nts
  rw [HNV.out] at NT
  obtain ⟨n0, n1, n2, n3⟩ := own_at4 NT rfl e.n hnl
  rw [HNI.out] at n0 n1 n2 n3
  clear NT
  have B1 : Hid (∀ o, Below B w (W1.alloc o).drew) := fun o => by
    rw [HBB.out]
    exact (B0.out.alloc B0.out.size o).drew
  go_region_held3 (fun w' => w'.cell? ⟨sb, 0, none⟩ = some (.slice (some ⟨gn, 0, none⟩) c.ns.length cn) ∧ w'.cell? ⟨B, 0, none⟩ = some (.int .i32 e.l) ∧ w'.cell? ⟨B, 1, none⟩ = some (.int .i32 e.c) ∧ w'.cell? ⟨B, 2, none⟩ = some (.int .i32 (e.n : Nat)) ∧ w'.cell? ⟨gn, e.n * 4, none⟩ = some (.string n.p) ∧ w'.cell? ⟨gn, e.n * 4 + 1, none⟩ = some (.int .i64 n.s) ∧ w'.cell? ⟨gn, e.n * 4 + 2, none⟩ = some (.string n.r) ∧ w'.cell? ⟨gn, e.n * 4 + 3, none⟩ = some (.string n.m))
    (first | exact ⟨s0, b0, b1, b2, n0, n1, n2, n3⟩ | exact ⟨Lib.cell?_alloc_some _ s0, Lib.cell?_alloc_some _ b0, Lib.cell?_alloc_some _ b1, Lib.cell?_alloc_some _ b2, Lib.cell?_alloc_some _ n0, Lib.cell?_alloc_some _ n1, Lib.cell?_alloc_some _ n2, Lib.cell?_alloc_some _ n3⟩ | go_keep) (fail)
  have B2 : Hid (Below B w (W1.alloc (boxN n)).drew) := B1.out _
  have x0 : (W1.alloc (boxN n)).drew.cell? ⟨B, 0, none⟩ = some (.int .i32 e.l) := Lib.cell?_alloc_some _ b0
  have x1 : (W1.alloc (boxN n)).drew.cell? ⟨B, 1, none⟩ = some (.int .i32 e.c) := Lib.cell?_alloc_some _ b1
  have y0 : (W1.alloc (boxN n)).drew.cell? ⟨W1.heap.size, 0, none⟩ = some (.string n.p) := by go_simp
  have y1 : (W1.alloc (boxN n)).drew.cell? ⟨W1.heap.size, 1, none⟩ = some (.int .i64 n.s) := by go_simp
  have y2 : (W1.alloc (boxN n)).drew.cell? ⟨W1.heap.size, 2, none⟩ = some (.string n.r) := by go_simp
  have y3 : (W1.alloc (boxN n)).drew.cell? ⟨W1.heap.size, 3, none⟩ = some (.string n.m) := by go_simp
  clear s0 b0 b1 b2 n0 n1 n2 n3 B1 M1 B0
  generalize (W1.alloc (boxN n)).drew = W2 at B2 x0 x1 y0 y1 y2 y3 ⊢
  generalize W1.heap.size = C at y0 y1 y2 y3 ⊢
  go_wp2
  go_quiet (fail)
  go_wp2
  (try simp only [Exit.inBlock, Exit.then])
  refine bodyPost_ret (results_tmp6 rfl _ _ _) rfl ?_
  exact ⟨rfl, by rw [← HBB.out]; exact below_drewN B2.out _⟩

end Go.Proofs.Qxb6627582a
