import Derived.Test.Qxb6627672aRows
import Derived.WalkKit
import Derived.WalkSpells
import Derived.WalkLawsBesides
import Derived.Carry
import Derived.LaidEqlPtr
namespace Go.Proofs.Qxb6627672a
open Go.RowKit

/-- two blocks of cells under two numbers: their addresses differ -/
theorem ptr_other (W : World) (a b : Nat) {ca cb : Array Value} {ta tb : TypeId} (hne : a ≠ b)
    (ha : W.heap[a]? = some (.cells ca ta (0, 0))) (hb : W.heap[b]? = some (.cells cb tb (0, 0))) :
    (binOp .eql 22 (.pointer (some ⟨a, 0, none⟩)) (.pointer (some ⟨b, 0, none⟩))).run Try.prog W = .ok (.bool false) W :=
  run_eql_ptr_other W Try.underlying22 (j := Try.prog.types[30]!) (by kernel_rfl) (by decide +kernel) (fun h => hne (congrArg Addr.block h)) ha hb

abbrev mapB : Obj := .map #[] 0
abbrev openB (m : Nat) (s : Value) : Obj := .cells #[.map (some m), s] 30
abbrev slB : Obj := .cells #[] 49
abbrev noSl : Value := .slice none 0 0
abbrev oneSl (b : Nat) : Value := .slice (some ⟨b, 0, none⟩) 0 0

set_option maxHeartbeats 1000000 in
theorem new_true (w : World) :
    Calls Try.prog 5 #[.bool true] w fun e w' => e = .returned (.pointer (some ⟨w.heap.size + 1, 0, none⟩)) ∧ w' = ((w.alloc mapB).alloc (openB w.heap.size (oneSl (w.heap.size + 1 + 1)))).alloc slB := by
  have hmm := @run_makeMap Try.prog
  go_enter Try.func5, Try.ntmps5
  go_wp2
  go_ret
  exact ⟨rfl, rfl⟩

set_option maxHeartbeats 1000000 in
theorem new_false (w : World) :
    Calls Try.prog 5 #[.bool false] w fun e w' => e = .returned (.pointer (some ⟨w.heap.size + 1, 0, none⟩)) ∧ w' = (w.alloc mapB).alloc (openB w.heap.size noSl) := by
  have hmm := @run_makeMap Try.prog
  go_enter Try.func5, Try.ntmps5
  go_wp2
  go_ret
  exact ⟨rfl, rfl⟩

/-- what freshEmpty asks of the memory -/
theorem fresh_any (w : World) (b m : Nat) (s : Option Addr) (c : Nat) (hb0 : w.cell? ⟨b, 0, none⟩ = some (.map (some m))) (hb1 : w.cell? ⟨b, 1, none⟩ = some (.slice s 0 c)) (hm : w.heap[m]? = some (.map #[] 0)) :
    Calls Try.prog 6 #[.pointer (some ⟨b, 0, none⟩)] w fun e w' => e = .returned (.bool true) ∧ w' = w := by
  have q28 : ∀ (w : World) (r : Option Nat), (binOp .eql 28 (.map r) (.map none)).run Try.prog w = .ok (.bool r.isNone) w := fun w r => run_eql_map_nil w _ _ _ r Try.underlying28
  have hln : ∀ ty, (Builtin.len_ #[28] ty #[.map (some m)]).run Try.prog w = .ok (goInt (0 : Nat)) w := fun ty => run_len_map w 28 ty m #[] 0 Try.underlying28 hm
  go_enter Try.func6, Try.ntmps6
  go_wp2
  go_ret
  exact ⟨rfl, rfl⟩

theorem all_any (w : World) (b : Nat) (v : Value) (hb1 : w.cell? ⟨b, 1, none⟩ = some v) :
    Calls Try.prog 7 #[.pointer (some ⟨b, 0, none⟩)] w fun e w' => e = .returned v ∧ w' = w := by
  go_enter Try.func7, Try.ntmps7
  go_wp2
  go_ret
  exact ⟨rfl, rfl⟩


theorem heap_new (w : World) (o : Obj) : (w.alloc o).heap[w.heap.size]? = some o := (MapKept.heap_alloc w o).1
theorem heap_old (w : World) (o : Obj) (i : Nat) (h : i < w.heap.size) : (w.alloc o).heap[i]? = w.heap[i]? := by
  show (w.heap.push o)[i]? = _
  rw [Array.getElem?_push, if_neg (by omega)]
theorem size_new (w : World) (o : Obj) : (w.alloc o).heap.size = w.heap.size + 1 := World.size_alloc w o
theorem cell_of (w : World) (b i : Nat) (cs : Array Value) (t : TypeId) (v : Value) (h : w.heap[b]? = some (.cells cs t (0, 0))) (hv : cs[i]? = some v) : w.cell? ⟨b, i, none⟩ = some v := by
  simp [World.cell?, h, hv]

/-- a tracker: its block b holds an empty map at m and a slice without elements, nil or not -/
structure Trk (W : World) (b m : Nat) (s : Option Addr) : Prop where
  map : W.heap[m]? = some mapB
  blk : W.heap[b]? = some (.cells #[.map (some m), .slice s 0 0] 30 (0, 0))

structure Kep (W W' : World) : Prop where
  grown : Grown W W'
  old : ∀ i, i < W.heap.size → W'.heap[i]? = W.heap[i]?

theorem Trk.kep {W W' : World} {b m : Nat} {s : Option Addr} (h : Trk W b m s) (hk : Kep W W') : Trk W' b m s := by
  have h1 : m < W.heap.size := by
    rcases Nat.lt_or_ge m W.heap.size with g | g
    · exact g
    · have := h.map; rw [Array.getElem?_eq_none g] at this; cases this
  have h2 : b < W.heap.size := by
    rcases Nat.lt_or_ge b W.heap.size with g | g
    · exact g
    · have := h.blk; rw [Array.getElem?_eq_none g] at this; cases this
  exact ⟨by rw [hk.old m h1]; exact h.map, by rw [hk.old b h2]; exact h.blk⟩

theorem new_any (k : Bool) (w : World) :
    Calls Try.prog 5 #[.bool k] w fun e w' => ∃ s : Option Addr, e = .returned (.pointer (some ⟨w.heap.size + 1, 0, none⟩)) ∧ s.isSome = k ∧ Trk w' (w.heap.size + 1) w.heap.size s ∧ Kep w w' ∧ w.heap.size + 1 < w'.heap.size := by
  cases k
  · refine (new_false w).mono ?_
    rintro e w' ⟨he, hw⟩
    subst hw
    refine ⟨none, he, rfl, ⟨?_, ?_⟩, ⟨(Grown.allocMap (Grown.refl w) #[] 0).alloc _ _, ?_⟩, ?_⟩
    · rw [heap_old _ _ _ (by simp)]; exact heap_new _ _
    · have := heap_new (w.alloc mapB) (openB w.heap.size noSl)
      rw [size_new] at this; exact this
    · intro i hi
      rw [heap_old _ _ _ (by simp; omega), heap_old _ _ _ hi]
    · simp
  · refine (new_true w).mono ?_
    rintro e w' ⟨he, hw⟩
    subst hw
    refine ⟨some ⟨w.heap.size + 1 + 1, 0, none⟩, he, rfl, ⟨?_, ?_⟩, ⟨((Grown.allocMap (Grown.refl w) #[] 0).alloc _ _).alloc _ _, ?_⟩, ?_⟩
    · rw [heap_old _ _ _ (by simp; omega), heap_old _ _ _ (by simp)]; exact heap_new _ _
    · have := heap_new (w.alloc mapB) (openB w.heap.size (oneSl (w.heap.size + 1 + 1)))
      rw [size_new] at this
      rw [heap_old _ _ _ (by simp)]; exact this
    · intro i hi
      rw [heap_old _ _ _ (by simp; omega), heap_old _ _ _ (by simp; omega), heap_old _ _ _ hi]
    · simp

theorem Trk.fresh {w : World} {b m : Nat} {s : Option Addr} (h : Trk w b m s) :
    Calls Try.prog 6 #[.pointer (some ⟨b, 0, none⟩)] w fun e w' => e = .returned (.bool true) ∧ w' = w :=
  fresh_any w b m s 0 (cell_of w b 0 _ _ _ h.blk rfl) (cell_of w b 1 _ _ _ h.blk rfl) h.map

theorem Trk.all {w : World} {b m : Nat} {s : Option Addr} (h : Trk w b m s) :
    Calls Try.prog 7 #[.pointer (some ⟨b, 0, none⟩)] w fun e w' => e = .returned (.slice s 0 0) ∧ w' = w :=
  all_any w b _ (cell_of w b 1 _ _ _ h.blk rfl)

theorem grown_trans {a b c : World} (h1 : Grown a b) (h2 : Grown b c) : Grown a c :=
  ⟨World.keptBut_trans h1.1 h2.1, fun x => (h2.2.1 x).trans (h1.2.1 x), Nat.le_trans h1.2.2 h2.2.2⟩

set_option maxHeartbeats 1000000 in
theorem flag_walk (k : Bool) (w : World) :
    Calls Try.prog 3 #[.bool k] w fun e w' => e = .returned (.bool true) ∧ Grown w w' := by
  go_enter Try.func3, Try.ntmps3
  go_wp2_with fail
  refine (new_any k w).mono ?_
  rintro e w1 ⟨s1, rfl, hs1, t1, k1, z1⟩
  go_wp2_with fail
  refine (new_any (!k) w1).mono ?_
  rintro e w2 ⟨s2, rfl, hs2, t2, k2, z2⟩
  have t1' := t1.kep k2
  have hpo := ptr_other w2 (w.heap.size + 1) (w1.heap.size + 1) (by omega) t1'.blk t2.blk
  have hg : Grown w w2 := grown_trans k1.grown k2.grown
  go_wp2_with fail
  refine (t1'.fresh).mono ?_
  rintro e w3 ⟨rfl, rfl⟩
  go_wp2_with fail
  refine (t2.fresh).mono ?_
  rintro e w3 ⟨rfl, rfl⟩
  go_wp2_with fail
  refine (t1'.all).mono ?_
  rintro e w3 ⟨rfl, rfl⟩
  go_wp2_with fail
  refine (t2.all).mono ?_
  rintro e w3 ⟨rfl, rfl⟩
  go_wp2
  go_ret
  exact ⟨rfl, hg⟩

set_option maxHeartbeats 1000000 in
theorem inst_walk (k : Bool) (w : World) :
    Calls Try.prog 4 #[.bool k] w fun e w' => e = .returned (.bool true) ∧ Grown w w' := by
  go_enter Try.func4, Try.ntmps4
  go_wp2_with fail
  refine (new_any k w).mono ?_
  rintro e w1 ⟨s1, rfl, hs1, t1, k1, z1⟩
  go_wp2_with fail
  refine (new_any k w1).mono ?_
  rintro e w2 ⟨s2, rfl, hs2, t2, k2, z2⟩
  have t1' := t1.kep k2
  have hpo := ptr_other w2 (w.heap.size + 1) (w1.heap.size + 1) (by omega) t1'.blk t2.blk
  have hg : Grown w w2 := grown_trans k1.grown k2.grown
  go_wp2_with fail
  refine (t1'.fresh).mono ?_
  rintro e w3 ⟨rfl, rfl⟩
  go_wp2_with fail
  refine (t2.fresh).mono ?_
  rintro e w3 ⟨rfl, rfl⟩
  go_wp2_with fail
  refine (t1'.all).mono ?_
  rintro e w3 ⟨rfl, rfl⟩
  go_wp2_with fail
  refine (t2.all).mono ?_
  rintro e w3 ⟨rfl, rfl⟩
  go_wp2
  go_ret
  exact ⟨rfl, hg⟩

end Go.Proofs.Qxb6627672a
