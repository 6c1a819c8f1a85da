import Derived.Test.Qxb6627582aRowsK
import Derived.Deep.RegionWith
namespace Go.Proofs.Qxb6627582a
open Go.RowKit Go.Sort

theorem make06 (n m : Nat) (hn : n + m ≤ 2097152) (w : World) : (Instr.makeSlice 22 (.int .i64 0) (.int .i64 ((n : Int) + (m : Int)))).run Try.prog w = .ok (.slice (some ⟨w.heap.size, 0, none⟩) 0 (n + m)) (w.alloc (.cells (madeCells #[.int .i32 0, .int .i32 0, .string ByteArray.empty, .int .i64 0, .string ByteArray.empty, .string ByteArray.empty] ((n + m) * 6)) 38)) := by
  obtain ⟨i, hi, hz0, hz1, hz2⟩ := info_parts Try.info38
  have h := run_make (P := Try.prog) w 22 38 i _ Try.underlying22 hi hz0 .i64 .i64 0 ((n : Int) + (m : Int)) (by omega) (by omega) (by rw [hz2]; omega) (by omega)
  rw [hz1] at h
  rw [h]
  rw [show ((n : Int) + (m : Int)).toNat = n + m by omega]
  rfl

theorem append6 {ops : Array Oper} {rest : List Oper} {o : Oper} {a : Act} {Q : Exit → Act → World → Prop} (w : World) (hgd : o.guard = none) (s x : Operand)
    (ho : o.op = .call { callee := .builtin .append, args := #[s, x], argTypes := #[22, 22] }) (base g cap B n : Nat) (xs : List Dg) (hn : xs.length = n) (d : Dg)
    (hs : a.eval s = .slice (some ⟨g, 0, none⟩) n cap) (hown : OwnD base w g cap xs) (hx : a.eval x = .slice (some ⟨B, 0, none⟩) 1 1)
    (hB : w.heap[B]? = some (boxD d)) (hroom : n < cap)
    (h : ∀ w', OwnD base w' g cap (xs ++ [d]) → w.grownBy w' (some g) → wpList Try.prog ops Q rest (a.put o.dst (.slice (some ⟨g, 0, none⟩) (n + 1) cap)) w') : wpList Try.prog ops Q (o :: rest) a w := by
  subst hn
  obtain ⟨i, hi, hz0, hz1, hz2⟩ := info_parts Try.info38
  refine wpList_append_own_spare w hgd s x 22 ho base 38 i 6 Try.underlying22 hi hz1 g xs.length cap _ hs hown ⟨B, 0, none⟩ 1 1 (encD d) hx rfl (World.news_of_block hB) ?_ (by omega) ?_
  · intro u hu
    simp [encD] at hu
    rcases hu with rfl | rfl | rfl | rfl | rfl | rfl <;> rfl
  · intro w' h1 h2
    refine h w' ?_ h2
    unfold OwnD
    rw [List.length_append, List.flatMap_append]
    simpa using h1

theorem OwnD.alloc {base : Nat} {w : World} {g cap : Nat} {xs : List Dg} (h : OwnD base w g cap xs) (o : Obj) : OwnD base (w.alloc o) g cap xs := World.ownsRow.alloc h o

set_option maxHeartbeats 1000000 in
theorem f8 (ao bo : Option Addr) (ac bc : Nat) (xa xb : List Dg) (w : World) (ha : DRow w ao xa) (hb : DRow w bo xb) (hl : xa.length ≤ 16384) (hl' : xb.length ≤ 16384) :
    Calls Try.prog 8 #[.slice ao xa.length ac, .slice bo xb.length bc] w fun e w' => ∃ g cap, e = .returned (.slice (some ⟨g, 0, none⟩) (xa ++ xb).length cap) ∧ OwnD w.heap.size w' g cap (xa ++ xb) ∧ Below w.heap.size w w' := by
  have hm := make06 xa.length xb.length (by omega)
  have HA : Hid (DRow w ao xa) := ha
  have HB : Hid (DRow w bo xb) := hb
  clear ha hb
  go_enter Try.func8, Try.ntmps8
  go_wp2
  have O0 : OwnD w.heap.size (w.alloc (.cells (madeCells #[.int .i32 0, .int .i32 0, .string ByteArray.empty, .int .i64 0, .string ByteArray.empty, .string ByteArray.empty] ((xa.length + xb.length) * 6)) 38)) w.heap.size (xa.length + xb.length) [] :=
    World.ownsRow_made w _ _ (Nat.le_refl _) (by unfold maxLen; omega) (by rw [size_madeCells])
  have B0 : Below w.heap.size w (w.alloc (.cells (madeCells #[.int .i32 0, .int .i32 0, .string ByteArray.empty, .int .i64 0, .string ByteArray.empty, .string ByteArray.empty] ((xa.length + xb.length) * 6)) 38)) := (Below.refl _ _).alloc (Nat.le_refl _) _
  obtain ⟨N, hN⟩ : ∃ N, N = w.heap.size := ⟨_, rfl⟩
  rw [← hN] at O0 B0 ⊢
  generalize (w.alloc (.cells (madeCells #[.int .i32 0, .int .i32 0, .string ByteArray.empty, .int .i64 0, .string ByteArray.empty, .string ByteArray.empty] ((xa.length + xb.length) * 6)) 38)) = W at *
  have HN : Hid (N = w.heap.size) := hN
  clear hN hm
  go_loopw [16, 5] (fun i v wr => ∃ k : Nat, k ≤ xa.length ∧ i = .int .i64 k ∧ v = .slice (some ⟨N, 0, none⟩) k (xa.length + xb.length) ∧ OwnD N wr N (xa.length + xb.length) (xa.take k) ∧ Below N w wr) (fun i _ _ => xa.length - (intOf i).toNat)
  case atStart => exact ⟨0, by omega, rfl, rfl, by simpa using O0, B0⟩
  case round =>
    obtain ⟨k, hk, rfl, rfl, O, B⟩ := hrel
    have HO : Hid (OwnD N wr N (xa.length + xb.length) (xa.take k)) := O
    have HBw : Hid (Below N w wr) := B
    clear O B
    by_cases hlt : k < xa.length
    · obtain ⟨b, off, rfl, h0, h1, h2, h3, h4, h5⟩ := (HA.out.below HBw.out (Nat.le_of_eq HN.out.symm)) k hlt
      have i2 : (k : Int) < (xa.length : Int) := by omega
      go_wp2_with (at_builtin; refine append6 _ rfl _ _ rfl N N (xa.length + xb.length) wr.heap.size k (xa.take k) (by simp; omega) xa[k] rfl (HO.out.alloc _) rfl (heap_alloc_new _ _) (by omega) ?_; intro w1 O1 G1)
      have R1 : OwnD N w1 N (xa.length + xb.length) (xa.take (k + 1)) := by rw [List.take_succ_eq_append_getElem hlt]; exact O1
      have R2 : Below N w w1 := (HBw.out.alloc (by rw [HN.out]; exact HBw.out.size) _).grown G1 (by simp; have := HN.out; have := HBw.out.size; omega) (by rintro _ ⟨⟩; exact Nat.le_refl _)
      clear h0 h1 h2 h3 h4 h5 O1 G1
      go_wp2
      go_roundw
      case rel => exact ⟨k + 1, by omega, by go_num, rfl, R1, R2⟩
      case measure => simp [intOf]; omega
    · obtain rfl : k = xa.length := by omega
      have HO2 : Hid (OwnD N wr N (xa.length + xb.length) xa) := by have := HO.out; rw [List.take_length] at this; exact this
      clear HO
      go_wp2
      go_loopw [29, 5] (fun i v wr => ∃ k : Nat, k ≤ xb.length ∧ i = .int .i64 k ∧ v = .slice (some ⟨N, 0, none⟩) (xa.length + k) (xa.length + xb.length) ∧ OwnD N wr N (xa.length + xb.length) (xa ++ xb.take k) ∧ Below N w wr) (fun i _ _ => xb.length - (intOf i).toNat)
      case atStart => exact ⟨0, by omega, rfl, rfl, by simpa using HO2.out, HBw.out⟩
      case round =>
        clear HO2 HBw
        obtain ⟨k, hk, rfl, rfl, O, B⟩ := hrel
        have HO : Hid (OwnD N wr N (xa.length + xb.length) (xa ++ xb.take k)) := O
        have HBw : Hid (Below N w wr) := B
        clear O B
        by_cases hlt : k < xb.length
        · obtain ⟨b, off, rfl, h0, h1, h2, h3, h4, h5⟩ := (HB.out.below HBw.out (Nat.le_of_eq HN.out.symm)) k hlt
          have i2 : (k : Int) < (xb.length : Int) := by omega
          go_wp2_with (at_builtin; refine append6 _ rfl _ _ rfl N N (xa.length + xb.length) wr.heap.size (xa.length + k) (xa ++ xb.take k) (by simp; omega) xb[k] rfl (HO.out.alloc _) rfl (heap_alloc_new _ _) (by omega) ?_; intro w1 O1 G1)
          have R1 : OwnD N w1 N (xa.length + xb.length) (xa ++ xb.take (k + 1)) := by rw [List.take_succ_eq_append_getElem hlt, ← List.append_assoc]; exact O1
          have R2 : Below N w w1 := (HBw.out.alloc (by rw [HN.out]; exact HBw.out.size) _).grown G1 (by simp; have := HN.out; have := HBw.out.size; omega) (by rintro _ ⟨⟩; exact Nat.le_refl _)
          clear h0 h1 h2 h3 h4 h5 O1 G1
          go_wp2
          go_roundw
          case rel => exact ⟨k + 1, by omega, by go_num, rfl, R1, R2⟩
          case measure => simp [intOf]; omega
        · obtain rfl : k = xb.length := by omega
          go_wp2
          go_ret
          have R1 := HO.out
          rw [List.take_length] at R1
          rw [← HN.out]
          exact ⟨N, xa.length + xb.length, by rw [List.length_append]; rfl, R1, HBw.out⟩

set_option maxHeartbeats 1000000 in
/-- zzSame at one list: true -/
theorem f13 (ao bo : Option Addr) (ac bc : Nat) (xs : List Dg) (w : World) (ha : DRow w ao xs) (hb : DRow w bo xs) (hl : xs.length ≤ 65536) :
    Calls Try.prog 13 #[.slice ao xs.length ac, .slice bo xs.length bc] w fun e w' => e = .returned (.bool true) ∧ Below w.heap.size w w' := by
  have HA : Hid (DRow w ao xs) := ha
  have HB : Hid (DRow w bo xs) := hb
  clear ha hb
  go_enter Try.func13, Try.ntmps13
  go_wp2
  go_loopw [13] (fun i wr => ∃ k : Nat, k ≤ xs.length ∧ i = .int .i64 k ∧ Below w.heap.size w wr) (fun i _ => xs.length - (intOf i).toNat)
  case atStart => exact ⟨0, by omega, rfl, Below.refl _ _⟩
  case round =>
    obtain ⟨k, hk, rfl, B⟩ := hrel
    have HBw : Hid (Below w.heap.size w wr) := B
    clear B
    by_cases hlt : k < xs.length
    · obtain ⟨b, off, rfl, h0, h1, h2, h3, h4, h5⟩ := (HA.out.below HBw.out (Nat.le_refl _)) k hlt
      obtain ⟨b', off', rfl, j0, j1, j2, j3, j4, j5⟩ := (HB.out.below HBw.out (Nat.le_refl _)) k hlt
      have i2 : (k : Int) < (xs.length : Int) := by omega
      have C := f20 xs[k] xs[k] wr.drew
      rw [(good_D.eq0 _ _).mpr rfl] at C
      have HC : Hid (Calls Try.prog 20 _ _ _) := C
      clear C
      have R : Below w.heap.size w ((wr.alloc (boxD xs[k])).alloc (boxD xs[k])).drew := ((HBw.out.alloc HBw.out.size _).alloc (by simp; have := HBw.out.size; omega) _).drew
      go_wp2
      go_region_with (go_at_call 20; refine HC.out.mono ?_; rintro e w1 ⟨rfl, rfl⟩)
      go_wp2
      all_goals
        go_roundw
        case rel => exact ⟨k + 1, by omega, by go_num, R⟩
        case measure => simp [intOf]; omega
    · obtain rfl : k = xs.length := by omega
      go_wp2
      go_ret
      exact ⟨rfl, HBw.out⟩

end Go.Proofs.Qxb6627582a
