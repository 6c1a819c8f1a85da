import Derived.Test.Qxb6627582aWalksE
import Derived.Deep.RegionHeld3
import Derived.BigQuiet
import Derived.Deep.QuietTactic
namespace Go.Proofs.Qxb6627582a
open Go.RowKit Go.Sort

theorem make0n (n : Nat) (hn : n ≤ 2097152) (w : World) : (Instr.makeSlice 22 (.int .i64 0) (.int .i64 (n : Int))).run Try.prog w = .ok (.slice (some ⟨w.heap.size, 0, none⟩) 0 n) (w.alloc (.cells (madeCells #[.int .i32 0, .int .i32 0, .string ByteArray.empty, .int .i64 0, .string ByteArray.empty, .string ByteArray.empty] (n * 6)) 38)) := by
  obtain ⟨i, hi, hz0, hz1, hz2⟩ := info_parts Try.info38
  have h := run_make (P := Try.prog) w 22 38 i _ Try.underlying22 hi hz0 .i64 .i64 0 (n : Int) (by omega) (by omega) (by rw [hz2]; omega) (by omega)
  rw [hz1] at h
  rw [h]
  rfl

theorem own_made0 (w : World) (n : Nat) (hn : n ≤ 2097152) : OwnD w.heap.size (w.alloc (.cells (madeCells #[.int .i32 0, .int .i32 0, .string ByteArray.empty, .int .i64 0, .string ByteArray.empty, .string ByteArray.empty] (n * 6)) 38)) w.heap.size n [] :=
  World.ownsRow_made w _ _ (Nat.le_refl _) (by unfold maxLen; omega) (by rw [size_madeCells])

theorem take_set_self {xs zs : List Dg} {k : Nat} (h : zs.take k = xs.take k) (hk : k < xs.length) (hz : k < zs.length) : (zs.set k xs[k]).take (k + 1) = xs.take (k + 1) := by
  rw [take_set_succ _ _ _ hz, h, List.take_succ_eq_append_getElem hk]

set_option maxRecDepth 100000 in
set_option maxHeartbeats 4000000 in
theorem f7 (ao : Option Addr) (ac n : Nat) (xs : List Dg) (w : World) (h : DRow w ao xs) (hn : xs.length = n) (hl : n ≤ 65536) :
    Calls Try.prog 7 #[.slice ao n ac] w fun e w' => ∃ g cap out, e = .returned (.slice (some ⟨g, 0, none⟩) out.length cap) ∧ OwnD w.heap.size w' g cap out ∧ StrD out ∧ (∀ d, d ∈ out ↔ d ∈ xs) ∧ out.length ≤ n ∧ Below w.heap.size w w' := by
  have hm := make66 n (by omega)
  have HA : Hid (DRow w ao xs) := h
  clear h
  go_enter Try.func7, Try.ntmps7
  go_wp2
  have O0 : Hid (OwnD w.heap.size (w.alloc (.cells (madeCells #[.int .i32 0, .int .i32 0, .string ByteArray.empty, .int .i64 0, .string ByteArray.empty, .string ByteArray.empty] (n * 6)) 38)) w.heap.size n (List.replicate n zeroD)) := own_made6 w n (by omega)
  have B0 : Hid (Below w.heap.size w (w.alloc (.cells (madeCells #[.int .i32 0, .int .i32 0, .string ByteArray.empty, .int .i64 0, .string ByteArray.empty, .string ByteArray.empty] (n * 6)) 38))) := (Below.refl _ _).alloc (Nat.le_refl _) _
  clear hm
  obtain ⟨N, hN⟩ : ∃ N, N = w.heap.size := ⟨_, rfl⟩
  rw [← hN] at O0 B0 ⊢
  have HN : Hid (N = w.heap.size) := hN
  clear hN
  generalize (w.alloc (.cells (madeCells #[.int .i32 0, .int .i32 0, .string ByteArray.empty, .int .i64 0, .string ByteArray.empty, .string ByteArray.empty] (n * 6)) 38)) = W0 at *
  go_loopw [13] (fun vi wr => ∃ k : Nat, ∃ zs : List Dg, vi = .int .i64 k ∧ k ≤ n ∧ zs.length = n ∧ zs.take k = xs.take k ∧ OwnD N wr N n zs ∧ Below N w wr) (fun vi _ => n - (intOf vi).toNat)
  case atStart => exact ⟨0, List.replicate n zeroD, rfl, by omega, by simp, by simp, O0.out, B0.out⟩
  case round =>
    clear O0 B0
    obtain ⟨k, zs, rfl, hk, hz, e, o, b⟩ := hrel
    have OW : Hid (OwnD N wr N n zs) := o
    have BL : Hid (Below N w wr) := b
    have E : Hid (zs.take k = xs.take k) := e
    clear o b e
    by_cases hlt : k < n
    · obtain ⟨bb, off, rfl, a0, a1, a2, a3, a4, a5⟩ := (HA.out.below BL.out (Nat.le_of_eq HN.out.symm)) k (by omega)
      obtain ⟨x, hx⟩ : ∃ x, x = xs[k]'(by omega) := ⟨_, rfl⟩
      rw [← hx] at a0 a1 a2 a3 a4 a5
      have hkz : k < zs.length := by omega
      have i2 : (k : Int) < (n : Int) := by omega
      obtain ⟨b0', b1, b2, b3, b4, b5⟩ := own_at6 OW.out k hkz
      have fz := fun q => World.ownsRow.frozenAt OW.out q
      have f0 := fz (k * 6)
      have f1 := fz (k * 6 + 1)
      have f2 := fz (k * 6 + 2)
      have f3 := fz (k * 6 + 3)
      have f4 := fz (k * 6 + 4)
      have f5 := fz (k * 6 + 5)
      clear fz
      obtain ⟨r1, r2⟩ := own_store6 OW.out k hkz x
      have R1 : Hid (OwnD N _ N n (zs.set k x)) := r1
      have R2 : Hid (Below N w _) := BL.out.grown r2 (by rw [HN.out]; exact BL.out.size) (by rintro _ ⟨⟩; exact Nat.le_refl _)
      have R3 : Hid ((zs.set k x).take (k + 1) = xs.take (k + 1)) := by rw [hx]; exact take_set_self E.out (by omega) hkz
      have hz' : (zs.set k x).length = n := by simpa using hz
      clear r1 r2 OW BL E hx
      go_wp2
      go_roundw
      case rel => exact ⟨k + 1, zs.set k x, by go_num, by omega, hz', R3.out, R1.out, R2.out⟩
      case measure => simp [intOf]; omega
    · obtain rfl : n = k := by omega
      obtain rfl : zs = xs := by
        have := E.out
        rw [List.take_of_length_le (by omega), List.take_of_length_le (by omega)] at this
        exact this
      clear E hk hlt
      have i2 : (n : Int) ≤ (n : Int) := by omega
      go_wp2_with fail
      refine (f19 N N n n zs wr OW.out hz hl (by rw [HN.out]; exact BL.out.size)).mono ?_
      rintro e w1 ⟨g, cap, ys, rfl, o, hy, hp, hs, b⟩
      have OY : Hid (OwnD N w1 g cap ys) := o
      have BL1 : Hid (Below N w w1) := BL.out.trans b
      have PM : Hid (ys.Perm zs) := hp
      have SO : Hid (SortD ys) := hs
      clear o b hp hs OW BL
      have hm := make0n n (by omega) w1
      have O1 : Hid (OwnD w1.heap.size (w1.alloc (.cells (madeCells #[.int .i32 0, .int .i32 0, .string ByteArray.empty, .int .i64 0, .string ByteArray.empty, .string ByteArray.empty] (n * 6)) 38)) w1.heap.size n []) := own_made0 w1 n (by omega)
      have OY1 : Hid (OwnD N (w1.alloc (.cells (madeCells #[.int .i32 0, .int .i32 0, .string ByteArray.empty, .int .i64 0, .string ByteArray.empty, .string ByteArray.empty] (n * 6)) 38)) g cap ys) := OY.out.alloc _
      have hNw : N ≤ w1.heap.size := by rw [HN.out]; exact BL1.out.size
      have BL2 : Hid (Below N w (w1.alloc (.cells (madeCells #[.int .i32 0, .int .i32 0, .string ByteArray.empty, .int .i64 0, .string ByteArray.empty, .string ByteArray.empty] (n * 6)) 38))) := BL1.out.alloc hNw _
      have hgw : g < w1.heap.size := (own_lt OY.out).2
      have hsz : w1.heap.size < (w1.alloc (.cells (madeCells #[.int .i32 0, .int .i32 0, .string ByteArray.empty, .int .i64 0, .string ByteArray.empty, .string ByteArray.empty] (n * 6)) 38)).heap.size := by simp
      go_wp2
      clear hm
      generalize (w1.alloc (.cells (madeCells #[.int .i32 0, .int .i32 0, .string ByteArray.empty, .int .i64 0, .string ByteArray.empty, .string ByteArray.empty] (n * 6)) 38)) = W1 at *
      obtain ⟨G, hG⟩ : ∃ G, G = w1.heap.size := ⟨_, rfl⟩
      rw [← hG] at O1 hNw hgw hsz ⊢
      clear hG OY BL1
      go_loopw [31, 6] (fun vi vo wr => ∃ k : Nat, ∃ o : List Dg, vi = .int .i64 k ∧ vo = .slice (some ⟨G, 0, none⟩) o.length n ∧ k ≤ n ∧ Gath ys k o ∧ OwnD N wr G n o ∧ OwnD N wr g cap ys ∧ Below N w wr ∧ G < wr.heap.size) (fun vi _ _ => n - (intOf vi).toNat)
      case atStart => exact ⟨0, [], rfl, rfl, by omega, Gath.zero ys, own_low O1.out hNw, OY1.out, BL2.out, hsz⟩
      case round =>
        clear O1 OY1 BL2 hsz
        obtain ⟨k, o, rfl, rfl, hk, ga, oo, oy, bl, hGw⟩ := hrel
        have GA : Hid (Gath ys k o) := ga
        have hol := ga.len
        have OO : Hid (OwnD N wr G n o) := oo
        have OY : Hid (OwnD N wr g cap ys) := oy
        have BL : Hid (Below N w wr) := bl
        clear ga oo oy bl
        by_cases hlt : k < n
        · have i2 : (k : Int) < (n : Int) := by omega
          by_cases hk0 : k = 0
          · subst hk0
            obtain ⟨a0, a1, a2, a3, a4, a5⟩ := own_at6 OY.out 0 (by omega)
            obtain ⟨x, hx⟩ : ∃ x, x = ys[0]'(by omega) := ⟨_, rfl⟩
            rw [← hx] at a0 a1 a2 a3 a4 a5
            have GA1 : Hid (Gath ys 1 (o ++ [x])) := by rw [hx]; exact GA.out.first (by omega)
            clear GA hx
            go_wp2
            go_quiet (fail)
            go_wp2_with (at_builtin; refine append6 _ rfl _ _ rfl N G n wr.heap.size o.length o rfl x rfl (OO.out.alloc _) rfl (heap_alloc_new _ _) (by omega) ?_; intro w2 o2 g2)
            have hq : wr.heap.size ≤ (wr.drewN nq).heap.size := (below_drewN (Below.refl 0 wr) nq).size
            have R1 : Hid (OwnD N w2 G n (o ++ [x])) := o2
            have R2 : Hid (OwnD N w2 g cap ys) := ((OY.out.below (below_drewN (Below.refl (g + 1) wr) nq) (by omega)).alloc _).grown g2 (by omega)
            have R3 : Hid (Below N w w2) := ((below_drewN BL.out nq).alloc (by omega) _).grown g2 (by simp; omega) (by rintro _ ⟨⟩; exact hNw)
            have hG2 : G < w2.heap.size := by have := g2.size; simp at this; omega
            clear o2 g2 OO OY BL hq
            go_roundw
            case rel => exact ⟨1, o ++ [x], rfl, by simp, by omega, GA1.out, R1.out, R2.out, R3.out, hG2⟩
            case measure => simp [intOf]; omega
          · obtain ⟨m, hm⟩ : ∃ m, k = m + 1 := ⟨k - 1, by omega⟩
            have m1 : (k : Int) - 1 = (m : Int) := by omega
            have m6 : IntKind.i64.wrap (m : Int) = (m : Int) := by simp [IntKind.wrap, IntKind.bits, IntKind.signed]; omega
            have m7 : (0 : Int) ≤ (m : Int) := by omega
            have m8 : IntKind.i64.wrap ((k : Int) - 1) = (m : Int) := by rw [m1]; exact m6
            have m2 : ((k : Int) == 0) = false := by simp; omega
            have m3 : (k == 0) = false := by simp; omega
            have m4 : ¬ (k : Int) = 0 := by omega
            have m5 : ¬ k = 0 := hk0
            have i3 : (m : Int) < (n : Int) := by omega
            have hmn : m < ys.length := by omega
            have hkn : k < ys.length := by omega
            have HM : Hid (k = m + 1) := hm
            clear hm
            obtain ⟨a0, a1, a2, a3, a4, a5⟩ := own_at6 OY.out m hmn
            obtain ⟨e0, e1, e2, e3, e4, e5⟩ := own_at6 OY.out k hkn
            obtain ⟨x, hx⟩ : ∃ x, x = ys[m]'hmn := ⟨_, rfl⟩
            obtain ⟨y, hy'⟩ : ∃ y, y = ys[k]'hkn := ⟨_, rfl⟩
            rw [← hx] at a0 a1 a2 a3 a4 a5
            rw [← hy'] at e0 e1 e2 e3 e4 e5
            have HX : Hid (x = ys[m]'hmn) := hx
            have HY : Hid (y = ys[k]'hkn) := hy'
            clear hx hy'
            go_wp2
            go_region_held3 (fun w' => w'.cell? ⟨g, m * 6, none⟩ = some (.int .i32 x.l) ∧ w'.cell? ⟨g, m * 6 + 1, none⟩ = some (.int .i32 x.c) ∧ w'.cell? ⟨g, m * 6 + 2, none⟩ = some (.string x.p) ∧ w'.cell? ⟨g, m * 6 + 3, none⟩ = some (.int .i64 x.s) ∧ w'.cell? ⟨g, m * 6 + 4, none⟩ = some (.string x.r) ∧ w'.cell? ⟨g, m * 6 + 5, none⟩ = some (.string x.m) ∧ w'.cell? ⟨g, k * 6, none⟩ = some (.int .i32 y.l) ∧ w'.cell? ⟨g, k * 6 + 1, none⟩ = some (.int .i32 y.c) ∧ w'.cell? ⟨g, k * 6 + 2, none⟩ = some (.string y.p) ∧ w'.cell? ⟨g, k * 6 + 3, none⟩ = some (.int .i64 y.s) ∧ w'.cell? ⟨g, k * 6 + 4, none⟩ = some (.string y.r) ∧ w'.cell? ⟨g, k * 6 + 5, none⟩ = some (.string y.m)) (first | exact ⟨a0, a1, a2, a3, a4, a5, e0, e1, e2, e3, e4, e5⟩ | go_keep)
              (first | (go_at_call 20; refine (f20 x y _).mono ?_; rintro e w' ⟨rfl, rfl⟩))
            have OO2 : Hid (OwnD N ((wr.alloc (boxD x)).alloc (boxD y)).drew G n o) := ((OO.out.alloc _).alloc _).drew
            have OY2 : Hid (OwnD N ((wr.alloc (boxD x)).alloc (boxD y)).drew g cap ys) := ((OY.out.alloc _).alloc _).drew
            have BL2 : Hid (Below N w ((wr.alloc (boxD x)).alloc (boxD y)).drew) := ((BL.out.alloc (by omega) _).alloc (by simp; omega) _).drew
            have hG2 : G < ((wr.alloc (boxD x)).alloc (boxD y)).drew.heap.size := by simp; omega
            clear a0 a1 a2 a3 a4 a5 e0 e1 e2 e3 e4 e5 OO OY BL
            generalize ((wr.alloc (boxD x)).alloc (boxD y)).drew = W2 at OO2 OY2 BL2 hG2 ⊢
            by_cases hc : (cmpD x y == 0) = true
            · have he : x = y := (good_D.eq0 _ _).mp (by simpa using hc)
              have GA1 : Hid (Gath ys (k + 1) o) := by
                have hm := HM.out
                subst hm
                exact GA.out.skip hkn (by rw [← HX.out, ← HY.out]; exact he)
              have hc2 : cmpD x y = 0 := by simpa using hc
              clear GA HX HY he
              go_wp2
              go_roundw
              case rel => exact ⟨k + 1, o, by go_num, rfl, by omega, GA1.out, OO2.out, OY2.out, BL2.out, hG2⟩
              case measure => simp [intOf]; omega
            · have hc1 : (cmpD x y == 0) = false := by simpa using hc
              have he : x ≠ y := fun h => by rw [(good_D.eq0 _ _).mpr h] at hc1; simp at hc1
              have GA1 : Hid (Gath ys (k + 1) (o ++ [y])) := by
                have hm := HM.out
                subst hm
                rw [HY.out]
                exact GA.out.next SO.out hkn (by rw [← HX.out, ← HY.out]; exact he)
              obtain ⟨e0, e1, e2, e3, e4, e5⟩ := own_at6 OY2.out k hkn
              rw [← HY.out] at e0 e1 e2 e3 e4 e5
              clear GA HX HY he
              go_wp2_with (at_builtin; refine append6 _ rfl _ _ rfl N G n W2.heap.size o.length o rfl y rfl (OO2.out.alloc _) rfl (heap_alloc_new _ _) (by omega) ?_; intro w2 o2 g2)
              have R1 : Hid (OwnD N w2 G n (o ++ [y])) := o2
              have R2 : Hid (OwnD N w2 g cap ys) := (OY2.out.alloc _).grown g2 (by omega)
              have R3 : Hid (Below N w w2) := (BL2.out.alloc (by omega) _).grown g2 (by simp; omega) (by rintro _ ⟨⟩; exact hNw)
              have hG3 : G < w2.heap.size := by have := g2.size; simp at this; omega
              clear o2 g2 OO2 OY2 BL2
              go_roundw
              case rel => exact ⟨k + 1, o ++ [y], by go_num, by simp, by omega, GA1.out, R1.out, R2.out, R3.out, hG3⟩
              case measure => simp [intOf]; omega
        · obtain rfl : n = k := by omega
          go_wp2
          go_ret
          rw [← HN.out]
          refine ⟨G, n, o, rfl, OO.out, GA.out.str, fun d => ?_, hol, BL.out⟩
          rw [GA.out.mem, List.take_of_length_le (by omega)]
          exact PM.out.mem_iff

end Go.Proofs.Qxb6627582a
