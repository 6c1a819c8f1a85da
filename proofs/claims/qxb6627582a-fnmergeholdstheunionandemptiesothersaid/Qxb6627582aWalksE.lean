import Derived.Test.Qxb6627582aWalksD
import Derived.Test.Qxb6627582aPlainB
import Derived.Deep.RegionHeld3
namespace Go.Proofs.Qxb6627582a
open Go.RowKit Go.Sort

theorem make66 (n : Nat) (hn : n ≤ 2097152) (w : World) : (Instr.makeSlice 22 (.int .i64 (n : Int)) (.int .i64 (n : Int))).run Try.prog w = .ok (.slice (some ⟨w.heap.size, 0, none⟩) n n) (w.alloc (.cells (madeCells #[.int .i32 0, .int .i32 0, .string ByteArray.empty, .int .i64 0, .string ByteArray.empty, .string ByteArray.empty] (n * 6)) 38)) := by
  obtain ⟨i, hi, hz0, hz1, hz2⟩ := info_parts Try.info38
  have h := run_make (P := Try.prog) w 22 38 i _ Try.underlying22 hi hz0 .i64 .i64 (n : Int) (n : Int) (by omega) (by omega) (by rw [hz2]; omega) (by omega)
  rw [hz1] at h
  rw [h]
  rfl

theorem own_made6 (w : World) (n : Nat) (hn : n ≤ 2097152) : OwnD w.heap.size (w.alloc (.cells (madeCells #[.int .i32 0, .int .i32 0, .string ByteArray.empty, .int .i64 0, .string ByteArray.empty, .string ByteArray.empty] (n * 6)) 38)) w.heap.size n (List.replicate n zeroD) := by
  have h := World.ownsRow_lit (base := w.heap.size) (e := 38) (size := 6) w (madeCells #[.int .i32 0, .int .i32 0, .string ByteArray.empty, .int .i64 0, .string ByteArray.empty, .string ByteArray.empty] (n * 6)) n (Nat.le_refl _) (by unfold maxLen; omega) (by rw [size_madeCells])
  have e := made_flat encD 6 encD_len zeroD #[.int .i32 0, .int .i32 0, .string ByteArray.empty, .int .i64 0, .string ByteArray.empty, .string ByteArray.empty] rfl n
  rw [e] at h
  unfold OwnD
  rw [List.length_replicate]
  exact h

theorem own_low {base b' : Nat} {w : World} {g cap : Nat} {xs : List Dg} (h : OwnD base w g cap xs) (hb : b' ≤ base) : OwnD b' w g cap xs :=
  ⟨h.1, by
    rcases h.2 with h0 | ⟨g', c', cur, h1, h2, h3⟩
    · exact .inl h0
    · exact .inr ⟨g', c', cur, h1, Nat.le_trans hb h2, h3⟩⟩

/-- the two rows of the merge sort -/
structure Two (b0 : Nat) (w0 : World) (ga ca gb cb : Nat) (ys zs : List Dg) (wr : World) : Prop where
  a : OwnD b0 wr ga ca ys
  b : OwnD b0 wr gb cb zs
  ne : ga ≠ gb
  bl : Below b0 w0 wr
  sz : b0 ≤ wr.heap.size

theorem OwnD.grown {base : Nat} {w w' : World} {g cap : Nat} {xs : List Dg} (h : OwnD base w g cap xs) {r : Nat} (hg : w.grownBy w' (some r)) (hne : g ≠ r) : OwnD base w' g cap xs :=
  World.ownsRow.kept h hg (.inr (by simpa [Value.ownBlock] using hne))

theorem Two.store {b0 : Nat} {w0 : World} {ga ca gb cb : Nat} {ys zs : List Dg} {wr : World} (h : Two b0 w0 ga ca gb cb ys zs wr) (k : Nat) (hk : k < zs.length) (d : Dg) :
    Two b0 w0 ga ca gb cb ys (zs.set k d) ((((((wr.setCell ⟨gb, k * 6, none⟩ (.int .i32 d.l)).setCell ⟨gb, k * 6 + 1, none⟩ (.int .i32 d.c)).setCell ⟨gb, k * 6 + 2, none⟩ (.string d.p)).setCell ⟨gb, k * 6 + 3, none⟩ (.int .i64 d.s)).setCell ⟨gb, k * 6 + 4, none⟩ (.string d.r)).setCell ⟨gb, k * 6 + 5, none⟩ (.string d.m)) := by
  obtain ⟨h1, h2⟩ := own_store6 h.b k hk d
  refine ⟨h.a.grown h2 h.ne, h1, h.ne, h.bl.grown h2 h.sz ?_, Nat.le_trans h.sz h2.size⟩
  rintro _ ⟨⟩
  exact (own_lt h.b).1

theorem Two.boxes {b0 : Nat} {w0 : World} {ga ca gb cb : Nat} {ys zs : List Dg} {wr : World} (h : Two b0 w0 ga ca gb cb ys zs wr) (o1 o2 : Obj) : Two b0 w0 ga ca gb cb ys zs ((wr.alloc o1).alloc o2).drew :=
  ⟨((h.a.alloc o1).alloc o2).drew, ((h.b.alloc o1).alloc o2).drew, h.ne, ((h.bl.alloc h.sz o1).alloc (by simp; have := h.sz; omega) o2).drew, by simp; have := h.sz; omega⟩

theorem Two.swap {b0 : Nat} {w0 : World} {ga ca gb cb : Nat} {ys zs : List Dg} {wr : World} (h : Two b0 w0 ga ca gb cb ys zs wr) : Two b0 w0 gb cb ga ca zs ys wr := ⟨h.b, h.a, h.ne.symm, h.bl, h.sz⟩


set_option maxRecDepth 100000 in
set_option maxHeartbeats 4000000 in
theorem f19 (b0 g0 c0 n : Nat) (xs : List Dg) (w : World) (h : OwnD b0 w g0 c0 xs) (hn : xs.length = n) (hl : n ≤ 65536) (hb0 : b0 ≤ w.heap.size) :
    Calls Try.prog 19 #[.slice (some ⟨g0, 0, none⟩) n c0] w fun e w' => ∃ g cap ys, e = .returned (.slice (some ⟨g, 0, none⟩) n cap) ∧ OwnD b0 w' g cap ys ∧ ys.length = n ∧ ys.Perm xs ∧ SortD ys ∧ Below b0 w w' := by
  have hm := make66 n (by omega)
  have H0 : Hid (OwnD b0 w g0 c0 xs) := h
  clear h
  go_enter Try.func19, Try.ntmps19
  go_wp2
  have T0 : Hid (Two b0 w g0 c0 w.heap.size n xs (List.replicate n zeroD) (w.alloc (.cells (madeCells #[.int .i32 0, .int .i32 0, .string ByteArray.empty, .int .i64 0, .string ByteArray.empty, .string ByteArray.empty] (n * 6)) 38))) :=
    ⟨H0.out.alloc _, own_low (own_made6 w n (by omega)) hb0, by have := (own_lt H0.out).2; omega, (Below.refl _ _).alloc hb0 _, by simp; omega⟩
  clear hm
  obtain ⟨N, hN⟩ : ∃ N, N = w.heap.size := ⟨_, rfl⟩
  rw [← hN] at T0 ⊢
  clear hN
  generalize (w.alloc (.cells (madeCells #[.int .i32 0, .int .i32 0, .string ByteArray.empty, .int .i64 0, .string ByteArray.empty, .string ByteArray.empty] (n * 6)) 38)) = W0 at *
  go_loopw [0, 4, 5] (fun va vb vw wr => ∃ ga ca gb cb W : Nat, ∃ ys zs, va = .slice (some ⟨ga, 0, none⟩) n ca ∧ vb = .slice (some ⟨gb, 0, none⟩) n cb ∧ vw = .int .i64 W ∧ 1 ≤ W ∧ W ≤ 131072 ∧ ys.length = n ∧ zs.length = n ∧ ys.Perm xs ∧ Blk W ys ∧ Two b0 w ga ca gb cb ys zs wr) (fun _ _ vw _ => n - (intOf vw).toNat)
  case atStart => exact ⟨g0, c0, N, n, 1, xs, List.replicate n zeroD, rfl, rfl, rfl, by omega, by omega, hn, by simp, List.Perm.refl _, blk_one _, T0.out⟩
  case round =>
    clear T0 H0
    obtain ⟨ga, ca, gb, cb, W, ys, zs, rfl, rfl, rfl, hW1, hW2, hy, hz, hp, hbk, tw⟩ := hrel
    have TW : Hid (Two b0 w ga ca gb cb ys zs wr) := tw
    have HP : Hid (ys.Perm xs) := hp
    have HK : Hid (Blk W ys) := hbk
    clear tw hp hbk
    by_cases hWn : W < n
    · have w1 : (W : Int) < (n : Int) := by omega
      go_wp2
      go_loopw [6] (fun vl wr => ∃ lo : Nat, ∃ zs : List Dg, vl = .int .i64 lo ∧ lo ≤ 1000000 ∧ zs.length = n ∧ zs.take lo ++ pass W (ys.drop lo) = pass W ys ∧ Two b0 w ga ca gb cb ys zs wr) (fun vl _ => n - (intOf vl).toNat)
      case atStart => exact ⟨0, zs, rfl, by omega, hz, by simp, TW.out⟩
      case round =>
        clear TW hz zs
        obtain ⟨lo, zs, rfl, hlo, hz, e, tw⟩ := hrel
        have TW : Hid (Two b0 w ga ca gb cb ys zs wr) := tw
        have E : Hid (zs.take lo ++ pass W (ys.drop lo) = pass W ys) := e
        clear e tw
        by_cases hln : lo < n
        · have l1 : (lo : Int) < (n : Int) := by omega
          obtain ⟨M, hM⟩ : ∃ M, M = lo + W := ⟨_, rfl⟩
          obtain ⟨H, hH⟩ : ∃ H, H = lo + 2 * W := ⟨_, rfl⟩
          have g1 : (lo : Int) + (W : Int) = (M : Int) := by omega
          have g2 : (lo : Int) + 2 * (W : Int) = (H : Int) := by omega
          by_cases m1 : M ≤ n
          · have m2 : (M : Int) ≤ (n : Int) := by omega
            have d1 : decide (n < M) = false := by simp; omega
            by_cases m3 : H ≤ n
            · have m4 : (H : Int) ≤ (n : Int) := by omega
              have d2 : decide (n < H) = false := by simp; omega
              have MS0 : Hid (MS W ys (pass W ys) M H zs lo M lo) := MS.start (by omega) (by omega) (by omega) (by omega) (by omega) E.out
              have HH : Hid (H = min (lo + 2 * W) ys.length) := by
                show H = min (lo + 2 * W) ys.length
                omega
              clear E hM hH
              go_wp2
              go_loopw [9, 10, 11] (fun vi vj vk wq => ∃ i j k : Nat, ∃ zs, vi = .int .i64 i ∧ vj = .int .i64 j ∧ vk = .int .i64 k ∧ MS W ys (pass W ys) M H zs i j k ∧ Two b0 w ga ca gb cb ys zs wq) (fun vi vj _ _ => M - (intOf vi).toNat + (H - (intOf vj).toNat))
              case atStart => exact ⟨lo, M, lo, zs, rfl, by first | rfl | simp, rfl, MS0.out, TW.out⟩
              case round =>
                clear MS0 TW
                obtain ⟨i, j, k, zs, rfl, rfl, rfl, ms, tw⟩ := hrel
                have hk1 := ms.hk
                have hi1 := ms.hi
                have hj1 := ms.hj
                have hH1 := ms.hH
                have hn1 := ms.hn
                have hz1 := ms.hz
                have MSk : Hid (MS W ys (pass W ys) M H zs i j k) := ms
                have TWk : Hid (Two b0 w ga ca gb cb ys zs wr) := tw
                clear ms tw
                by_cases h1 : i < M
                · have c1 : (i : Int) < ((M : Nat) : Int) := by omega
                  by_cases h2 : j < H
                  · have c2 : (j : Int) < ((H : Nat) : Int) := by omega
                    have hin : i < ys.length := by omega
                    have hjn : j < ys.length := by omega
                    have hkn : k < ys.length := by omega
                    have i3 : (i : Int) < (n : Int) := by omega
                    have j3 : (j : Int) < (n : Int) := by omega
                    have k3 : (k : Int) < (n : Int) := by omega
                    obtain ⟨a0, a1, a2, a3, a4, a5⟩ := own_at6 TWk.out.a i hin
                    obtain ⟨e0, e1', e2', e3, e4, e5⟩ := own_at6 TWk.out.a j hjn
                    obtain ⟨x, hx⟩ : ∃ x, x = ys[i] := ⟨_, rfl⟩
                    obtain ⟨y, hy⟩ : ∃ y, y = ys[j] := ⟨_, rfl⟩
                    rw [← hx] at a0 a1 a2 a3 a4 a5
                    rw [← hy] at e0 e1' e2' e3 e4 e5
                    have HX : Hid (x = ys[i]) := hx
                    have HY : Hid (y = ys[j]) := hy
                    clear hx hy
                    go_wp2
                    go_region_held3 (fun w' => w'.cell? ⟨ga, i * 6, none⟩ = some (.int .i32 x.l) ∧ w'.cell? ⟨ga, i * 6 + 1, none⟩ = some (.int .i32 x.c) ∧ w'.cell? ⟨ga, i * 6 + 2, none⟩ = some (.string x.p) ∧ w'.cell? ⟨ga, i * 6 + 3, none⟩ = some (.int .i64 x.s) ∧ w'.cell? ⟨ga, i * 6 + 4, none⟩ = some (.string x.r) ∧ w'.cell? ⟨ga, i * 6 + 5, none⟩ = some (.string x.m) ∧ w'.cell? ⟨ga, j * 6, none⟩ = some (.int .i32 y.l) ∧ w'.cell? ⟨ga, j * 6 + 1, none⟩ = some (.int .i32 y.c) ∧ w'.cell? ⟨ga, j * 6 + 2, none⟩ = some (.string y.p) ∧ w'.cell? ⟨ga, j * 6 + 3, none⟩ = some (.int .i64 y.s) ∧ w'.cell? ⟨ga, j * 6 + 4, none⟩ = some (.string y.r) ∧ w'.cell? ⟨ga, j * 6 + 5, none⟩ = some (.string y.m)) (first | exact ⟨a0, a1, a2, a3, a4, a5, e0, e1', e2', e3, e4, e5⟩ | go_keep)
                      (first | (go_at_call 20; refine (f20 y x _).mono ?_; rintro e w' ⟨rfl, rfl⟩))
                    have TW2 : Hid (Two b0 w ga ca gb cb ys zs ((wr.alloc (boxD y)).alloc (boxD x)).drew) := TWk.out.boxes _ _
                    clear a0 a1 a2 a3 a4 a5 e0 e1' e2' e3 e4 e5 TWk
                    generalize ((wr.alloc (boxD y)).alloc (boxD x)).drew = W2 at TW2 ⊢
                    obtain ⟨a0, a1, a2, a3, a4, a5⟩ := own_at6 TW2.out.a i hin
                    obtain ⟨e0, e1', e2', e3, e4, e5⟩ := own_at6 TW2.out.a j hjn
                    rw [← HX.out] at a0 a1 a2 a3 a4 a5
                    rw [← HY.out] at e0 e1' e2' e3 e4 e5
                    have hkz : k < zs.length := by omega
                    obtain ⟨b0', b1, b2, b3, b4, b5⟩ := own_at6 TW2.out.b k hkz
                    have fz := fun q => World.ownsRow.frozenAt TW2.out.b q
                    have f0 := fz (k * 6)
                    have f1 := fz (k * 6 + 1)
                    have f2 := fz (k * 6 + 2)
                    have f3 := fz (k * 6 + 3)
                    have f4 := fz (k * 6 + 4)
                    have f5 := fz (k * 6 + 5)
                    clear fz
                    by_cases hc : cmpD y x < 0
                    · have M2 : Hid (MS W ys (pass W ys) M H (zs.set k y) i (j + 1) (k + 1)) := by
                        have := MSk.out.right h1 h2 hin hjn (by rw [← HX.out, ← HY.out]; exact hc)
                        rw [← HY.out] at this
                        exact this
                      have TW3 : Hid (Two _ _ _ _ _ _ _ _ _) := TW2.out.store k hkz y
                      clear TW2 MSk HX HY
                      go_wp2
                      go_roundw
                      case rel => exact ⟨i, j + 1, k + 1, zs.set k y, rfl, by go_num, by go_num, M2.out, TW3.out⟩
                      case measure => simp [intOf]; omega
                    · have hc' : ¬ cmpD y x < 0 := hc
                      have M2 : Hid (MS W ys (pass W ys) M H (zs.set k x) (i + 1) j (k + 1)) := by
                        have := MSk.out.left h1 h2 hin hjn (by rw [← HX.out, ← HY.out]; exact hc)
                        rw [← HX.out] at this
                        exact this
                      have TW3 : Hid (Two _ _ _ _ _ _ _ _ _) := TW2.out.store k hkz x
                      clear TW2 MSk HX HY
                      go_wp2
                      go_roundw
                      case rel => exact ⟨i + 1, j, k + 1, zs.set k x, by go_num, rfl, by go_num, M2.out, TW3.out⟩
                      case measure => simp [intOf]; omega
                  · have hd : j = H ∨ i = M := by omega
                    have c2 : ((H : Nat) : Int) ≤ (j : Int) := by omega
                    go_wp2
                    go_loopw [9, 11] (fun vi vk wq => ∃ i k : Nat, ∃ zs, vi = .int .i64 i ∧ vk = .int .i64 k ∧ (j = H ∨ i = M) ∧ MS W ys (pass W ys) M H zs i j k ∧ Two b0 w ga ca gb cb ys zs wq) (fun vi _ _ => M - (intOf vi).toNat)
                    case atStart => exact ⟨i, k, zs, rfl, rfl, hd, MSk.out, TWk.out⟩
                    case round =>
                      clear MSk TWk hk1 hi1 hj1 hH1 hn1 hz1 hd
                      clear h1
                      obtain ⟨i, k, zs, rfl, rfl, hd, ms, tw⟩ := hrel
                      have hk1 := ms.hk
                      have hi1 := ms.hi
                      have hj1 := ms.hj
                      have hH1 := ms.hH
                      have hn1 := ms.hn
                      have hz1 := ms.hz
                      have MSk : Hid (MS W ys (pass W ys) M H zs i j k) := ms
                      have TWk : Hid (Two b0 w ga ca gb cb ys zs wr) := tw
                      clear ms tw
                      by_cases h1 : i < M
                      · have c1 : (i : Int) < ((M : Nat) : Int) := by omega
                        have hin : i < ys.length := by omega
                        have hkz : k < zs.length := by omega
                        have i3 : (i : Int) < (n : Int) := by omega
                        have k3 : (k : Int) < (n : Int) := by omega
                        obtain ⟨a0, a1, a2, a3, a4, a5⟩ := own_at6 TWk.out.a i hin
                        obtain ⟨b0', b1, b2, b3, b4, b5⟩ := own_at6 TWk.out.b k hkz
                        have fz := fun q => World.ownsRow.frozenAt TWk.out.b q
                        have f0 := fz (k * 6)
                        have f1 := fz (k * 6 + 1)
                        have f2 := fz (k * 6 + 2)
                        have f3 := fz (k * 6 + 3)
                        have f4 := fz (k * 6 + 4)
                        have f5 := fz (k * 6 + 5)
                        clear fz
                        have M2 : Hid (MS W ys (pass W ys) M H (zs.set k ys[i]) (i + 1) j (k + 1)) := MSk.out.left' h1 (by omega) hin
                        have TW3 : Hid (Two _ _ _ _ _ _ _ _ _) := TWk.out.store k hkz ys[i]
                        obtain ⟨x, hx⟩ : ∃ x, x = ys[i] := ⟨_, rfl⟩
                        rw [← hx] at a0 a1 a2 a3 a4 a5 M2 TW3
                        clear TWk MSk hx
                        go_wp2
                        go_roundw
                        case rel => exact ⟨i + 1, k + 1, zs.set k x, by go_num, by go_num, by omega, M2.out, TW3.out⟩
                        case measure => simp [intOf]; omega
                      · have him : i = M := by omega
                        have c1 : ((M : Nat) : Int) ≤ (i : Int) := by omega
                        have c3 : decide (i < M) = false := by simp; omega
                        go_wp2
                        go_loopw [10, 11] (fun vj vk wq => ∃ j k : Nat, ∃ zs, vj = .int .i64 j ∧ vk = .int .i64 k ∧ MS W ys (pass W ys) M H zs i j k ∧ Two b0 w ga ca gb cb ys zs wq) (fun vj _ _ => H - (intOf vj).toNat)
                        case atStart => exact ⟨j, k, zs, rfl, rfl, MSk.out, TWk.out⟩
                        case round =>
                          clear MSk TWk hk1 hi1 hj1 hH1 hn1 hz1 hd
                          obtain ⟨j, k, zs, rfl, rfl, ms, tw⟩ := hrel
                          have hk1 := ms.hk
                          have hi1 := ms.hi
                          have hj1 := ms.hj
                          have hH1 := ms.hH
                          have hn1 := ms.hn
                          have hz1 := ms.hz
                          have MSk : Hid (MS W ys (pass W ys) M H zs i j k) := ms
                          have TWk : Hid (Two b0 w ga ca gb cb ys zs wr) := tw
                          clear ms tw
                          by_cases h5 : j < H
                          · have c2 : (j : Int) < ((H : Nat) : Int) := by omega
                            have hjn : j < ys.length := by omega
                            have hkz : k < zs.length := by omega
                            have j3 : (j : Int) < (n : Int) := by omega
                            have k3 : (k : Int) < (n : Int) := by omega
                            obtain ⟨a0, a1, a2, a3, a4, a5⟩ := own_at6 TWk.out.a j hjn
                            obtain ⟨b0', b1, b2, b3, b4, b5⟩ := own_at6 TWk.out.b k hkz
                            have fz := fun q => World.ownsRow.frozenAt TWk.out.b q
                            have f0 := fz (k * 6)
                            have f1 := fz (k * 6 + 1)
                            have f2 := fz (k * 6 + 2)
                            have f3 := fz (k * 6 + 3)
                            have f4 := fz (k * 6 + 4)
                            have f5 := fz (k * 6 + 5)
                            clear fz
                            have M2 : Hid (MS W ys (pass W ys) M H (zs.set k ys[j]) i (j + 1) (k + 1)) := MSk.out.right' him h5 hjn
                            have TW3 : Hid (Two _ _ _ _ _ _ _ _ _) := TWk.out.store k hkz ys[j]
                            obtain ⟨x, hx⟩ : ∃ x, x = ys[j] := ⟨_, rfl⟩
                            rw [← hx] at a0 a1 a2 a3 a4 a5 M2 TW3
                            clear TWk MSk hx
                            go_wp2
                            go_roundw
                            case rel => exact ⟨j + 1, k + 1, zs.set k x, by go_num, by go_num, M2.out, TW3.out⟩
                            case measure => simp [intOf]; omega
                          · have c4 : ((H : Nat) : Int) ≤ (j : Int) := by omega
                            have F := MSk.out.fin HH.out him (by omega)
                            have HF : Hid (List.take (lo + 2 * W) zs ++ pass W (List.drop (lo + 2 * W) ys) = pass W ys) := F
                            have hjH : j = H := by omega
                            have hz2 : zs.length = n := by omega
                            clear F MSk him c1 c3 hk1 hi1 hj1 hH1 hn1 hz1 h5 c4 h1
                            subst hjH
                            go_wp2
                            go_roundw
                            case rel => exact ⟨lo + 2 * W, zs, by go_num, by omega, hz2, HF.out, TWk.out⟩
                            case measure => simp [intOf]; omega
                · have hd : j = H ∨ i = M := by omega
                  have c1 : ((M : Nat) : Int) ≤ (i : Int) := by omega
                  go_wp2
                  go_loopw [9, 11] (fun vi vk wq => ∃ i k : Nat, ∃ zs, vi = .int .i64 i ∧ vk = .int .i64 k ∧ (j = H ∨ i = M) ∧ MS W ys (pass W ys) M H zs i j k ∧ Two b0 w ga ca gb cb ys zs wq) (fun vi _ _ => M - (intOf vi).toNat)
                  case atStart => exact ⟨i, k, zs, rfl, rfl, hd, MSk.out, TWk.out⟩
                  case round =>
                    clear MSk TWk hk1 hi1 hj1 hH1 hn1 hz1 hd
                    clear h1
                    obtain ⟨i, k, zs, rfl, rfl, hd, ms, tw⟩ := hrel
                    have hk1 := ms.hk
                    have hi1 := ms.hi
                    have hj1 := ms.hj
                    have hH1 := ms.hH
                    have hn1 := ms.hn
                    have hz1 := ms.hz
                    have MSk : Hid (MS W ys (pass W ys) M H zs i j k) := ms
                    have TWk : Hid (Two b0 w ga ca gb cb ys zs wr) := tw
                    clear ms tw
                    by_cases h1 : i < M
                    · have c1 : (i : Int) < ((M : Nat) : Int) := by omega
                      have hin : i < ys.length := by omega
                      have hkz : k < zs.length := by omega
                      have i3 : (i : Int) < (n : Int) := by omega
                      have k3 : (k : Int) < (n : Int) := by omega
                      obtain ⟨a0, a1, a2, a3, a4, a5⟩ := own_at6 TWk.out.a i hin
                      obtain ⟨b0', b1, b2, b3, b4, b5⟩ := own_at6 TWk.out.b k hkz
                      have fz := fun q => World.ownsRow.frozenAt TWk.out.b q
                      have f0 := fz (k * 6)
                      have f1 := fz (k * 6 + 1)
                      have f2 := fz (k * 6 + 2)
                      have f3 := fz (k * 6 + 3)
                      have f4 := fz (k * 6 + 4)
                      have f5 := fz (k * 6 + 5)
                      clear fz
                      have M2 : Hid (MS W ys (pass W ys) M H (zs.set k ys[i]) (i + 1) j (k + 1)) := MSk.out.left' h1 (by omega) hin
                      have TW3 : Hid (Two _ _ _ _ _ _ _ _ _) := TWk.out.store k hkz ys[i]
                      obtain ⟨x, hx⟩ : ∃ x, x = ys[i] := ⟨_, rfl⟩
                      rw [← hx] at a0 a1 a2 a3 a4 a5 M2 TW3
                      clear TWk MSk hx
                      go_wp2
                      go_roundw
                      case rel => exact ⟨i + 1, k + 1, zs.set k x, by go_num, by go_num, by omega, M2.out, TW3.out⟩
                      case measure => simp [intOf]; omega
                    · have him : i = M := by omega
                      have c1 : ((M : Nat) : Int) ≤ (i : Int) := by omega
                      have c3 : decide (i < M) = false := by simp; omega
                      go_wp2
                      go_loopw [10, 11] (fun vj vk wq => ∃ j k : Nat, ∃ zs, vj = .int .i64 j ∧ vk = .int .i64 k ∧ MS W ys (pass W ys) M H zs i j k ∧ Two b0 w ga ca gb cb ys zs wq) (fun vj _ _ => H - (intOf vj).toNat)
                      case atStart => exact ⟨j, k, zs, rfl, rfl, MSk.out, TWk.out⟩
                      case round =>
                        clear MSk TWk hk1 hi1 hj1 hH1 hn1 hz1 hd
                        obtain ⟨j, k, zs, rfl, rfl, ms, tw⟩ := hrel
                        have hk1 := ms.hk
                        have hi1 := ms.hi
                        have hj1 := ms.hj
                        have hH1 := ms.hH
                        have hn1 := ms.hn
                        have hz1 := ms.hz
                        have MSk : Hid (MS W ys (pass W ys) M H zs i j k) := ms
                        have TWk : Hid (Two b0 w ga ca gb cb ys zs wr) := tw
                        clear ms tw
                        by_cases h5 : j < H
                        · have c2 : (j : Int) < ((H : Nat) : Int) := by omega
                          have hjn : j < ys.length := by omega
                          have hkz : k < zs.length := by omega
                          have j3 : (j : Int) < (n : Int) := by omega
                          have k3 : (k : Int) < (n : Int) := by omega
                          obtain ⟨a0, a1, a2, a3, a4, a5⟩ := own_at6 TWk.out.a j hjn
                          obtain ⟨b0', b1, b2, b3, b4, b5⟩ := own_at6 TWk.out.b k hkz
                          have fz := fun q => World.ownsRow.frozenAt TWk.out.b q
                          have f0 := fz (k * 6)
                          have f1 := fz (k * 6 + 1)
                          have f2 := fz (k * 6 + 2)
                          have f3 := fz (k * 6 + 3)
                          have f4 := fz (k * 6 + 4)
                          have f5 := fz (k * 6 + 5)
                          clear fz
                          have M2 : Hid (MS W ys (pass W ys) M H (zs.set k ys[j]) i (j + 1) (k + 1)) := MSk.out.right' him h5 hjn
                          have TW3 : Hid (Two _ _ _ _ _ _ _ _ _) := TWk.out.store k hkz ys[j]
                          obtain ⟨x, hx⟩ : ∃ x, x = ys[j] := ⟨_, rfl⟩
                          rw [← hx] at a0 a1 a2 a3 a4 a5 M2 TW3
                          clear TWk MSk hx
                          go_wp2
                          go_roundw
                          case rel => exact ⟨j + 1, k + 1, zs.set k x, by go_num, by go_num, M2.out, TW3.out⟩
                          case measure => simp [intOf]; omega
                        · have c4 : ((H : Nat) : Int) ≤ (j : Int) := by omega
                          have F := MSk.out.fin HH.out him (by omega)
                          have HF : Hid (List.take (lo + 2 * W) zs ++ pass W (List.drop (lo + 2 * W) ys) = pass W ys) := F
                          have hjH : j = H := by omega
                          have hz2 : zs.length = n := by omega
                          clear F MSk him c1 c3 hk1 hi1 hj1 hH1 hn1 hz1 h5 c4 h1
                          subst hjH
                          go_wp2
                          go_roundw
                          case rel => exact ⟨lo + 2 * W, zs, by go_num, by omega, hz2, HF.out, TWk.out⟩
                          case measure => simp [intOf]; omega
            · have m4 : (n : Int) < (H : Int) := by omega
              have d2 : n < H := by omega
              have MS0 : Hid (MS W ys (pass W ys) M n zs lo M lo) := MS.start (by omega) (by omega) (by omega) (by omega) (by omega) E.out
              have HH : Hid (n = min (lo + 2 * W) ys.length) := by
                show n = min (lo + 2 * W) ys.length
                omega
              clear E hM hH
              go_wp2
              go_loopw [9, 10, 11] (fun vi vj vk wq => ∃ i j k : Nat, ∃ zs, vi = .int .i64 i ∧ vj = .int .i64 j ∧ vk = .int .i64 k ∧ MS W ys (pass W ys) M n zs i j k ∧ Two b0 w ga ca gb cb ys zs wq) (fun vi vj _ _ => M - (intOf vi).toNat + (n - (intOf vj).toNat))
              case atStart => exact ⟨lo, M, lo, zs, rfl, by first | rfl | simp, rfl, MS0.out, TW.out⟩
              case round =>
                clear MS0 TW
                obtain ⟨i, j, k, zs, rfl, rfl, rfl, ms, tw⟩ := hrel
                have hk1 := ms.hk
                have hi1 := ms.hi
                have hj1 := ms.hj
                have hH1 := ms.hH
                have hn1 := ms.hn
                have hz1 := ms.hz
                have MSk : Hid (MS W ys (pass W ys) M n zs i j k) := ms
                have TWk : Hid (Two b0 w ga ca gb cb ys zs wr) := tw
                clear ms tw
                by_cases h1 : i < M
                · have c1 : (i : Int) < ((M : Nat) : Int) := by omega
                  by_cases h2 : j < n
                  · have c2 : (j : Int) < ((n : Nat) : Int) := by omega
                    have hin : i < ys.length := by omega
                    have hjn : j < ys.length := by omega
                    have hkn : k < ys.length := by omega
                    have i3 : (i : Int) < (n : Int) := by omega
                    have j3 : (j : Int) < (n : Int) := by omega
                    have k3 : (k : Int) < (n : Int) := by omega
                    obtain ⟨a0, a1, a2, a3, a4, a5⟩ := own_at6 TWk.out.a i hin
                    obtain ⟨e0, e1', e2', e3, e4, e5⟩ := own_at6 TWk.out.a j hjn
                    obtain ⟨x, hx⟩ : ∃ x, x = ys[i] := ⟨_, rfl⟩
                    obtain ⟨y, hy⟩ : ∃ y, y = ys[j] := ⟨_, rfl⟩
                    rw [← hx] at a0 a1 a2 a3 a4 a5
                    rw [← hy] at e0 e1' e2' e3 e4 e5
                    have HX : Hid (x = ys[i]) := hx
                    have HY : Hid (y = ys[j]) := hy
                    clear hx hy
                    go_wp2
                    go_region_held3 (fun w' => w'.cell? ⟨ga, i * 6, none⟩ = some (.int .i32 x.l) ∧ w'.cell? ⟨ga, i * 6 + 1, none⟩ = some (.int .i32 x.c) ∧ w'.cell? ⟨ga, i * 6 + 2, none⟩ = some (.string x.p) ∧ w'.cell? ⟨ga, i * 6 + 3, none⟩ = some (.int .i64 x.s) ∧ w'.cell? ⟨ga, i * 6 + 4, none⟩ = some (.string x.r) ∧ w'.cell? ⟨ga, i * 6 + 5, none⟩ = some (.string x.m) ∧ w'.cell? ⟨ga, j * 6, none⟩ = some (.int .i32 y.l) ∧ w'.cell? ⟨ga, j * 6 + 1, none⟩ = some (.int .i32 y.c) ∧ w'.cell? ⟨ga, j * 6 + 2, none⟩ = some (.string y.p) ∧ w'.cell? ⟨ga, j * 6 + 3, none⟩ = some (.int .i64 y.s) ∧ w'.cell? ⟨ga, j * 6 + 4, none⟩ = some (.string y.r) ∧ w'.cell? ⟨ga, j * 6 + 5, none⟩ = some (.string y.m)) (first | exact ⟨a0, a1, a2, a3, a4, a5, e0, e1', e2', e3, e4, e5⟩ | go_keep)
                      (first | (go_at_call 20; refine (f20 y x _).mono ?_; rintro e w' ⟨rfl, rfl⟩))
                    have TW2 : Hid (Two b0 w ga ca gb cb ys zs ((wr.alloc (boxD y)).alloc (boxD x)).drew) := TWk.out.boxes _ _
                    clear a0 a1 a2 a3 a4 a5 e0 e1' e2' e3 e4 e5 TWk
                    generalize ((wr.alloc (boxD y)).alloc (boxD x)).drew = W2 at TW2 ⊢
                    obtain ⟨a0, a1, a2, a3, a4, a5⟩ := own_at6 TW2.out.a i hin
                    obtain ⟨e0, e1', e2', e3, e4, e5⟩ := own_at6 TW2.out.a j hjn
                    rw [← HX.out] at a0 a1 a2 a3 a4 a5
                    rw [← HY.out] at e0 e1' e2' e3 e4 e5
                    have hkz : k < zs.length := by omega
                    obtain ⟨b0', b1, b2, b3, b4, b5⟩ := own_at6 TW2.out.b k hkz
                    have fz := fun q => World.ownsRow.frozenAt TW2.out.b q
                    have f0 := fz (k * 6)
                    have f1 := fz (k * 6 + 1)
                    have f2 := fz (k * 6 + 2)
                    have f3 := fz (k * 6 + 3)
                    have f4 := fz (k * 6 + 4)
                    have f5 := fz (k * 6 + 5)
                    clear fz
                    by_cases hc : cmpD y x < 0
                    · have M2 : Hid (MS W ys (pass W ys) M n (zs.set k y) i (j + 1) (k + 1)) := by
                        have := MSk.out.right h1 h2 hin hjn (by rw [← HX.out, ← HY.out]; exact hc)
                        rw [← HY.out] at this
                        exact this
                      have TW3 : Hid (Two _ _ _ _ _ _ _ _ _) := TW2.out.store k hkz y
                      clear TW2 MSk HX HY
                      go_wp2
                      go_roundw
                      case rel => exact ⟨i, j + 1, k + 1, zs.set k y, rfl, by go_num, by go_num, M2.out, TW3.out⟩
                      case measure => simp [intOf]; omega
                    · have hc' : ¬ cmpD y x < 0 := hc
                      have M2 : Hid (MS W ys (pass W ys) M n (zs.set k x) (i + 1) j (k + 1)) := by
                        have := MSk.out.left h1 h2 hin hjn (by rw [← HX.out, ← HY.out]; exact hc)
                        rw [← HX.out] at this
                        exact this
                      have TW3 : Hid (Two _ _ _ _ _ _ _ _ _) := TW2.out.store k hkz x
                      clear TW2 MSk HX HY
                      go_wp2
                      go_roundw
                      case rel => exact ⟨i + 1, j, k + 1, zs.set k x, by go_num, rfl, by go_num, M2.out, TW3.out⟩
                      case measure => simp [intOf]; omega
                  · have hd : j = n ∨ i = M := by omega
                    have c2 : ((n : Nat) : Int) ≤ (j : Int) := by omega
                    go_wp2
                    go_loopw [9, 11] (fun vi vk wq => ∃ i k : Nat, ∃ zs, vi = .int .i64 i ∧ vk = .int .i64 k ∧ (j = n ∨ i = M) ∧ MS W ys (pass W ys) M n zs i j k ∧ Two b0 w ga ca gb cb ys zs wq) (fun vi _ _ => M - (intOf vi).toNat)
                    case atStart => exact ⟨i, k, zs, rfl, rfl, hd, MSk.out, TWk.out⟩
                    case round =>
                      clear MSk TWk hk1 hi1 hj1 hH1 hn1 hz1 hd
                      clear h1
                      obtain ⟨i, k, zs, rfl, rfl, hd, ms, tw⟩ := hrel
                      have hk1 := ms.hk
                      have hi1 := ms.hi
                      have hj1 := ms.hj
                      have hH1 := ms.hH
                      have hn1 := ms.hn
                      have hz1 := ms.hz
                      have MSk : Hid (MS W ys (pass W ys) M n zs i j k) := ms
                      have TWk : Hid (Two b0 w ga ca gb cb ys zs wr) := tw
                      clear ms tw
                      by_cases h1 : i < M
                      · have c1 : (i : Int) < ((M : Nat) : Int) := by omega
                        have hin : i < ys.length := by omega
                        have hkz : k < zs.length := by omega
                        have i3 : (i : Int) < (n : Int) := by omega
                        have k3 : (k : Int) < (n : Int) := by omega
                        obtain ⟨a0, a1, a2, a3, a4, a5⟩ := own_at6 TWk.out.a i hin
                        obtain ⟨b0', b1, b2, b3, b4, b5⟩ := own_at6 TWk.out.b k hkz
                        have fz := fun q => World.ownsRow.frozenAt TWk.out.b q
                        have f0 := fz (k * 6)
                        have f1 := fz (k * 6 + 1)
                        have f2 := fz (k * 6 + 2)
                        have f3 := fz (k * 6 + 3)
                        have f4 := fz (k * 6 + 4)
                        have f5 := fz (k * 6 + 5)
                        clear fz
                        have M2 : Hid (MS W ys (pass W ys) M n (zs.set k ys[i]) (i + 1) j (k + 1)) := MSk.out.left' h1 (by omega) hin
                        have TW3 : Hid (Two _ _ _ _ _ _ _ _ _) := TWk.out.store k hkz ys[i]
                        obtain ⟨x, hx⟩ : ∃ x, x = ys[i] := ⟨_, rfl⟩
                        rw [← hx] at a0 a1 a2 a3 a4 a5 M2 TW3
                        clear TWk MSk hx
                        go_wp2
                        go_roundw
                        case rel => exact ⟨i + 1, k + 1, zs.set k x, by go_num, by go_num, by omega, M2.out, TW3.out⟩
                        case measure => simp [intOf]; omega
                      · have him : i = M := by omega
                        have c1 : ((M : Nat) : Int) ≤ (i : Int) := by omega
                        have c3 : decide (i < M) = false := by simp; omega
                        go_wp2
                        go_loopw [10, 11] (fun vj vk wq => ∃ j k : Nat, ∃ zs, vj = .int .i64 j ∧ vk = .int .i64 k ∧ MS W ys (pass W ys) M n zs i j k ∧ Two b0 w ga ca gb cb ys zs wq) (fun vj _ _ => n - (intOf vj).toNat)
                        case atStart => exact ⟨j, k, zs, rfl, rfl, MSk.out, TWk.out⟩
                        case round =>
                          clear MSk TWk hk1 hi1 hj1 hH1 hn1 hz1 hd
                          obtain ⟨j, k, zs, rfl, rfl, ms, tw⟩ := hrel
                          have hk1 := ms.hk
                          have hi1 := ms.hi
                          have hj1 := ms.hj
                          have hH1 := ms.hH
                          have hn1 := ms.hn
                          have hz1 := ms.hz
                          have MSk : Hid (MS W ys (pass W ys) M n zs i j k) := ms
                          have TWk : Hid (Two b0 w ga ca gb cb ys zs wr) := tw
                          clear ms tw
                          by_cases h5 : j < n
                          · have c2 : (j : Int) < ((n : Nat) : Int) := by omega
                            have hjn : j < ys.length := by omega
                            have hkz : k < zs.length := by omega
                            have j3 : (j : Int) < (n : Int) := by omega
                            have k3 : (k : Int) < (n : Int) := by omega
                            obtain ⟨a0, a1, a2, a3, a4, a5⟩ := own_at6 TWk.out.a j hjn
                            obtain ⟨b0', b1, b2, b3, b4, b5⟩ := own_at6 TWk.out.b k hkz
                            have fz := fun q => World.ownsRow.frozenAt TWk.out.b q
                            have f0 := fz (k * 6)
                            have f1 := fz (k * 6 + 1)
                            have f2 := fz (k * 6 + 2)
                            have f3 := fz (k * 6 + 3)
                            have f4 := fz (k * 6 + 4)
                            have f5 := fz (k * 6 + 5)
                            clear fz
                            have M2 : Hid (MS W ys (pass W ys) M n (zs.set k ys[j]) i (j + 1) (k + 1)) := MSk.out.right' him h5 hjn
                            have TW3 : Hid (Two _ _ _ _ _ _ _ _ _) := TWk.out.store k hkz ys[j]
                            obtain ⟨x, hx⟩ : ∃ x, x = ys[j] := ⟨_, rfl⟩
                            rw [← hx] at a0 a1 a2 a3 a4 a5 M2 TW3
                            clear TWk MSk hx
                            go_wp2
                            go_roundw
                            case rel => exact ⟨j + 1, k + 1, zs.set k x, by go_num, by go_num, M2.out, TW3.out⟩
                            case measure => simp [intOf]; omega
                          · have c4 : ((n : Nat) : Int) ≤ (j : Int) := by omega
                            have F := MSk.out.fin HH.out him (by omega)
                            have HF : Hid (List.take (lo + 2 * W) zs ++ pass W (List.drop (lo + 2 * W) ys) = pass W ys) := F
                            have hjH : j = n := by omega
                            have hz2 : zs.length = n := by omega
                            clear F MSk him c1 c3 hk1 hi1 hj1 hH1 hn1 hz1 h5 c4 h1
                            subst hjH
                            go_wp2
                            go_roundw
                            case rel => exact ⟨lo + 2 * W, zs, by go_num, by omega, hz2, HF.out, TWk.out⟩
                            case measure => simp [intOf]; omega
                · have hd : j = n ∨ i = M := by omega
                  have c1 : ((M : Nat) : Int) ≤ (i : Int) := by omega
                  go_wp2
                  go_loopw [9, 11] (fun vi vk wq => ∃ i k : Nat, ∃ zs, vi = .int .i64 i ∧ vk = .int .i64 k ∧ (j = n ∨ i = M) ∧ MS W ys (pass W ys) M n zs i j k ∧ Two b0 w ga ca gb cb ys zs wq) (fun vi _ _ => M - (intOf vi).toNat)
                  case atStart => exact ⟨i, k, zs, rfl, rfl, hd, MSk.out, TWk.out⟩
                  case round =>
                    clear MSk TWk hk1 hi1 hj1 hH1 hn1 hz1 hd
                    clear h1
                    obtain ⟨i, k, zs, rfl, rfl, hd, ms, tw⟩ := hrel
                    have hk1 := ms.hk
                    have hi1 := ms.hi
                    have hj1 := ms.hj
                    have hH1 := ms.hH
                    have hn1 := ms.hn
                    have hz1 := ms.hz
                    have MSk : Hid (MS W ys (pass W ys) M n zs i j k) := ms
                    have TWk : Hid (Two b0 w ga ca gb cb ys zs wr) := tw
                    clear ms tw
                    by_cases h1 : i < M
                    · have c1 : (i : Int) < ((M : Nat) : Int) := by omega
                      have hin : i < ys.length := by omega
                      have hkz : k < zs.length := by omega
                      have i3 : (i : Int) < (n : Int) := by omega
                      have k3 : (k : Int) < (n : Int) := by omega
                      obtain ⟨a0, a1, a2, a3, a4, a5⟩ := own_at6 TWk.out.a i hin
                      obtain ⟨b0', b1, b2, b3, b4, b5⟩ := own_at6 TWk.out.b k hkz
                      have fz := fun q => World.ownsRow.frozenAt TWk.out.b q
                      have f0 := fz (k * 6)
                      have f1 := fz (k * 6 + 1)
                      have f2 := fz (k * 6 + 2)
                      have f3 := fz (k * 6 + 3)
                      have f4 := fz (k * 6 + 4)
                      have f5 := fz (k * 6 + 5)
                      clear fz
                      have M2 : Hid (MS W ys (pass W ys) M n (zs.set k ys[i]) (i + 1) j (k + 1)) := MSk.out.left' h1 (by omega) hin
                      have TW3 : Hid (Two _ _ _ _ _ _ _ _ _) := TWk.out.store k hkz ys[i]
                      obtain ⟨x, hx⟩ : ∃ x, x = ys[i] := ⟨_, rfl⟩
                      rw [← hx] at a0 a1 a2 a3 a4 a5 M2 TW3
                      clear TWk MSk hx
                      go_wp2
                      go_roundw
                      case rel => exact ⟨i + 1, k + 1, zs.set k x, by go_num, by go_num, by omega, M2.out, TW3.out⟩
                      case measure => simp [intOf]; omega
                    · have him : i = M := by omega
                      have c1 : ((M : Nat) : Int) ≤ (i : Int) := by omega
                      have c3 : decide (i < M) = false := by simp; omega
                      go_wp2
                      go_loopw [10, 11] (fun vj vk wq => ∃ j k : Nat, ∃ zs, vj = .int .i64 j ∧ vk = .int .i64 k ∧ MS W ys (pass W ys) M n zs i j k ∧ Two b0 w ga ca gb cb ys zs wq) (fun vj _ _ => n - (intOf vj).toNat)
                      case atStart => exact ⟨j, k, zs, rfl, rfl, MSk.out, TWk.out⟩
                      case round =>
                        clear MSk TWk hk1 hi1 hj1 hH1 hn1 hz1 hd
                        obtain ⟨j, k, zs, rfl, rfl, ms, tw⟩ := hrel
                        have hk1 := ms.hk
                        have hi1 := ms.hi
                        have hj1 := ms.hj
                        have hH1 := ms.hH
                        have hn1 := ms.hn
                        have hz1 := ms.hz
                        have MSk : Hid (MS W ys (pass W ys) M n zs i j k) := ms
                        have TWk : Hid (Two b0 w ga ca gb cb ys zs wr) := tw
                        clear ms tw
                        by_cases h5 : j < n
                        · have c2 : (j : Int) < ((n : Nat) : Int) := by omega
                          have hjn : j < ys.length := by omega
                          have hkz : k < zs.length := by omega
                          have j3 : (j : Int) < (n : Int) := by omega
                          have k3 : (k : Int) < (n : Int) := by omega
                          obtain ⟨a0, a1, a2, a3, a4, a5⟩ := own_at6 TWk.out.a j hjn
                          obtain ⟨b0', b1, b2, b3, b4, b5⟩ := own_at6 TWk.out.b k hkz
                          have fz := fun q => World.ownsRow.frozenAt TWk.out.b q
                          have f0 := fz (k * 6)
                          have f1 := fz (k * 6 + 1)
                          have f2 := fz (k * 6 + 2)
                          have f3 := fz (k * 6 + 3)
                          have f4 := fz (k * 6 + 4)
                          have f5 := fz (k * 6 + 5)
                          clear fz
                          have M2 : Hid (MS W ys (pass W ys) M n (zs.set k ys[j]) i (j + 1) (k + 1)) := MSk.out.right' him h5 hjn
                          have TW3 : Hid (Two _ _ _ _ _ _ _ _ _) := TWk.out.store k hkz ys[j]
                          obtain ⟨x, hx⟩ : ∃ x, x = ys[j] := ⟨_, rfl⟩
                          rw [← hx] at a0 a1 a2 a3 a4 a5 M2 TW3
                          clear TWk MSk hx
                          go_wp2
                          go_roundw
                          case rel => exact ⟨j + 1, k + 1, zs.set k x, by go_num, by go_num, M2.out, TW3.out⟩
                          case measure => simp [intOf]; omega
                        · have c4 : ((n : Nat) : Int) ≤ (j : Int) := by omega
                          have F := MSk.out.fin HH.out him (by omega)
                          have HF : Hid (List.take (lo + 2 * W) zs ++ pass W (List.drop (lo + 2 * W) ys) = pass W ys) := F
                          have hjH : j = n := by omega
                          have hz2 : zs.length = n := by omega
                          clear F MSk him c1 c3 hk1 hi1 hj1 hH1 hn1 hz1 h5 c4 h1
                          subst hjH
                          go_wp2
                          go_roundw
                          case rel => exact ⟨lo + 2 * W, zs, by go_num, by omega, hz2, HF.out, TWk.out⟩
                          case measure => simp [intOf]; omega
          · have m2 : (n : Int) < (M : Int) := by omega
            have m4 : (n : Int) < (H : Int) := by omega
            have d1 : n < M := by omega
            have d2 : n < H := by omega
            have MS0 : Hid (MS W ys (pass W ys) n n zs lo n lo) := MS.start (by omega) (by omega) (by omega) (by omega) (by omega) E.out
            have HH : Hid (n = min (lo + 2 * W) ys.length) := by
              show n = min (lo + 2 * W) ys.length
              omega
            clear E hM hH
            go_wp2
            go_loopw [9, 10, 11] (fun vi vj vk wq => ∃ i j k : Nat, ∃ zs, vi = .int .i64 i ∧ vj = .int .i64 j ∧ vk = .int .i64 k ∧ MS W ys (pass W ys) n n zs i j k ∧ Two b0 w ga ca gb cb ys zs wq) (fun vi vj _ _ => n - (intOf vi).toNat + (n - (intOf vj).toNat))
            case atStart => exact ⟨lo, n, lo, zs, rfl, by first | rfl | simp, rfl, MS0.out, TW.out⟩
            case round =>
              clear MS0 TW
              obtain ⟨i, j, k, zs, rfl, rfl, rfl, ms, tw⟩ := hrel
              have hk1 := ms.hk
              have hi1 := ms.hi
              have hj1 := ms.hj
              have hH1 := ms.hH
              have hn1 := ms.hn
              have hz1 := ms.hz
              have MSk : Hid (MS W ys (pass W ys) n n zs i j k) := ms
              have TWk : Hid (Two b0 w ga ca gb cb ys zs wr) := tw
              clear ms tw
              by_cases h1 : i < n
              · have c1 : (i : Int) < ((n : Nat) : Int) := by omega
                by_cases h2 : j < n
                · exact absurd h2 (by omega)
                · have hd : j = n ∨ i = n := by omega
                  have c2 : ((n : Nat) : Int) ≤ (j : Int) := by omega
                  go_wp2
                  go_loopw [9, 11] (fun vi vk wq => ∃ i k : Nat, ∃ zs, vi = .int .i64 i ∧ vk = .int .i64 k ∧ (j = n ∨ i = n) ∧ MS W ys (pass W ys) n n zs i j k ∧ Two b0 w ga ca gb cb ys zs wq) (fun vi _ _ => n - (intOf vi).toNat)
                  case atStart => exact ⟨i, k, zs, rfl, rfl, hd, MSk.out, TWk.out⟩
                  case round =>
                    clear MSk TWk hk1 hi1 hj1 hH1 hn1 hz1 hd
                    clear h1
                    obtain ⟨i, k, zs, rfl, rfl, hd, ms, tw⟩ := hrel
                    have hk1 := ms.hk
                    have hi1 := ms.hi
                    have hj1 := ms.hj
                    have hH1 := ms.hH
                    have hn1 := ms.hn
                    have hz1 := ms.hz
                    have MSk : Hid (MS W ys (pass W ys) n n zs i j k) := ms
                    have TWk : Hid (Two b0 w ga ca gb cb ys zs wr) := tw
                    clear ms tw
                    by_cases h1 : i < n
                    · have c1 : (i : Int) < ((n : Nat) : Int) := by omega
                      have hin : i < ys.length := by omega
                      have hkz : k < zs.length := by omega
                      have i3 : (i : Int) < (n : Int) := by omega
                      have k3 : (k : Int) < (n : Int) := by omega
                      obtain ⟨a0, a1, a2, a3, a4, a5⟩ := own_at6 TWk.out.a i hin
                      obtain ⟨b0', b1, b2, b3, b4, b5⟩ := own_at6 TWk.out.b k hkz
                      have fz := fun q => World.ownsRow.frozenAt TWk.out.b q
                      have f0 := fz (k * 6)
                      have f1 := fz (k * 6 + 1)
                      have f2 := fz (k * 6 + 2)
                      have f3 := fz (k * 6 + 3)
                      have f4 := fz (k * 6 + 4)
                      have f5 := fz (k * 6 + 5)
                      clear fz
                      have M2 : Hid (MS W ys (pass W ys) n n (zs.set k ys[i]) (i + 1) j (k + 1)) := MSk.out.left' h1 (by omega) hin
                      have TW3 : Hid (Two _ _ _ _ _ _ _ _ _) := TWk.out.store k hkz ys[i]
                      obtain ⟨x, hx⟩ : ∃ x, x = ys[i] := ⟨_, rfl⟩
                      rw [← hx] at a0 a1 a2 a3 a4 a5 M2 TW3
                      clear TWk MSk hx
                      go_wp2
                      go_roundw
                      case rel => exact ⟨i + 1, k + 1, zs.set k x, by go_num, by go_num, by omega, M2.out, TW3.out⟩
                      case measure => simp [intOf]; omega
                    · have him : i = n := by omega
                      have c1 : ((n : Nat) : Int) ≤ (i : Int) := by omega
                      have c3 : decide (i < n) = false := by simp; omega
                      go_wp2
                      go_loopw [10, 11] (fun vj vk wq => ∃ j k : Nat, ∃ zs, vj = .int .i64 j ∧ vk = .int .i64 k ∧ MS W ys (pass W ys) n n zs i j k ∧ Two b0 w ga ca gb cb ys zs wq) (fun vj _ _ => n - (intOf vj).toNat)
                      case atStart => exact ⟨j, k, zs, rfl, rfl, MSk.out, TWk.out⟩
                      case round =>
                        clear MSk TWk hk1 hi1 hj1 hH1 hn1 hz1 hd
                        obtain ⟨j, k, zs, rfl, rfl, ms, tw⟩ := hrel
                        have hk1 := ms.hk
                        have hi1 := ms.hi
                        have hj1 := ms.hj
                        have hH1 := ms.hH
                        have hn1 := ms.hn
                        have hz1 := ms.hz
                        have MSk : Hid (MS W ys (pass W ys) n n zs i j k) := ms
                        have TWk : Hid (Two b0 w ga ca gb cb ys zs wr) := tw
                        clear ms tw
                        by_cases h5 : j < n
                        · exact absurd h5 (by omega)
                        · have c4 : ((n : Nat) : Int) ≤ (j : Int) := by omega
                          have F := MSk.out.fin HH.out him (by omega)
                          have HF : Hid (List.take (lo + 2 * W) zs ++ pass W (List.drop (lo + 2 * W) ys) = pass W ys) := F
                          have hjH : j = n := by omega
                          have hz2 : zs.length = n := by omega
                          clear F MSk him c1 c3 hk1 hi1 hj1 hH1 hn1 hz1 h5 c4 h1
                          subst hjH
                          go_wp2
                          go_roundw
                          case rel => exact ⟨lo + 2 * W, zs, by go_num, by omega, hz2, HF.out, TWk.out⟩
                          case measure => simp [intOf]; omega
              · have hd : j = n ∨ i = n := by omega
                have c1 : ((n : Nat) : Int) ≤ (i : Int) := by omega
                go_wp2
                go_loopw [9, 11] (fun vi vk wq => ∃ i k : Nat, ∃ zs, vi = .int .i64 i ∧ vk = .int .i64 k ∧ (j = n ∨ i = n) ∧ MS W ys (pass W ys) n n zs i j k ∧ Two b0 w ga ca gb cb ys zs wq) (fun vi _ _ => n - (intOf vi).toNat)
                case atStart => exact ⟨i, k, zs, rfl, rfl, hd, MSk.out, TWk.out⟩
                case round =>
                  clear MSk TWk hk1 hi1 hj1 hH1 hn1 hz1 hd
                  clear h1
                  obtain ⟨i, k, zs, rfl, rfl, hd, ms, tw⟩ := hrel
                  have hk1 := ms.hk
                  have hi1 := ms.hi
                  have hj1 := ms.hj
                  have hH1 := ms.hH
                  have hn1 := ms.hn
                  have hz1 := ms.hz
                  have MSk : Hid (MS W ys (pass W ys) n n zs i j k) := ms
                  have TWk : Hid (Two b0 w ga ca gb cb ys zs wr) := tw
                  clear ms tw
                  by_cases h1 : i < n
                  · have c1 : (i : Int) < ((n : Nat) : Int) := by omega
                    have hin : i < ys.length := by omega
                    have hkz : k < zs.length := by omega
                    have i3 : (i : Int) < (n : Int) := by omega
                    have k3 : (k : Int) < (n : Int) := by omega
                    obtain ⟨a0, a1, a2, a3, a4, a5⟩ := own_at6 TWk.out.a i hin
                    obtain ⟨b0', b1, b2, b3, b4, b5⟩ := own_at6 TWk.out.b k hkz
                    have fz := fun q => World.ownsRow.frozenAt TWk.out.b q
                    have f0 := fz (k * 6)
                    have f1 := fz (k * 6 + 1)
                    have f2 := fz (k * 6 + 2)
                    have f3 := fz (k * 6 + 3)
                    have f4 := fz (k * 6 + 4)
                    have f5 := fz (k * 6 + 5)
                    clear fz
                    have M2 : Hid (MS W ys (pass W ys) n n (zs.set k ys[i]) (i + 1) j (k + 1)) := MSk.out.left' h1 (by omega) hin
                    have TW3 : Hid (Two _ _ _ _ _ _ _ _ _) := TWk.out.store k hkz ys[i]
                    obtain ⟨x, hx⟩ : ∃ x, x = ys[i] := ⟨_, rfl⟩
                    rw [← hx] at a0 a1 a2 a3 a4 a5 M2 TW3
                    clear TWk MSk hx
                    go_wp2
                    go_roundw
                    case rel => exact ⟨i + 1, k + 1, zs.set k x, by go_num, by go_num, by omega, M2.out, TW3.out⟩
                    case measure => simp [intOf]; omega
                  · have him : i = n := by omega
                    have c1 : ((n : Nat) : Int) ≤ (i : Int) := by omega
                    have c3 : decide (i < n) = false := by simp; omega
                    go_wp2
                    go_loopw [10, 11] (fun vj vk wq => ∃ j k : Nat, ∃ zs, vj = .int .i64 j ∧ vk = .int .i64 k ∧ MS W ys (pass W ys) n n zs i j k ∧ Two b0 w ga ca gb cb ys zs wq) (fun vj _ _ => n - (intOf vj).toNat)
                    case atStart => exact ⟨j, k, zs, rfl, rfl, MSk.out, TWk.out⟩
                    case round =>
                      clear MSk TWk hk1 hi1 hj1 hH1 hn1 hz1 hd
                      obtain ⟨j, k, zs, rfl, rfl, ms, tw⟩ := hrel
                      have hk1 := ms.hk
                      have hi1 := ms.hi
                      have hj1 := ms.hj
                      have hH1 := ms.hH
                      have hn1 := ms.hn
                      have hz1 := ms.hz
                      have MSk : Hid (MS W ys (pass W ys) n n zs i j k) := ms
                      have TWk : Hid (Two b0 w ga ca gb cb ys zs wr) := tw
                      clear ms tw
                      by_cases h5 : j < n
                      · exact absurd h5 (by omega)
                      · have c4 : ((n : Nat) : Int) ≤ (j : Int) := by omega
                        have F := MSk.out.fin HH.out him (by omega)
                        have HF : Hid (List.take (lo + 2 * W) zs ++ pass W (List.drop (lo + 2 * W) ys) = pass W ys) := F
                        have hjH : j = n := by omega
                        have hz2 : zs.length = n := by omega
                        clear F MSk him c1 c3 hk1 hi1 hj1 hH1 hn1 hz1 h5 c4 h1
                        subst hjH
                        go_wp2
                        go_roundw
                        case rel => exact ⟨lo + 2 * W, zs, by go_num, by omega, hz2, HF.out, TWk.out⟩
                        case measure => simp [intOf]; omega
        · have l1 : (n : Int) ≤ (lo : Int) := by omega
          have ez : zs = pass W ys := by
            have := E.out
            rw [List.take_of_length_le (by omega), List.drop_eq_nil_of_le (by omega), pass_nil, List.append_nil] at this
            exact this
          have HQ : Hid (zs.Perm xs) := by rw [ez]; exact (pass_perm W (by omega) ys).trans HP.out
          have HL : Hid (Blk (2 * W) zs) := by rw [ez]; exact blk_pass W (by omega) ys HK.out
          clear ez E HP HK
          go_wp2
          go_roundw
          case rel => exact ⟨gb, cb, ga, ca, 2 * W, zs, ys, rfl, rfl, by go_num, by omega, by omega, hz, hy, HQ.out, HL.out, TW.out.swap⟩
          case measure => simp [intOf]; omega
    · have w1 : (n : Int) ≤ (W : Int) := by omega
      go_wp2
      go_ret
      exact ⟨ga, ca, ys, rfl, TW.out.a, hy, HP.out, HK.out.all (by omega), TW.out.bl⟩

end Go.Proofs.Qxb6627582a
