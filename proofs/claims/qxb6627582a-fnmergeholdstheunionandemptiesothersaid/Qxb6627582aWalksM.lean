import Derived.Test.Qxb6627582aWalksL
import Derived.BigQuiet
import Derived.Deep.QuietTactic
namespace Go.Proofs.Qxb6627582a
open Go.RowKit Go.Sort

open Classical in
theorem run_eqlE (a b : En) (w : World) : (binOp .eql 55 (valE a) (valE b)).run Try.prog w = .ok (.bool (decide (a = b))) w := by
  have := eq_E a b w
  simp only [binOp, Sem.run_bind, this]
  simp [Result.andThen]

open Classical in
theorem run_neqE (a b : En) (w : World) : (binOp .neq 55 (valE a) (valE b)).run Try.prog w = .ok (.bool (!decide (a = b))) w := by
  have := eq_E a b w
  simp only [binOp, Sem.run_bind, this]
  simp [Result.andThen]

theorem OwnE.drewN {w : World} {g n cap : Nat} {es : List En} (h : OwnE w g n cap es) (q : Nat) : OwnE (w.drewN q) g n cap es := owns_kept h fun _ _ => rfl

set_option maxRecDepth 100000 in
set_option maxHeartbeats 2000000 in
theorem f34 (g cap n : Nat) (es : List En) (w : World) (h : OwnE w g n cap es) (hl : n ≤ 1048576) :
    Calls Try.prog 34 #[.slice (some ⟨g, 0, none⟩) n cap] w fun e w' => ∃ m es', e = .returned (.slice (some ⟨g, 0, none⟩) m cap) ∧ OwnE w' g m cap es' ∧ m ≤ n ∧ (∀ d, d ∈ es' ↔ d ∈ es) ∧ w.grownBy w' (some g) := by
  have hn := own_len3 h
  have hcap : n ≤ cap := by
    rcases h.2 with ⟨h', _⟩ | ⟨g', cap', cur, h', h1, hg, h2, _⟩
    · simp at h'
    · simp only [Value.slice.injEq, Option.some.injEq, Addr.mk.injEq, and_true, true_and] at h'
      obtain ⟨rfl, rfl⟩ := h'
      exact h2
  have hcm : cap ≤ 9223372036854775807 := by
    rcases h.2 with ⟨h', _⟩ | ⟨g', cap', cur, h', h1, hg, h2, h3, _⟩
    · simp at h'
    · simp only [Value.slice.injEq, Option.some.injEq, Addr.mk.injEq, and_true, true_and] at h'
      obtain ⟨rfl, rfl⟩ := h'
      exact h3
  have HO : Hid (OwnE w g n cap es) := h
  clear h
  by_cases h2 : n < 2
  · have i2 : (n : Int) < 2 := by omega
    go_enter Try.func34, Try.ntmps34
    go_wp2
    go_ret
    exact ⟨n, es, rfl, HO.out, Nat.le_refl _, fun _ => Iff.rfl, World.grownBy.refl _ _⟩
  · have i2 : (2 : Int) ≤ (n : Int) := by omega
    have i2' : decide ((n : Int) < 2) = false := by simp; omega
    have i2'' : decide (n < 2) = false := by simp; omega
    have HCM : Hid (cap ≤ 9223372036854775807) := hcm
    clear hcm
    go_enter Try.func34, Try.ntmps34
    go_wp2
    go_loopw [3] (fun vk wr => ∃ k q : Nat, vk = .int .i64 k ∧ 1 ≤ k ∧ k ≤ n ∧ wr = w.drewN q) (fun vk _ => n - (intOf vk).toNat)
    case atStart => exact ⟨1, 0, rfl, by omega, by omega, rfl⟩
    case round =>
      obtain ⟨k, q, rfl, hk1, hk, rfl⟩ := hrel
      by_cases hlt : k < n
      · have i3 : (k : Int) < (n : Int) := by omega
        obtain ⟨m, hm⟩ : ∃ m, k = m + 1 := ⟨k - 1, by omega⟩
        have hke : k < es.length := by omega
        have hme : m < es.length := by omega
        have HMk : Hid (k = m + 1) := hm
        have m1 : (k : Int) - 1 = (m : Int) := by omega
        have m6 : IntKind.i64.wrap (m : Int) = (m : Int) := by simp [IntKind.wrap, IntKind.bits, IntKind.signed]; omega
        have m7 : (0 : Int) ≤ (m : Int) := by omega
        have m8 : IntKind.i64.wrap ((k : Int) - 1) = (m : Int) := by rw [m1]; exact m6
        have m9 : (m : Int) < (n : Int) := by omega
        clear hm
        obtain ⟨a0, a1, a2⟩ := own_at3 HO.out k (k * 3) hke rfl
        obtain ⟨b0, b1, b2⟩ := own_at3 HO.out m (m * 3) hme rfl
        obtain ⟨x, hx⟩ : ∃ x, x = es[k] := ⟨_, rfl⟩
        obtain ⟨y, hy⟩ : ∃ y, y = es[m] := ⟨_, rfl⟩
        rw [← hx] at a0 a1 a2
        rw [← hy] at b0 b1 b2
        have HX : Hid (x = es[k]) := hx
        have HY : Hid (y = es[m]) := hy
        clear hx hy
        have E1 := fun w => run_eqlE x y w
        by_cases he : x = y
        · go_wp2
          go_quiet (fail)
          clear E1
          have OW : Hid (OwnE ((w.drewN q).drewN nq) g n cap es) := (HO.out.drewN _).drewN _
          have GW : Hid (w.grownBy ((w.drewN q).drewN nq) (some g)) := ⟨rfl, rfl, rfl, Nat.le_refl _, fun _ _ _ => rfl⟩
          have C0 : Hid (CP es es k k 1) := CP.start (by omega) hke (by
            have h1 := HMk.out
            subst h1
            show es[m + 1] = es[m]
            rw [← HX.out, ← HY.out]
            exact he)
          clear a0 a1 a2 b0 b1 b2 HX HY he HO HMk
          generalize ((w.drewN q).drewN nq) = W1 at *
          have z1 : ¬ cap = k := by omega
          have z2 : (k : Int) ≤ (cap : Int) := by omega
          have z3 : (k : Int) ≤ (n : Int) := by omega
          go_wp2
          go_loopw [3, 5] (fun vk v2 wr => ∃ kk k2 : Nat, ∃ cs : List En, vk = .int .i64 kk ∧ v2 = .int .i64 k2 ∧ 1 ≤ k2 ∧ k + k2 ≤ n ∧ CP es cs k kk k2 ∧ OwnE wr g n cap cs ∧ w.grownBy wr (some g)) (fun _ v2 _ => n - (intOf v2).toNat)
          case atStart => exact ⟨k, 1, es, rfl, rfl, by omega, by omega, C0.out, OW.out, GW.out⟩
          case round =>
            clear C0 OW GW
            obtain ⟨kk, k2, cs, rfl, rfl, hk2, hkn, cp, ow, gw⟩ := hrel
            have CPk : Hid (CP es cs k kk k2) := cp
            have OW : Hid (OwnE wr g n cap cs) := ow
            have GW : Hid (w.grownBy wr (some g)) := gw
            have hlen := cp.len
            have hkk := cp.hk
            clear cp ow gw
            by_cases hlt2 : k + k2 < n
            · have j1 : (k2 : Int) < ((n - k : Nat) : Int) := by omega
              have j2 : (k2 : Int) < (n : Int) - (k : Int) := by omega
              obtain ⟨p, hp⟩ : ∃ p, k2 = p + 1 := ⟨k2 - 1, by omega⟩
              have p1 : (k2 : Int) - 1 = (p : Int) := by omega
              have p6 : IntKind.i64.wrap (p : Int) = (p : Int) := by simp [IntKind.wrap, IntKind.bits, IntKind.signed]; omega
              have p7 : (0 : Int) ≤ (p : Int) := by omega
              have p8 : IntKind.i64.wrap ((k2 : Int) - 1) = (p : Int) := by rw [p1]; exact p6
              have p9 : (p : Int) < ((n - k : Nat) : Int) := by omega
              have p10 : (p : Int) < (n : Int) - (k : Int) := by omega
              have hc1 : k + k2 < cs.length := by omega
              have hc2 : k + p < cs.length := by omega
              have he1 : k + k2 < es.length := by omega
              have he2 : k + p < es.length := by omega
              obtain ⟨a0, a1, a2⟩ := own_at3 OW.out (k + k2) (k * 3 + k2 * 3) hc1 (by omega)
              obtain ⟨b0, b1, b2⟩ := own_at3 OW.out (k + p) (k * 3 + p * 3) hc2 (by omega)
              rw [CPk.out.at' (k + k2) (by omega) hc1 he1] at a0 a1 a2
              rw [CPk.out.at' (k + p) (by omega) hc2 he2] at b0 b1 b2
              have HP : Hid (k2 = p + 1) := hp
              clear hp
              obtain ⟨x, hx⟩ : ∃ x, x = es[k + k2] := ⟨_, rfl⟩
              obtain ⟨y, hy⟩ : ∃ y, y = es[k + p] := ⟨_, rfl⟩
              rw [← hx] at a0 a1 a2
              rw [← hy] at b0 b1 b2
              have HX : Hid (x = es[k + k2]) := hx
              have HY : Hid (y = es[k + p]) := hy
              clear hx hy
              have E1 := fun w => run_neqE x y w
              by_cases he : x = y
              · have CP2 : Hid (CP es cs k kk (k2 + 1)) := CPk.out.skip he1 (by omega) (by
                  have h1 := HP.out
                  subst h1
                  show es[k + (p + 1)] = es[k + p]
                  rw [← HX.out, ← HY.out]
                  exact he)
                go_wp2
                go_quiet (fail)
                clear E1
                have OW2 : Hid (OwnE (wr.drewN nq) g n cap cs) := OW.out.drewN _
                have GW2 : Hid (w.grownBy (wr.drewN nq) (some g)) := ⟨GW.out.os, GW.out.tape, GW.out.output, GW.out.size, GW.out.block⟩
                clear a0 a1 a2 b0 b1 b2 OW GW CPk HX HY he
                generalize (wr.drewN nq) = W2 at *
                go_wp2
                go_roundw
                case rel => exact ⟨kk, k2 + 1, cs, rfl, by go_num, by omega, by omega, CP2.out, OW2.out, GW2.out⟩
                case measure => simp [intOf]; omega
              · have CP2 : Hid (CP es (cs.set kk x) k (kk + 1) (k2 + 1)) := by rw [HX.out]; exact CPk.out.take he1
                go_wp2
                go_quiet (fail)
                clear E1
                have OW2 : Hid (OwnE (wr.drewN nq) g n cap cs) := OW.out.drewN _
                have GW2 : Hid (w.grownBy (wr.drewN nq) (some g)) := ⟨GW.out.os, GW.out.tape, GW.out.output, GW.out.size, GW.out.block⟩
                have a0' : (wr.drewN nq).cell? ⟨g, k * 3 + k2 * 3, none⟩ = some (.int .i32 x.l) := a0
                have a1' : (wr.drewN nq).cell? ⟨g, k * 3 + k2 * 3 + 1, none⟩ = some (.int .i32 x.c) := a1
                have a2' : (wr.drewN nq).cell? ⟨g, k * 3 + k2 * 3 + 2, none⟩ = some (.int .i32 (x.n : Nat)) := a2
                clear a0 a1 a2 b0 b1 b2 OW GW CPk HX HY he
                generalize (wr.drewN nq) = W2 at *
                have hkc : kk < cs.length := by omega
                have hki : (kk : Int) < (n : Int) := by omega
                obtain ⟨e0, e1, e2⟩ := own_at3 OW2.out kk (kk * 3) hkc rfl
                have f0 := OW2.out.frozenAt (kk * 3)
                have f1 := OW2.out.frozenAt (kk * 3 + 1)
                have f2 := OW2.out.frozenAt (kk * 3 + 2)
                obtain ⟨r1, r2⟩ := own_store3 OW2.out kk hkc x
                have R1 : Hid (OwnE _ g n cap (cs.set kk x)) := r1
                have R2 : Hid (w.grownBy _ (some g)) := GW2.out.trans r2
                clear r1 r2 OW2 GW2
                go_wp2
                go_roundw
                case rel => exact ⟨kk + 1, k2 + 1, cs.set kk x, by go_num, by go_num, by omega, by omega, CP2.out, R1.out, R2.out⟩
                case measure => simp [intOf]; omega
            · have j1 : ((n - k : Nat) : Int) ≤ (k2 : Int) := by omega
              have j2 : (n : Int) - (k : Int) ≤ (k2 : Int) := by omega
              have hkn2 : kk < n := by omega
              obtain ⟨W3, hcl, o3, g3⟩ := clear_run (cc := cap - kk) OW.out hkn2
              have OW3 : Hid (OwnE W3 g kk cap (cs.take kk)) := o3
              have GW3 : Hid (w.grownBy W3 (some g)) := GW.out.trans g3
              have MM : Hid (∀ d, d ∈ cs.take kk ↔ d ∈ es) := fun d => by rw [CPk.out.mem, List.take_of_length_le (by omega)]
              clear o3 g3 OW GW CPk
              have y1 : ¬ cap = kk := by omega
              have y2 : (kk : Int) ≤ (cap : Int) := by omega
              have y3 : (kk : Int) ≤ (n : Int) := by omega
              go_wp2
              go_ret
              exact ⟨kk, cs.take kk, rfl, OW3.out, by omega, MM.out, GW3.out⟩
        · go_wp2
          go_quiet (fail)
          clear E1
          go_wp2
          go_roundw
          case rel => exact ⟨k + 1, q + nq, by go_num, by omega, by omega, by first | rfl | exact drewN_drewN _ _ _⟩
          case measure => simp [intOf]; omega
      · obtain rfl : n = k := by omega
        go_wp2
        go_ret
        exact ⟨n, es, rfl, HO.out.drewN q, Nat.le_refl _, fun _ => Iff.rfl, rfl, rfl, rfl, Nat.le_refl _, fun _ _ _ => rfl⟩

end Go.Proofs.Qxb6627582a
