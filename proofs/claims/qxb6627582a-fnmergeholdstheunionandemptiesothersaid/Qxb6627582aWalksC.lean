import Derived.Test.Qxb6627582aWalksB
namespace Go.Proofs.Qxb6627582a
open Go.RowKit Go.Sort

theorem Try.cells38 : Try.prog.cellsOf 38 = 6 := by kernel_rfl

set_option maxHeartbeats 400000 in
theorem f18 (a b : Int) (w : World) :
    Calls Try.prog 18 #[.int .i64 a, .int .i64 b] w fun e w' => (∃ r, e = .returned (.int .i64 r)) ∧ w' = w := by
  go_enter Try.func18, Try.ntmps18
  go_wp2
  · go_ret
    exact ⟨⟨_, rfl⟩, rfl⟩
  · go_ret
    exact ⟨⟨_, rfl⟩, rfl⟩

/-- the cells of one Diag at an address -/
def At6 (w : World) (b off : Nat) (d : Dg) : Prop :=
  w.cell? ⟨b, off, none⟩ = some (.int .i32 d.l) ∧ w.cell? ⟨b, off + 1, none⟩ = some (.int .i32 d.c) ∧ w.cell? ⟨b, off + 2, none⟩ = some (.string d.p) ∧
  w.cell? ⟨b, off + 3, none⟩ = some (.int .i64 d.s) ∧ w.cell? ⟨b, off + 4, none⟩ = some (.string d.r) ∧ w.cell? ⟨b, off + 5, none⟩ = some (.string d.m)

/-- a slice of Diags that can be read -/
def DRow (w : World) (bo : Option Addr) (xs : List Dg) : Prop :=
  ∀ i (h : i < xs.length), ∃ b off, bo = some ⟨b, off, none⟩ ∧ At6 w b (off + i * 6) xs[i]

set_option maxHeartbeats 1000000 in
theorem f6 (bo : Option Addr) (cap : Nat) (xs : List Dg) (s : Int) (w : World) (h : DRow w bo xs) (hl : xs.length ≤ 4096) :
    Calls Try.prog 6 #[.slice bo xs.length cap, .int .i64 s] w fun e w' => (∃ r, e = .returned (.int .i64 r)) ∧ w' = w := by
  have H : Hid (DRow w bo xs) := h
  clear h
  go_enter Try.func6, Try.ntmps6
  go_wp2
  go_loopw [8, 1] (fun i s wr => wr = w ∧ ∃ k : Nat, ∃ s' : Int, i = .int .i64 k ∧ k ≤ xs.length ∧ s = .int .i64 s') (fun i _ _ => xs.length - (intOf i).toNat)
  case atStart => exact ⟨rfl, 0, s, rfl, by omega, rfl⟩
  case round =>
    obtain ⟨rfl, k, s, rfl, hk, rfl⟩ := hrel
    by_cases hlt : k < xs.length
    · obtain ⟨b, off, rfl, h0, h1, h2, h3, h4, h5⟩ := H.out k hlt
      have i2 : (k : Int) < (xs.length : Int) := by omega
      go_wp2_with fail
      refine (f18 _ _ _).mono ?_
      rintro e w1 ⟨⟨r1, rfl⟩, rfl⟩
      go_wp2_with fail
      refine (f18 _ _ _).mono ?_
      rintro e w1 ⟨⟨r2, rfl⟩, rfl⟩
      go_wp2_with fail
      refine (f18 _ _ _).mono ?_
      rintro e w1 ⟨⟨r3, rfl⟩, rfl⟩
      go_wp2_with fail
      refine (f18 _ _ _).mono ?_
      rintro e w1 ⟨⟨r4, rfl⟩, rfl⟩
      go_wp2
      · go_ret
        exact ⟨⟨_, rfl⟩, rfl⟩
      · go_roundw
        case rel => exact ⟨by trivial, k + 1, r4, by go_num, by omega, rfl⟩
        case measure => simp [intOf]; omega
    · obtain rfl : k = xs.length := by omega
      go_wp2
      go_ret
      exact ⟨⟨_, rfl⟩, rfl⟩

set_option maxRecDepth 100000 in
set_option maxHeartbeats 4000000 in
theorem f5 (ao : Option Addr) (ac : Nat) (xa : List Dg) (bo : Option Addr) (bc : Nat) (xb : List Dg) (co : Option Addr) (cc : Nat) (xc : List Dg) (dd : Option Addr) (dc : Nat) (xd : List Dg) (w : World) (hao : DRow w ao xa) (hbo : DRow w bo xb) (hco : DRow w co xc) (hdd : DRow w dd xd) :
    Calls Try.prog 5 #[.slice ao xa.length ac, .slice bo xb.length bc, .slice co xc.length cc, .slice dd xd.length dc] w fun e w' => (∃ r, e = .returned (.bool r)) ∧ w' = w := by
  have Hao : Hid (DRow w ao xa) := hao
  have Hbo : Hid (DRow w bo xb) := hbo
  have Hco : Hid (DRow w co xc) := hco
  have Hdd : Hid (DRow w dd xd) := hdd
  clear hao hbo hco hdd
  go_enter Try.func5, Try.ntmps5
  go_wp2
  any_goals (go_ret; exact ⟨⟨_, rfl⟩, rfl⟩)
  go_loopw [9, 10] (fun s i wr => wr = w ∧ ∃ k : Nat, ∃ s' : Int, i = .int .i64 k ∧ k ≤ xa.length ∧ s = .int .i64 s') (fun _ i _ => xa.length - (intOf i).toNat)
  case atStart => exact ⟨rfl, 0, _, rfl, by omega, rfl⟩
  case round =>
    obtain ⟨hwr, k, s, rfl, hk, rfl⟩ := hrel
    rw [hwr]
    clear hwr wr
    by_cases hlt : k < xa.length
    · obtain ⟨b, off, rfl, h0, h1, h2, h3, h4, h5⟩ := Hao.out k hlt
      have i2 : (k : Int) < (xa.length : Int) := by omega
      clear h0 h1 h3
      go_wp2
      any_goals (go_ret; exact ⟨⟨_, rfl⟩, rfl⟩)
      go_roundw
      case rel => exact ⟨by trivial, k + 1, _, by go_num, by omega, rfl⟩
      case measure => simp [intOf]; omega
    · obtain rfl : k = xa.length := by omega
      clear hk hlt
      go_wp2
      any_goals (go_ret; exact ⟨⟨_, rfl⟩, rfl⟩)
      go_loopw [9, 11] (fun s i wr => wr = w ∧ ∃ k : Nat, ∃ s' : Int, i = .int .i64 k ∧ k ≤ xb.length ∧ s = .int .i64 s') (fun _ i _ => xb.length - (intOf i).toNat)
      case atStart => exact ⟨rfl, 0, _, rfl, by omega, rfl⟩
      case round =>
        obtain ⟨hwr, k, s, rfl, hk, rfl⟩ := hrel
        rw [hwr]
        clear hwr wr
        by_cases hlt : k < xb.length
        · obtain ⟨b, off, rfl, h0, h1, h2, h3, h4, h5⟩ := Hbo.out k hlt
          have i2 : (k : Int) < (xb.length : Int) := by omega
          clear h0 h1 h3
          go_wp2
          any_goals (go_ret; exact ⟨⟨_, rfl⟩, rfl⟩)
          go_roundw
          case rel => exact ⟨by trivial, k + 1, _, by go_num, by omega, rfl⟩
          case measure => simp [intOf]; omega
        · obtain rfl : k = xb.length := by omega
          clear hk hlt
          go_wp2
          any_goals (go_ret; exact ⟨⟨_, rfl⟩, rfl⟩)
          go_loopw [9, 12] (fun s i wr => wr = w ∧ ∃ k : Nat, ∃ s' : Int, i = .int .i64 k ∧ k ≤ xc.length ∧ s = .int .i64 s') (fun _ i _ => xc.length - (intOf i).toNat)
          case atStart => exact ⟨rfl, 0, _, rfl, by omega, rfl⟩
          case round =>
            obtain ⟨hwr, k, s, rfl, hk, rfl⟩ := hrel
            rw [hwr]
            clear hwr wr
            by_cases hlt : k < xc.length
            · obtain ⟨b, off, rfl, h0, h1, h2, h3, h4, h5⟩ := Hco.out k hlt
              have i2 : (k : Int) < (xc.length : Int) := by omega
              clear h0 h1 h3
              go_wp2
              any_goals (go_ret; exact ⟨⟨_, rfl⟩, rfl⟩)
              go_roundw
              case rel => exact ⟨by trivial, k + 1, _, by go_num, by omega, rfl⟩
              case measure => simp [intOf]; omega
            · obtain rfl : k = xc.length := by omega
              clear hk hlt
              go_wp2
              any_goals (go_ret; exact ⟨⟨_, rfl⟩, rfl⟩)
              go_loopw [9, 13] (fun s i wr => wr = w ∧ ∃ k : Nat, ∃ s' : Int, i = .int .i64 k ∧ k ≤ xd.length ∧ s = .int .i64 s') (fun _ i _ => xd.length - (intOf i).toNat)
              case atStart => exact ⟨rfl, 0, _, rfl, by omega, rfl⟩
              case round =>
                obtain ⟨hwr, k, s, rfl, hk, rfl⟩ := hrel
                rw [hwr]
                clear hwr wr
                by_cases hlt : k < xd.length
                · obtain ⟨b, off, rfl, h0, h1, h2, h3, h4, h5⟩ := Hdd.out k hlt
                  have i2 : (k : Int) < (xd.length : Int) := by omega
                  clear h0 h1 h3
                  go_wp2
                  any_goals (go_ret; exact ⟨⟨_, rfl⟩, rfl⟩)
                  go_roundw
                  case rel => exact ⟨by trivial, k + 1, _, by go_num, by omega, rfl⟩
                  case measure => simp [intOf]; omega
                · obtain rfl : k = xd.length := by omega
                  clear hk hlt
                  go_wp2
                  go_ret
                  exact ⟨⟨_, rfl⟩, rfl⟩

set_option maxRecDepth 100000 in
set_option maxHeartbeats 4000000 in
theorem f14 (ao : Option Addr) (ac : Nat) (xa : List Dg) (bo : Option Addr) (bc : Nat) (xb : List Dg) (n1 : Int) (n2 : Int) (n3 : Int) (n4 : Int) (w : World) (hao : DRow w ao xa) (hbo : DRow w bo xb) :
    Calls Try.prog 14 #[.slice ao xa.length ac, .slice bo xb.length bc, .int .i64 n1, .int .i64 n2, .int .i64 n3, .int .i64 n4] w fun e w' => (∃ r, e = .returned (.bool r)) ∧ w' = w := by
  have Hao : Hid (DRow w ao xa) := hao
  have Hbo : Hid (DRow w bo xb) := hbo
  clear hao hbo
  go_enter Try.func14, Try.ntmps14
  go_wp2
  any_goals (go_ret; exact ⟨⟨_, rfl⟩, rfl⟩)
  go_loopw [13, 14] (fun s i wr => wr = w ∧ ∃ k : Nat, ∃ s' : Int, i = .int .i64 k ∧ k ≤ xa.length ∧ s = .int .i64 s') (fun _ i _ => xa.length - (intOf i).toNat)
  case atStart => exact ⟨rfl, 0, _, rfl, by omega, rfl⟩
  case round =>
    obtain ⟨hwr, k, s, rfl, hk, rfl⟩ := hrel
    rw [hwr]
    clear hwr wr
    by_cases hlt : k < xa.length
    · obtain ⟨b, off, rfl, h0, h1, h2, h3, h4, h5⟩ := Hao.out k hlt
      have i2 : (k : Int) < (xa.length : Int) := by omega
      clear h0 h1 h3
      go_wp2
      any_goals (go_ret; exact ⟨⟨_, rfl⟩, rfl⟩)
      go_roundw
      case rel => exact ⟨by trivial, k + 1, _, by go_num, by omega, rfl⟩
      case measure => simp [intOf]; omega
    · obtain rfl : k = xa.length := by omega
      clear hk hlt
      go_wp2
      any_goals (go_ret; exact ⟨⟨_, rfl⟩, rfl⟩)
      go_loopw [13, 15] (fun s i wr => wr = w ∧ ∃ k : Nat, ∃ s' : Int, i = .int .i64 k ∧ k ≤ xb.length ∧ s = .int .i64 s') (fun _ i _ => xb.length - (intOf i).toNat)
      case atStart => exact ⟨rfl, 0, _, rfl, by omega, rfl⟩
      case round =>
        obtain ⟨hwr, k, s, rfl, hk, rfl⟩ := hrel
        rw [hwr]
        clear hwr wr
        by_cases hlt : k < xb.length
        · obtain ⟨b, off, rfl, h0, h1, h2, h3, h4, h5⟩ := Hbo.out k hlt
          have i2 : (k : Int) < (xb.length : Int) := by omega
          clear h0 h1 h3
          go_wp2
          any_goals (go_ret; exact ⟨⟨_, rfl⟩, rfl⟩)
          go_roundw
          case rel => exact ⟨by trivial, k + 1, _, by go_num, by omega, rfl⟩
          case measure => simp [intOf]; omega
        · obtain rfl : k = xb.length := by omega
          clear hk hlt
          go_wp2
          go_ret
          exact ⟨⟨_, rfl⟩, rfl⟩

end Go.Proofs.Qxb6627582a
