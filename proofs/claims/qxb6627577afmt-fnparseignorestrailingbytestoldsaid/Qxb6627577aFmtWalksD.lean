import Derived.Test.Qxb6627577aFmtWalksC
namespace Go.Proofs.Qxb6627577aFmt
open Go.RowKit Go.Extern.Stop Go.Stop Go.Extern

/-- what Parse hands back where it refuses -/
def ParseErr (w : World) (e : Ending) (w' : World) : Prop := (∃ v, e = .returned (.tuple #[.pointer none, v]) ∧ IsErr v) ∧ Below w.heap.size w w'

theorem parse_short (F : Interp) (a : Option Addr) (n c : Nat) (w : World) (hF : F.answers w.tape) (hn : n < 54) :
    Calls Tryf.prog 5 #[.slice a n c] w fun e w' => ParseErr w e w' := by
  go_enter Tryf.func5, Tryf.ntmps5
  go_wp2_with fail
  refine (split_short F a n c w hF hn).mono ?_
  rintro e w1 ⟨⟨v, rfl, x, rfl⟩, hB1⟩
  go_wp2
  go_ret2
  exact ⟨⟨_, rfl, ⟨_, rfl⟩⟩, hB1⟩

theorem parse_none (F : Interp) (g : Nat) (bs : List Int) (c : Nat) (w : World) (hF : F.answers w.tape) (hb : Byt w g bs) (hn2 : bs.length ≤ 2097152) (hc : bs.length ≤ c) (hfr : frameOf bs = none) :
    Calls Tryf.prog 5 #[.slice (some ⟨g, 0, none⟩) bs.length c] w fun e w' => ParseErr w e w' := by
  by_cases hn : bs.length < 54
  · exact parse_short F _ _ c w hF hn
  · go_enter Tryf.func5, Tryf.ntmps5
    go_wp2_with fail
    refine (split_any F g bs c w hF hb (by omega) hn2 hc).mono ?_
    rintro e w1 hp
    rcases hp with ⟨_, ⟨v, rfl, x, rfl⟩, hB1⟩ | ⟨st', sz', f, h, _⟩
    · clear hfr
      go_wp2
      go_ret2
      exact ⟨⟨_, rfl, ⟨_, rfl⟩⟩, hB1⟩
    · rw [hfr] at h; cases h

set_option maxHeartbeats 1000000 in
theorem same_any (q g n c at0 : Nat) (bs : List Int) (w : World) (hd : ∀ k, k < 64 → w.cell? ⟨q, 368 + k, none⟩ = some (.int .u8 (bs.getD (at0 + k) 0))) (hb : ∀ j, j < n → w.cell? ⟨g, j, none⟩ = some (.int .u8 (bs.getD j 0))) (hn : n ≤ 2097152) (ha : at0 + 64 ≤ n) :
    Calls Tryf.prog 6 #[.slice (some ⟨q, 368, none⟩) 64 64, .slice (some ⟨g, 0, none⟩) n c, .int .i64 at0] w fun e w' => e = .returned (.bool true) ∧ Below w.heap.size w w' := by
  go_enter Tryf.func6, Tryf.ntmps6
  go_wp2
  go_loopw [7] (fun i wr => ∃ k nq : Nat, k ≤ 64 ∧ i = .int .i64 k ∧ wr = w.drewN nq) (fun i _ => 64 - (intOf i).toNat)
  case atStart => exact ⟨0, 0, by omega, rfl, rfl⟩
  case round =>
    obtain ⟨k, nq, hk, rfl, rfl⟩ := hrel
    by_cases hlt : k < 64
    · have c1 := hd k hlt
      have c2 := hb (at0 + k) (by omega)
      have i1 : (k : Int) < 64 := by omega
      have i2 : (at0 : Int) + (k : Int) < (n : Int) := by omega
      clear hd hb
      go_wp2
      go_quiet (fail)
      go_wp2
      go_roundw
      case rel => exact ⟨k + 1, _, by omega, by go_num, rfl⟩
      case measure => simp [intOf]; omega
    · go_wp2
      go_ret
      exact ⟨rfl, below_drewN (Below.refl _ _) _⟩

end Go.Proofs.Qxb6627577aFmt
