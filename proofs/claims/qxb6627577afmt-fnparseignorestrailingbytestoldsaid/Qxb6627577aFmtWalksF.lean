import Derived.Test.Qxb6627577aFmtWalksE
namespace Go.Proofs.Qxb6627577aFmt
open Go.RowKit Go.Extern.Stop Go.Stop Go.Extern

set_option maxRecDepth 100000 in
set_option maxHeartbeats 1000000 in
theorem law_nil (F : Interp) (bo : Option Addr) (ex : List Int) (d : Nat) (w : World) (hF : F.answers w.tape) (h : ex.length ≤ 1048576) (hb : Came2 w bo ex)
    (hbd : ∀ j, 0 ≤ ex.getD j 0 ∧ ex.getD j 0 ≤ 255) :
    Calls Tryf.prog 3 #[.slice none 0 0, .slice bo ex.length d] w fun e w' => e = .returned (.bool true) ∧ Below w.heap.size w w' := by
  have hm1 := make1 ex.length (by omega)
  go_enter Tryf.func3, Tryf.ntmps3
  go_wp2_with fail
  refine (bytes_ok none bo 0 ex.length 0 d w (by omega)).mono ?_
  rintro e w1 ⟨rfl, rfl⟩
  go_wp2_with fail
  clear hm1
  have hrow3 : RowB (w1.alloc (Obj.cells (madeCells #[Value.int IntKind.u8 0] ex.length) 5)) w1.heap.size (lay ex 0) := by
    rw [lay_zero]; exact RowB.made _ _
  have hB3 : Below w1.heap.size w1 (w1.alloc (Obj.cells (madeCells #[Value.int IntKind.u8 0] ex.length) 5)) := (Below.refl _ _).alloc (Nat.le_refl _) _
  have HE : Hid (Came2 _ _ _) := hb.later hB3
  have HX : Hid (∀ j, j < ex.length → ∀ bb off, bo = some ⟨bb, off, none⟩ → bb < w1.heap.size) := fun j hj bb off e => by
    obtain ⟨bb', off', e', hc'⟩ := hb j hj
    rw [e] at e'
    cases e'
    exact World.block_lt_of_cell? _ _ hc'
  clear hb
  generalize (w1.alloc (Obj.cells (madeCells #[Value.int IntKind.u8 0] ex.length) 5)) = W at *
  go_loopw [7] (fun i wr => i = .int .i64 0 ∧ wr = W) (fun _ _ => 0)
  case atStart => exact ⟨rfl, rfl⟩
  case round =>
    obtain ⟨rfl, hwr⟩ := hrel
    rw [hwr]
    clear hwr wr
    go_wp2
    go_loopw [8] (fun i wq => ∃ k : Nat, k ≤ ex.length ∧ i = .int .i64 k ∧ RowB wq w1.heap.size (lay ex k) ∧ Below w1.heap.size W wq) (fun i _ => ex.length - (intOf i).toNat)
    case atStart => exact ⟨0, by omega, rfl, hrow3, Below.refl _ _⟩
    case round =>
      obtain ⟨k, hk, rfl, hrowk, hbk⟩ := hrel
      by_cases hlt : k < ex.length
      · obtain ⟨x, hx⟩ : ∃ x, x = ex.getD k 0 := ⟨_, rfl⟩
        obtain ⟨bb, off, hbo, hcc⟩ := HE.out k hlt
        have hbb := HX.out k hlt bb off hbo
        have c1 := (hbk.cell (p := ⟨bb, off + k, none⟩) hbb).trans hcc
        rw [← hx] at c1
        obtain ⟨v, c2⟩ := lay_cell hrowk hlt
        have c3 := hrowk.frozen k
        have R := lay_step hrowk hbk hlt x hx
        have i2 : (k : Int) < (ex.length : Int) := by omega
        clear hrowk hbk hx hcc hbb
        go_wp2
        go_roundw
        case rel => exact ⟨k + 1, by omega, by go_num, R.1, R.2⟩
        case measure => simp [intOf]; omega
      · obtain rfl : k = ex.length := by omega
        have hYh : Byt wr w1.heap.size ex := by
          rw [lay_all] at hrowk
          exact hrowk.byt hbd
        have hBw : Below w1.heap.size w1 wr := hB3.trans hbk
        have hFw : F.answers wr.tape := by rw [hBw.tape]; exact hF
        clear hrowk hbk HE HX hrow3 hB3 hF hbd
        go_wp2_with fail
        refine (parse_short F none 0 0 wr hFw (by omega)).mono ?_
        rintro e wa ⟨⟨v, rfl, y, rfl⟩, hBa⟩
        have hP := parse_any F w1.heap.size ex ex.length wa (by rw [hBa.tape]; exact hFw) (hYh.later hBa) (by omega) (Nat.le_refl _)
        have HP : Hid (Calls Tryf.prog 5 _ _ _) := hP
        clear hP
        go_wp2_with fail
        refine HP.out.mono ?_
        rintro e wb ⟨⟨p, v, rfl⟩, hBb⟩
        have hBB := (hBw.trans (hBa.mono hBw.size))
        have hBC := hBB.trans (hBb.mono hBB.size)
        clear HP hBB hBa hBb
        go_wp2
        go_ret
        exact ⟨rfl, hBC⟩

end Go.Proofs.Qxb6627577aFmt
