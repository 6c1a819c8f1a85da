import Derived.Test.Qxb6627582aWalksM
import Derived.Test.Qxb6627582aSetL
import Derived.Deep.Cut
namespace Go.Proofs.Qxb6627582a
open Go.RowKit Go.Sort

/-- the entries' row holds other entries now -/
theorem Mem.turned {w w1 : World} {sb : Nat} {c : SC} {ms : List Nt} (h : Mem w sb c ms) (es' : List En) (g : w.grownBy w1 c.ev.ownBlock) (o : w1.ownsRow 0 55 3 c.ev es'.length (es'.flatMap encE)) :
    Mem w1 sb { c with es := es' } ms := by
  obtain ⟨n1, n2, n3, n4⟩ := h.sb_ne
  have hsb := heap_lt h.blk
  have hk : ∀ b, b < w.heap.size → c.ev.ownBlock ≠ some b → w1.heap[b]? = w.heap[b]? := fun b hl hb => g.block b hl (fun e => hb e.symm)
  refine ⟨(hk sb hsb n3).trans h.blk, ?_, ?_, o, ?_, h.rc8⟩
  · exact owns_kept h.nts fun b hb => hk b (h.nts.lt b hb).2 (rows_apart h.nts h.ent (by decide) hb)
  · exact owns_kept h.fol fun b hb => hk b (h.fol.lt b hb).2 (rows_apart h.fol h.ent (by decide) hb)
  · exact map_kept h.map fun b hb => hk b (by
      rcases h.map with ⟨h1, _⟩ | ⟨mb, D, h1, ⟨es, cl, hb', _⟩, _⟩
      · rw [hb] at h1; cases h1
      · rw [hb] at h1; cases h1; exact heap_lt hb') fun e => row_map_apart h.ent h.map e hb

theorem Via.turned {sb : Nat} {c : SC} {w w1 : World} (es' : List En) (g : w.grownBy w1 c.ev.ownBlock) : Via sb c { c with es := es' } w w1 :=
  ⟨Frm.of_grownO g fun _ e => .inr (.inr (.inr (.inl e))), fun _ h => .inl h⟩

/-- other entries, as many or fewer, with the same notes -/
theorem Inv.entries {c : SC} {K : Nat} (h : Inv c K) (ev : Value) (es' : List En) (se : Int) (un : Bool) (nx : Int) (hm : ∀ e ∈ es', e ∈ c.es) (hl : es'.length ≤ c.es.length) : Inv { c with ev := ev, es := es', se := se, un := un, nx := nx } K := by
  obtain ⟨j1, j2, j3, j4, j5, j6, j7, j8⟩ := h
  exact ⟨j1, j2, j3, j4, fun e he => j5 e (hm e he), j6, Nat.le_trans hl j7, j8⟩

set_option maxRecDepth 100000 in
set_option maxHeartbeats 2000000 in
theorem f30 (sb K : Nat) (c : SC) (w : World) (h : SetAt w sb c K) (hK : K < 1000000) (hne : 0 < c.es.length) :
    Calls Try.prog 30 #[.pointer (some ⟨sb, 0, none⟩)] w fun e w' => e = .returned (.tuple #[]) ∧ ∃ c' : SC, SetAt w' sb c' K ∧ c'.ns = c.ns ∧ (∀ d, d ∈ c'.es ↔ d ∈ c.es) ∧ c'.de = c.de ∧ c'.dw = c.dw ∧ Via sb c c' w w' := by
  have HS : Hid (SetAt w sb c K) := h
  obtain ⟨ge, ce, hev, _, _⟩ := h.m.ent.form hne
  have hEK := h.i.esK
  have s13 : w.cell? ⟨sb, 13, none⟩ = some (.slice (some ⟨ge, 0, none⟩) c.es.length ce) := by rw [h.m.c13, hev]
  have s14 := h.m.c14
  have HEV : Hid (c.ev = .slice (some ⟨ge, 0, none⟩) c.es.length ce) := hev
  clear h hev
  by_cases hse : c.se < (c.es.length : Int)
  · have HV : Hid (Via sb c c w w) := Via.refl _ _ _
    go_enter Try.func30, Try.ntmps30
    go_wp2
    go_quiet (fail)
    have HS1 : Hid (SetAt (w.drewN nq) sb c K) := ⟨HS.out.m.kept fun _ _ => rfl, HS.out.i⟩
    have HV1 : Hid (Via sb c c w (w.drewN nq)) := HV.out.trans (Via.of_below (below_drewN (Below.refl _ _) _))
    clear HS HV s13 s14
    generalize (w.drewN nq) = W at *
    have s13 : W.cell? ⟨sb, 13, none⟩ = some (.slice (some ⟨ge, 0, none⟩) c.es.length ce) := by rw [HS1.out.m.c13, HEV.out]
    have s15 := HS1.out.m.c15
    cases hun : c.un
    · rw [hun] at s15
      have HE1 : Hid (∀ d, d ∈ c.es ↔ d ∈ c.es) := fun _ => Iff.rfl
      obtain ⟨es1, hes1⟩ : ∃ es1, es1 = c.es := ⟨_, rfl⟩
      have hl1 : es1.length = c.es.length := by rw [hes1]
      have M2 : Hid (Mem W sb { c with es := es1 } c.ns) := by rw [hes1]; exact HS1.out.m
      have V2 : Hid (Via sb c { c with es := es1 } w W) := by rw [hes1]; exact HV1.out
      have E2 : Hid (∀ d, d ∈ es1 ↔ d ∈ c.es) := by rw [hes1]; exact HE1.out
      have HI : Hid (Inv c K) := HS1.out.i
      clear hes1 HE1 HS1 HV1
      go_upto_region 3 with fail
      obtain ⟨W2, hW2⟩ : ∃ W2, W2 = W := ⟨_, rfl⟩
      rw [← hW2] at M2 V2 ⊢
      clear hW2 s13 s15 hun
      have t13 : W2.cell? ⟨sb, 13, none⟩ = some (.slice (some ⟨ge, 0, none⟩) c.es.length ce) := by rw [M2.out.c13]; exact congrArg some HEV.out
      have t13f : W2.frozen? ⟨sb, 13, none⟩ = false := M2.out.frozen 13
      have oe2 : OwnE W2 ge c.es.length ce es1 := by
        have h1 := M2.out.ent
        have h2 : W2.ownsRow 0 55 3 c.ev es1.length (es1.flatMap encE) := h1
        rw [HEV.out, hl1] at h2
        exact h2
      go_wp2_with fail
      refine (f34 ge ce c.es.length es1 W2 oe2 (by omega)).mono ?_
      rintro e W3 ⟨m, es2, rfl, o3, hm3, hmem, g3⟩
      have hl2 := own_len3 o3
      have g4 : W2.grownBy W3 (SC.ev { c with es := es1 }).ownBlock := by
        show W2.grownBy W3 c.ev.ownBlock
        rw [HEV.out]
        exact g3
      have o4 : W3.ownsRow 0 55 3 (.slice (some ⟨ge, 0, none⟩) m ce) es2.length (es2.flatMap encE) := by rw [hl2]; exact o3
      have mv4 : Moved W2 (SC.ev { c with es := es1 }) (.slice (some ⟨ge, 0, none⟩) m ce) := .inl (by
        show _ = c.ev.ownBlock
        rw [HEV.out]
        rfl)
      have M3 : Hid (Mem (W3.setCell ⟨sb, 13, none⟩ (.slice (some ⟨ge, 0, none⟩) m ce)) sb { c with ev := .slice (some ⟨ge, 0, none⟩) m ce, es := es2 } c.ns) := M2.out.entered _ es2 g4 o4 mv4
      have V3 : Hid (Via sb c { c with ev := .slice (some ⟨ge, 0, none⟩) m ce, es := es2 } w (W3.setCell ⟨sb, 13, none⟩ (.slice (some ⟨ge, 0, none⟩) m ce))) := V2.out.trans (Via.entered _ es2 g4 mv4)
      have E3 : Hid (∀ d, d ∈ es2 ↔ d ∈ c.es) := fun d => (hmem d).trans (E2.out d)
      have hne3 : some sb ≠ (SC.ev { c with es := es1 }).ownBlock := fun e => M2.out.sb_ne.2.2.1 e.symm
      have u13 : W3.cell? ⟨sb, 13, none⟩ = some (.slice (some ⟨ge, 0, none⟩) c.es.length ce) := (g4.cell_far ⟨sb, 13, none⟩ (heap_lt M2.out.blk) hne3).trans t13
      have u13f : W3.frozen? ⟨sb, 13, none⟩ = false := (g4.frozen_far ⟨sb, 13, none⟩ (heap_lt M2.out.blk) hne3).trans t13f
      clear g3 g4 o3 o4 mv4 hmem E2 M2 V2 t13 t13f oe2 hne3
      go_upto_region 4 with fail
      clear u13 u13f
      generalize (W3.setCell ⟨sb, 13, none⟩ (.slice (some ⟨ge, 0, none⟩) m ce)) = W4 at *
      have v13 : W4.cell? ⟨sb, 13, none⟩ = some (.slice (some ⟨ge, 0, none⟩) m ce) := M3.out.c13
      have v14 := M3.out.c14
      have f14 := M3.out.frozen 14
      have v15 := M3.out.c15
      have f15 := M3.out.frozen 15
      have v16 := M3.out.c16
      have f16 := M3.out.frozen 16

      go_wp2
      go_end0
      have M5 := M3.out.upd { c with ev := .slice (some ⟨ge, 0, none⟩) m ce, es := es2, se := (m : Int) } 14 _ (cells_set14 _ M3.out.rc8 (m : Int)) rfl rfl rfl rfl rfl rfl rfl rfl
      have M6 := M5.upd { c with ev := .slice (some ⟨ge, 0, none⟩) m ce, es := es2, se := (m : Int), un := false } 15 _ (cells_set15 _ M5.rc8 false) rfl rfl rfl rfl rfl rfl rfl rfl
      have M7 := M6.upd { c with ev := .slice (some ⟨ge, 0, none⟩) m ce, es := es2, se := (m : Int), un := false, nx := 2 * (m : Int) } 16 _ (cells_set16 _ M6.rc8 (2 * (m : Int))) rfl rfl rfl rfl rfl rfl rfl rfl
      have V5 := V3.out.trans (Via.cell sb _ { c with ev := .slice (some ⟨ge, 0, none⟩) m ce, es := es2, se := (m : Int) } W4 14 (.int .i64 (m : Int)) rfl rfl rfl rfl)
      have V6 := V5.trans (Via.cell sb _ { c with ev := .slice (some ⟨ge, 0, none⟩) m ce, es := es2, se := (m : Int), un := false } _ 15 (.bool false) rfl rfl rfl rfl)
      have V7 := V6.trans (Via.cell sb _ { c with ev := .slice (some ⟨ge, 0, none⟩) m ce, es := es2, se := (m : Int), un := false, nx := 2 * (m : Int) } _ 16 (.int .i64 (2 * (m : Int))) rfl rfl rfl rfl)
      exact ⟨rfl, _, ⟨M7, HI.out.entries _ es2 _ _ _ (fun d hd => (E3.out d).mp hd) (by omega)⟩, rfl, E3.out, rfl, rfl, V7⟩
    · rw [hun] at s15
      go_wp2_with fail
      have oe : OwnE W ge c.es.length ce c.es := by have := HS1.out.m.ent; rw [HEV.out] at this; exact this
      refine (f33 ge ce c.es.length c.es W oe rfl (by omega)).mono ?_
      rintro e W2 ⟨rfl, es1, hp, o2, g2⟩
      have hl1 : es1.length = c.es.length := hp.length_eq
      have g3 : W.grownBy W2 c.ev.ownBlock := by rw [HEV.out]; exact g2
      have o3 : W2.ownsRow 0 55 3 c.ev es1.length (es1.flatMap encE) := by rw [HEV.out, hl1]; exact o2
      have M2 : Hid (Mem W2 sb { c with es := es1 } c.ns) := HS1.out.m.turned es1 g3 o3
      have V2 : Hid (Via sb c { c with es := es1 } w W2) := HV1.out.trans (Via.turned es1 g3)
      have E2 : Hid (∀ d, d ∈ es1 ↔ d ∈ c.es) := fun d => hp.mem_iff
      have HI : Hid (Inv c K) := HS1.out.i
      clear hp o2 g2 g3 o3 HS1 HV1 s13 s15 oe hun
      go_upto_region 3 with fail
      have t13 : W2.cell? ⟨sb, 13, none⟩ = some (.slice (some ⟨ge, 0, none⟩) c.es.length ce) := by rw [M2.out.c13]; exact congrArg some HEV.out
      have t13f : W2.frozen? ⟨sb, 13, none⟩ = false := M2.out.frozen 13
      have oe2 : OwnE W2 ge c.es.length ce es1 := by
        have h1 := M2.out.ent
        have h2 : W2.ownsRow 0 55 3 c.ev es1.length (es1.flatMap encE) := h1
        rw [HEV.out, hl1] at h2
        exact h2
      go_wp2_with fail
      refine (f34 ge ce c.es.length es1 W2 oe2 (by omega)).mono ?_
      rintro e W3 ⟨m, es2, rfl, o3, hm3, hmem, g3⟩
      have hl2 := own_len3 o3
      have g4 : W2.grownBy W3 (SC.ev { c with es := es1 }).ownBlock := by
        show W2.grownBy W3 c.ev.ownBlock
        rw [HEV.out]
        exact g3
      have o4 : W3.ownsRow 0 55 3 (.slice (some ⟨ge, 0, none⟩) m ce) es2.length (es2.flatMap encE) := by rw [hl2]; exact o3
      have mv4 : Moved W2 (SC.ev { c with es := es1 }) (.slice (some ⟨ge, 0, none⟩) m ce) := .inl (by
        show _ = c.ev.ownBlock
        rw [HEV.out]
        rfl)
      have M3 : Hid (Mem (W3.setCell ⟨sb, 13, none⟩ (.slice (some ⟨ge, 0, none⟩) m ce)) sb { c with ev := .slice (some ⟨ge, 0, none⟩) m ce, es := es2 } c.ns) := M2.out.entered _ es2 g4 o4 mv4
      have V3 : Hid (Via sb c { c with ev := .slice (some ⟨ge, 0, none⟩) m ce, es := es2 } w (W3.setCell ⟨sb, 13, none⟩ (.slice (some ⟨ge, 0, none⟩) m ce))) := V2.out.trans (Via.entered _ es2 g4 mv4)
      have E3 : Hid (∀ d, d ∈ es2 ↔ d ∈ c.es) := fun d => (hmem d).trans (E2.out d)
      have hne3 : some sb ≠ (SC.ev { c with es := es1 }).ownBlock := fun e => M2.out.sb_ne.2.2.1 e.symm
      have u13 : W3.cell? ⟨sb, 13, none⟩ = some (.slice (some ⟨ge, 0, none⟩) c.es.length ce) := (g4.cell_far ⟨sb, 13, none⟩ (heap_lt M2.out.blk) hne3).trans t13
      have u13f : W3.frozen? ⟨sb, 13, none⟩ = false := (g4.frozen_far ⟨sb, 13, none⟩ (heap_lt M2.out.blk) hne3).trans t13f
      clear g3 g4 o3 o4 mv4 hmem E2 M2 V2 t13 t13f oe2 hne3
      go_upto_region 4 with fail
      clear u13 u13f
      generalize (W3.setCell ⟨sb, 13, none⟩ (.slice (some ⟨ge, 0, none⟩) m ce)) = W4 at *
      have v13 : W4.cell? ⟨sb, 13, none⟩ = some (.slice (some ⟨ge, 0, none⟩) m ce) := M3.out.c13
      have v14 := M3.out.c14
      have f14 := M3.out.frozen 14
      have v15 := M3.out.c15
      have f15 := M3.out.frozen 15
      have v16 := M3.out.c16
      have f16 := M3.out.frozen 16

      go_wp2
      go_end0
      have M5 := M3.out.upd { c with ev := .slice (some ⟨ge, 0, none⟩) m ce, es := es2, se := (m : Int) } 14 _ (cells_set14 _ M3.out.rc8 (m : Int)) rfl rfl rfl rfl rfl rfl rfl rfl
      have M6 := M5.upd { c with ev := .slice (some ⟨ge, 0, none⟩) m ce, es := es2, se := (m : Int), un := false } 15 _ (cells_set15 _ M5.rc8 false) rfl rfl rfl rfl rfl rfl rfl rfl
      have M7 := M6.upd { c with ev := .slice (some ⟨ge, 0, none⟩) m ce, es := es2, se := (m : Int), un := false, nx := 2 * (m : Int) } 16 _ (cells_set16 _ M6.rc8 (2 * (m : Int))) rfl rfl rfl rfl rfl rfl rfl rfl
      have V5 := V3.out.trans (Via.cell sb _ { c with ev := .slice (some ⟨ge, 0, none⟩) m ce, es := es2, se := (m : Int) } W4 14 (.int .i64 (m : Int)) rfl rfl rfl rfl)
      have V6 := V5.trans (Via.cell sb _ { c with ev := .slice (some ⟨ge, 0, none⟩) m ce, es := es2, se := (m : Int), un := false } _ 15 (.bool false) rfl rfl rfl rfl)
      have V7 := V6.trans (Via.cell sb _ { c with ev := .slice (some ⟨ge, 0, none⟩) m ce, es := es2, se := (m : Int), un := false, nx := 2 * (m : Int) } _ 16 (.int .i64 (2 * (m : Int))) rfl rfl rfl rfl)
      exact ⟨rfl, _, ⟨M7, HI.out.entries _ es2 _ _ _ (fun d hd => (E3.out d).mp hd) (by omega)⟩, rfl, E3.out, rfl, rfl, V7⟩
  · have hse' : (c.es.length : Int) ≤ c.se := by omega
    have d1 : decide (c.se < (c.es.length : Int)) = false := by simp; omega
    go_enter Try.func30, Try.ntmps30
    go_wp2
    go_quiet (fail)
    have M4 : Hid (Mem (w.drewN nq) sb c c.ns) := HS.out.m.kept fun _ _ => rfl
    have V4 : Hid (Via sb c c w (w.drewN nq)) := (Via.refl _ _ _).trans (Via.of_below (below_drewN (Below.refl _ _) _))
    have HI : Hid (Inv c K) := HS.out.i
    clear HS s13 s14
    generalize (w.drewN nq) = W4 at *
    have s13 : W4.cell? ⟨sb, 13, none⟩ = some (.slice (some ⟨ge, 0, none⟩) c.es.length ce) := by rw [M4.out.c13, HEV.out]
    have s16 := M4.out.c16
    have f16 := M4.out.frozen 16
    go_wp2
    go_end0
    exact ⟨rfl, { c with nx := 2 * (c.es.length : Int) }, ⟨M4.out.upd _ 16 _ (cells_set16 c M4.out.rc8 _) rfl rfl rfl rfl rfl rfl rfl rfl, HI.out.entries c.ev c.es c.se c.un _ (fun _ h => h) (Nat.le_refl _)⟩, rfl, fun _ => Iff.rfl, rfl, rfl, V4.out.trans (Via.cell sb c _ W4 16 _ rfl rfl rfl rfl)⟩

end Go.Proofs.Qxb6627582a
