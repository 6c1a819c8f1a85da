import Derived.Test.Qxb6627582aWalksH
namespace Go.Proofs.Qxb6627582a
open Go.RowKit Go.Sort

/-- a follower is stored -/
theorem Mem.fset {w : World} {sb : Nat} {c : SC} {ms : List Nt} (h : Mem w sb c ms) {gf cf : Nat} (hf : c.fv = .slice (some ⟨gf, 0, none⟩) c.fs.length cf) (j f : Nat) :
    Mem (w.setCell ⟨gf, j, none⟩ (.int .i32 (f : Nat))) sb { c with fs := c.fs.set j f } ms := by
  obtain ⟨n1, n2, n3, n4⟩ := h.sb_ne
  have hfb : c.fv.ownBlock = some gf := by rw [hf]; rfl
  have hk : ∀ b, b ≠ gf → (w.setCell ⟨gf, j, none⟩ (.int .i32 (f : Nat))).heap[b]? = w.heap[b]? := fun b hb => Below.heap_setCell w _ _ b hb
  refine ⟨(hk sb fun x => n2 (by rw [hfb, x])).trans h.blk, ?_, ?_, ?_, ?_, h.rc8⟩
  · exact owns_kept h.nts fun b hb => hk b fun x => rows_apart h.nts h.fol (by decide) hb (by rw [hfb, x])
  · have ho := h.fol
    rw [hf] at ho
    have := (World.ownsRow.stored ho j (.int .i32 (f : Nat))).1
    show World.ownsRow _ 0 21 1 c.fv (c.fs.set j f).length ((c.fs.set j f).map _)
    rw [List.length_set, hf, List.map_set]
    exact this
  · exact owns_kept h.ent fun b hb => hk b fun x => rows_apart h.ent h.fol (by decide) hb (by rw [hfb, x])
  · exact map_kept h.map fun b hb => hk b fun x => row_map_apart h.fol h.map hfb (by rw [hb, x])

theorem Via.fset {sb : Nat} {c : SC} {w : World} {gf cf : Nat} (hf : c.fv = .slice (some ⟨gf, 0, none⟩) c.fs.length cf) (j f : Nat) : Via sb c { c with fs := c.fs.set j f } w (w.setCell ⟨gf, j, none⟩ (.int .i32 (f : Nat))) :=
  ⟨Frm.setCell _ w _ _ (.inr (.inr (.inl (by rw [hf]; rfl)))), fun _ h => .inl h⟩

theorem fol_at {w : World} {sb : Nat} {c : SC} {ms : List Nt} (h : Mem w sb c ms) {gf cf : Nat} (hf : c.fv = .slice (some ⟨gf, 0, none⟩) c.fs.length cf) (j : Nat) (hj : j < c.fs.length) : w.cell? ⟨gf, j, none⟩ = some (.int .i32 (c.fs[j] : Nat)) := by
  have ho := h.fol
  rw [hf] at ho
  rw [ho.cellAt j (by omega)]
  simp [hj]
theorem fol_free {w : World} {sb : Nat} {c : SC} {ms : List Nt} (h : Mem w sb c ms) {gf cf : Nat} (hf : c.fv = .slice (some ⟨gf, 0, none⟩) c.fs.length cf) (j : Nat) : w.frozen? ⟨gf, j, none⟩ = false := by
  have ho := h.fol
  rw [hf] at ho
  exact ho.frozenAt j

set_option maxRecDepth 100000 in
set_option maxHeartbeats 2000000 in
theorem f22 (sb K : Nat) (c : SC) (n : Nt) (w : World) (h : SetAt w sb c K) (hK : K < 1000000) :
    Calls Try.prog 22 #[.pointer (some ⟨sb, 0, none⟩), valN n] w fun e w' => ∃ (i : Nat) (c' : SC), e = .returned (.int .i32 i) ∧ SetAt w' sb c' (K + 1) ∧ c'.ns[i]? = some n ∧ c.ns <+: c'.ns ∧
      c'.es = c.es ∧ c'.se = c.se ∧ c'.un = c.un ∧ c'.nx = c.nx ∧ c'.de = c.de ∧ c'.dw = c.dw ∧ Via sb c c' w w' := by
  have HS0 : Hid (SetAt (w.alloc (boxN n)) sb c K) := ⟨h.m.frm (Frm.alloc (fun _ => False) w (boxN n)) (fun _ _ => id), h.i⟩
  have HV0 : Hid (Via sb c c w (w.alloc (boxN n))) := Via.of_below ((Below.refl _ _).alloc (Nat.le_refl _) _)
  clear h
  go_enter Try.func22, Try.ntmps22
  go_upto_region 1 with fail
  have b0 : (w.alloc (boxN n)).cell? ⟨w.heap.size, 0, none⟩ = some (.string n.p) := by go_simp
  have b1 : (w.alloc (boxN n)).cell? ⟨w.heap.size, 1, none⟩ = some (.int .i64 n.s) := by go_simp
  have b2 : (w.alloc (boxN n)).cell? ⟨w.heap.size, 2, none⟩ = some (.string n.r) := by go_simp
  have b3 : (w.alloc (boxN n)).cell? ⟨w.heap.size, 3, none⟩ = some (.string n.m) := by go_simp
  generalize (w.alloc (boxN n)) = W at *
  generalize w.heap.size = B at *
  have s12 : W.cell? ⟨sb, 12, none⟩ = some (.int .i32 (c.la : Nat)) := HS0.out.m.c12
  have hlab := HS0.out.i.lab
  have hnsK := HS0.out.i.nsK
  have hfsl := HS0.out.i.fsl
  by_cases hla : c.la = 0
  · rw [hla] at s12
    have s12' : W.cell? ⟨sb, 12, none⟩ = some (.int .i32 0) := s12
    clear s12
    have HS1 : Hid (SetAt W sb c K) := HS0.out
    have HV1 : Hid (Via sb c c w W) := HV0.out
    obtain ⟨W1, hW1⟩ : ∃ W1, W1 = W := ⟨_, rfl⟩
    rw [← hW1] at HS1 HV1 b0 b1 b2 b3 s12' ⊢
    clear HS0 HV0 hW1
    go_wp2_with fail
    refine (f27 sb K c n W1 HS1.out hK).mono ?_
    rintro e W2 ⟨i, c1, rfl, hs, hn, hp, he, hla1, hse, hun, hnx, hde, hdw, hv⟩
    have HS2 : Hid (SetAt W2 sb c1 (K + 1)) := hs
    have HN : Hid (c1.ns[i]? = some n) := hn
    have HP : Hid (c.ns <+: c1.ns) := hp
    have HE : Hid (c1.es = c.es ∧ c1.se = c.se ∧ c1.un = c.un ∧ c1.nx = c.nx ∧ c1.de = c.de ∧ c1.dw = c.dw) := ⟨he, hse, hun, hnx, hde, hdw⟩
    have HV2 : Hid (Via sb c c1 w W2) := HV1.out.trans hv
    have hi : i < c1.ns.length := by
      rcases Nat.lt_or_ge i c1.ns.length with h1 | h1
      · exact h1
      · rw [List.getElem?_eq_none h1] at hn; cases hn
    have hiK : c1.ns.length ≤ K + 1 := hs.i.nsK
    have s12 : W2.cell? ⟨sb, 12, none⟩ = some (.int .i32 0) := by rw [hs.m.c12, hla1, hla]; rfl
    have f12 : W2.frozen? ⟨sb, 12, none⟩ = false := hs.m.frozen 12
    have wi : IntKind.i32.wrap ((i : Int) + 1) = (i : Int) + 1 := by simp [IntKind.wrap, IntKind.bits, IntKind.signed]; omega
    have M3 : Hid (Mem (W2.setCell ⟨sb, 12, none⟩ (.int .i32 ((i : Int) + 1))) sb { c1 with la := i + 1 } c1.ns) := hs.m.upd _ 12 _ (by have := cells_set12 c1 hs.m.rc8 (i + 1); rw [← this]; rfl) rfl rfl rfl rfl rfl rfl rfl rfl
    have V3 : Hid (Via sb c { c1 with la := i + 1 } w (W2.setCell ⟨sb, 12, none⟩ (.int .i32 ((i : Int) + 1)))) := HV2.out.trans (Via.cell sb c1 _ W2 12 _ rfl rfl rfl rfl)
    have I3 : Hid (Inv { c1 with la := i + 1 } (K + 1)) := by
      obtain ⟨j1, j2, j3, j4, j5, j6, j7, j8⟩ := hs.i
      exact ⟨j1, j2, j3, hi, j5, j6, j7, j8⟩
    clear hs hn hp he hla1 hse hun hnx hde hdw hv HS2 HV2 HS1 HV1 b0 b1 b2 b3 s12'
    go_wp2
    go_ret
    exact ⟨i, _, rfl, ⟨M3.out, I3.out⟩, HN.out, HP.out, HE.out.1, HE.out.2.1, HE.out.2.2.1, HE.out.2.2.2.1, HE.out.2.2.2.2.1, HE.out.2.2.2.2.2, V3.out⟩
  · obtain ⟨l, hl⟩ : ∃ l, c.la = l + 1 := ⟨c.la - 1, by omega⟩
    have hll : l < c.fs.length := by omega
    have p1 : (0 : Int) < (c.la : Int) := by omega
    have p2 : (c.la : Int) - 1 = (l : Int) := by omega
    have p3 : IntKind.i32.wrap (l : Int) = (l : Int) := by simp [IntKind.wrap, IntKind.bits, IntKind.signed]; omega
    have p4 : IntKind.i32.wrap ((c.la : Int) - 1) = (l : Int) := by rw [p2]; exact p3
    have p5 : (l : Int) < (c.fs.length : Int) := by omega
    have p6 : 0 < c.la := by omega
    have p7 : (0 : Int) ≤ (l : Int) := by omega
    obtain ⟨gf, cf, hfv, _, _⟩ := HS0.out.m.fol.form (by omega)
    have s11 : W.cell? ⟨sb, 11, none⟩ = some (.slice (some ⟨gf, 0, none⟩) c.fs.length cf) := by rw [HS0.out.m.c11, hfv]
    have fl := fol_at HS0.out.m hfv l hll
    obtain ⟨f, hf⟩ : ∃ f, f = c.fs[l] := ⟨_, rfl⟩
    rw [← hf] at fl
    have hfb : f ≤ c.ns.length := by rw [hf]; exact HS0.out.i.fsb _ (List.getElem_mem _)
    have HL : Hid (c.la = l + 1) := hl
    have HFV : Hid (c.fv = .slice (some ⟨gf, 0, none⟩) c.fs.length cf) := hfv
    clear hf hl hfv
    go_wp2
    go_quiet (fail)
    have HS1 : Hid (SetAt (W.drewN nq) sb c K) := ⟨HS0.out.m.kept fun _ _ => rfl, HS0.out.i⟩
    have HV1 : Hid (Via sb c c w (W.drewN nq)) := HV0.out.trans (Via.of_below (below_drewN (Below.refl _ _) _))
    have b0' : (W.drewN nq).cell? ⟨B, 0, none⟩ = some (.string n.p) := b0
    have b1' : (W.drewN nq).cell? ⟨B, 1, none⟩ = some (.int .i64 n.s) := b1
    have b2' : (W.drewN nq).cell? ⟨B, 2, none⟩ = some (.string n.r) := b2
    have b3' : (W.drewN nq).cell? ⟨B, 3, none⟩ = some (.string n.m) := b3
    clear HS0 HV0 b0 b1 b2 b3 s11 s12 fl
    generalize (W.drewN nq) = W0 at *
    by_cases hf0 : f = 0
    · subst hf0
      have z1 : decide ((0 : Int) < ((0 : Nat) : Int)) = false := by simp
      go_wp2
      go_quiet (fail)
      have HS2 : Hid (SetAt (W0.drewN nq) sb c K) := ⟨HS1.out.m.kept fun _ _ => rfl, HS1.out.i⟩
      have HV2 : Hid (Via sb c c w (W0.drewN nq)) := HV1.out.trans (Via.of_below (below_drewN (Below.refl _ _) _))
      have b0 : (W0.drewN nq).cell? ⟨B, 0, none⟩ = some (.string n.p) := b0'
      have b1 : (W0.drewN nq).cell? ⟨B, 1, none⟩ = some (.int .i64 n.s) := b1'
      have b2 : (W0.drewN nq).cell? ⟨B, 2, none⟩ = some (.string n.r) := b2'
      have b3 : (W0.drewN nq).cell? ⟨B, 3, none⟩ = some (.string n.m) := b3'
      clear HS1 HV1 b0' b1' b2' b3'
      generalize (W0.drewN nq) = W1 at *
      go_wp2_with fail
      refine (f27 sb K c n W1 HS2.out hK).mono ?_
      rintro e W2 ⟨i, c1, rfl, hs, hn, hp, he, hla1, hse, hun, hnx, hde, hdw, hv⟩
      have HN : Hid (c1.ns[i]? = some n) := hn
      have HP : Hid (c.ns <+: c1.ns) := hp
      have HE : Hid (c1.es = c.es ∧ c1.se = c.se ∧ c1.un = c.un ∧ c1.nx = c.nx ∧ c1.de = c.de ∧ c1.dw = c.dw) := ⟨he, hse, hun, hnx, hde, hdw⟩
      have HV3 : Hid (Via sb c c1 w W2) := HV2.out.trans hv
      have hi : i < c1.ns.length := by
        rcases Nat.lt_or_ge i c1.ns.length with h1 | h1
        · exact h1
        · rw [List.getElem?_eq_none h1] at hn; cases hn
      have hiK : c1.ns.length ≤ K + 1 := hs.i.nsK
      have hln : c.ns.length ≤ c1.ns.length := hp.length_le
      have hll1 : l < c1.fs.length := by rw [hs.i.fsl]; omega
      have s12 : W2.cell? ⟨sb, 12, none⟩ = some (.int .i32 (c.la : Nat)) := by rw [hs.m.c12, hla1]
      have f12 : W2.frozen? ⟨sb, 12, none⟩ = false := hs.m.frozen 12
      have wi : IntKind.i32.wrap ((i : Int) + 1) = (i : Int) + 1 := by simp [IntKind.wrap, IntKind.bits, IntKind.signed]; omega
      obtain ⟨g1, k1, hfv1, _, _⟩ := hs.m.fol.form (by omega)
      have s11 : W2.cell? ⟨sb, 11, none⟩ = some (.slice (some ⟨g1, 0, none⟩) c1.fs.length k1) := by rw [hs.m.c11, hfv1]
      have fl := fol_at hs.m hfv1 l hll1
      have ff := fol_free hs.m hfv1 l
      have p5' : (l : Int) < (c1.fs.length : Int) := by omega
      have M3 : Hid (Mem (W2.setCell ⟨g1, l, none⟩ (.int .i32 ((i : Int) + 1))).drew sb { c1 with fs := c1.fs.set l (i + 1) } c1.ns) := (hs.m.fset hfv1 l (i + 1)).kept fun _ _ => rfl
      have V3 : Hid (Via sb c { c1 with fs := c1.fs.set l (i + 1) } w (W2.setCell ⟨g1, l, none⟩ (.int .i32 ((i : Int) + 1))).drew) := (HV3.out.trans (Via.fset hfv1 l (i + 1))).drew
      have I3 : Hid (Inv { c1 with fs := c1.fs.set l (i + 1), la := i + 1 } (K + 1)) := by
        obtain ⟨j1, j2, j3, j4, j5, j6, j7, j8⟩ := hs.i
        refine ⟨j1, ?_, ?_, hi, j5, j6, j7, j8⟩
        · show (c1.fs.set l (i + 1)).length = c1.ns.length
          rw [List.length_set]; exact j2
        · intro x hx
          show x ≤ c1.ns.length
          rcases List.mem_or_eq_of_mem_set hx with h1 | h1
          · exact j3 x h1
          · omega
      have t11 : (W2.setCell ⟨g1, l, none⟩ (.int .i32 ((i : Int) + 1))).drew.cell? ⟨sb, 11, none⟩ = some (.slice (some ⟨g1, 0, none⟩) c1.fs.length k1) := by rw [M3.out.c11]; exact congrArg some hfv1
      have t12 : (W2.setCell ⟨g1, l, none⟩ (.int .i32 ((i : Int) + 1))).drew.cell? ⟨sb, 12, none⟩ = some (.int .i32 (c.la : Nat)) := by rw [M3.out.c12]; exact congrArg (fun x : Nat => some (Value.int .i32 (x : Int))) hla1
      have r12 : (W2.setCell ⟨g1, l, none⟩ (.int .i32 ((i : Int) + 1))).drew.frozen? ⟨sb, 12, none⟩ = false := M3.out.frozen 12
      have h8 : c1.rc.length = 8 := hs.m.rc8
      clear hs hn hp he hla1 hse hun hnx hde hdw hv HS2 HV2 HV3 b0 b1 b2 b3 hfv1
      go_wp2
      go_region_held3 (fun w' => w'.cell? ⟨sb, 11, none⟩ = some (.slice (some ⟨g1, 0, none⟩) c1.fs.length k1) ∧ w'.cell? ⟨sb, 12, none⟩ = some (.int .i32 (c.la : Nat))) (first | exact ⟨s11, s12⟩ | exact ⟨t11, t12⟩ | go_keep) (fail)
      clear s11 s12 f12 fl ff
      generalize (W2.setCell ⟨g1, l, none⟩ (.int .i32 ((i : Int) + 1))).drew = W3 at *
      have M4 : Hid (Mem (W3.setCell ⟨sb, 12, none⟩ (.int .i32 ((i : Int) + 1))) sb { c1 with fs := c1.fs.set l (i + 1), la := i + 1 } c1.ns) := M3.out.upd _ 12 _ (by have := cells_set12 { c1 with fs := c1.fs.set l (i + 1) } h8 (i + 1); rw [← this]; rfl) rfl rfl rfl rfl rfl rfl rfl rfl
      have V4 : Hid (Via sb c { c1 with fs := c1.fs.set l (i + 1), la := i + 1 } w (W3.setCell ⟨sb, 12, none⟩ (.int .i32 ((i : Int) + 1)))) := V3.out.trans (Via.cell sb _ _ W3 12 _ rfl rfl rfl rfl)
      clear M3 V3
      go_wp2
      go_ret
      exact ⟨i, _, rfl, ⟨M4.out, I3.out⟩, HN.out, HP.out, HE.out.1, HE.out.2.1, HE.out.2.2.1, HE.out.2.2.2.1, HE.out.2.2.2.2.1, HE.out.2.2.2.2.2, V4.out⟩
    · obtain ⟨k, hk⟩ : ∃ k, f = k + 1 := ⟨f - 1, by omega⟩
      have hkn : k < c.ns.length := by omega
      have q1 : (0 : Int) < (f : Int) := by omega
      have q2 : (f : Int) - 1 = (k : Int) := by omega
      have q3 : IntKind.i32.wrap (k : Int) = (k : Int) := by simp [IntKind.wrap, IntKind.bits, IntKind.signed]; omega
      have q4 : IntKind.i32.wrap ((f : Int) - 1) = (k : Int) := by rw [q2]; exact q3
      have q5 : (k : Int) < (c.ns.length : Int) := by omega
      have q6 : 0 < f := by omega
      have q7 : (0 : Int) ≤ (k : Int) := by omega
      have q8 : decide ((0 : Int) < (f : Int)) = true := by simpa using q6
      obtain ⟨gn, cn, hnv, _, _⟩ := HS1.out.m.nts.form (by omega)
      have NT := HS1.out.m.nts
      rw [hnv] at NT
      obtain ⟨a0, a1, a2, a3⟩ := own_at4 NT rfl k hkn
      have s0 : W0.cell? ⟨sb, 0, none⟩ = some (.slice (some ⟨gn, 0, none⟩) c.ns.length cn) := by rw [HS1.out.m.c0, hnv]
      clear NT hnv
      obtain ⟨m, hm⟩ : ∃ m, m = c.ns[k] := ⟨_, rfl⟩
      rw [← hm] at a0 a1 a2 a3
      have HM : Hid (m = c.ns[k]) := hm
      have HKF : Hid (f = k + 1) := hk
      clear hm hk
      by_cases he : m = n
      · have E1 := fun w => run_eqlN m n w
        go_wp2
        go_quiet (fail)
        clear E1
        have HS2 : Hid (SetAt (W0.drewN nq) sb c K) := ⟨HS1.out.m.kept fun _ _ => rfl, HS1.out.i⟩
        have HV2 : Hid (Via sb c c w (W0.drewN nq)) := HV1.out.trans (Via.of_below (below_drewN (Below.refl _ _) _))
        clear HS1 HV1 b0' b1' b2' b3' a0 a1 a2 a3 s0
        generalize (W0.drewN nq) = W2 at *
        have s12 : W2.cell? ⟨sb, 12, none⟩ = some (.int .i32 (c.la : Nat)) := HS2.out.m.c12
        have f12 : W2.frozen? ⟨sb, 12, none⟩ = false := HS2.out.m.frozen 12
        go_wp2
        go_ret
        refine ⟨k, { c with la := f }, rfl, ⟨HS2.out.m.upd _ 12 _ (cells_set12 c HS2.out.m.rc8 f) rfl rfl rfl rfl rfl rfl rfl rfl, ?_⟩, ?_, List.prefix_refl _, rfl, rfl, rfl, rfl, rfl, rfl, HV2.out.trans (Via.cell sb c _ W2 12 _ rfl rfl rfl rfl)⟩
        · obtain ⟨j1, j2, j3, j4, j5, j6, j7, j8⟩ := HS2.out.i
          exact ⟨j1, j2, j3, hfb, j5, Nat.le_succ_of_le j6, Nat.le_succ_of_le j7, Nat.le_succ_of_le j8⟩
        · show c.ns[k]? = some n
          rw [← he, HM.out]; simp
      · have E1 := fun w => run_eqlN m n w
        go_wp2
        go_quiet (fail)
        clear E1 a0 a1 a2 a3 s0
        have HS2 : Hid (SetAt (W0.drewN nq) sb c K) := ⟨HS1.out.m.kept fun _ _ => rfl, HS1.out.i⟩
        have HV2 : Hid (Via sb c c w (W0.drewN nq)) := HV1.out.trans (Via.of_below (below_drewN (Below.refl _ _) _))
        have b0 : (W0.drewN nq).cell? ⟨B, 0, none⟩ = some (.string n.p) := b0'
        have b1 : (W0.drewN nq).cell? ⟨B, 1, none⟩ = some (.int .i64 n.s) := b1'
        have b2 : (W0.drewN nq).cell? ⟨B, 2, none⟩ = some (.string n.r) := b2'
        have b3 : (W0.drewN nq).cell? ⟨B, 3, none⟩ = some (.string n.m) := b3'
        clear HS1 HV1 b0' b1' b2' b3'
        generalize (W0.drewN nq) = W1 at *
        go_wp2_with fail
        refine (f27 sb K c n W1 HS2.out hK).mono ?_
        rintro e W2 ⟨i, c1, rfl, hs, hn, hp, he, hla1, hse, hun, hnx, hde, hdw, hv⟩
        have HN : Hid (c1.ns[i]? = some n) := hn
        have HP : Hid (c.ns <+: c1.ns) := hp
        have HE : Hid (c1.es = c.es ∧ c1.se = c.se ∧ c1.un = c.un ∧ c1.nx = c.nx ∧ c1.de = c.de ∧ c1.dw = c.dw) := ⟨he, hse, hun, hnx, hde, hdw⟩
        have HV3 : Hid (Via sb c c1 w W2) := HV2.out.trans hv
        have hi : i < c1.ns.length := by
          rcases Nat.lt_or_ge i c1.ns.length with h1 | h1
          · exact h1
          · rw [List.getElem?_eq_none h1] at hn; cases hn
        have hiK : c1.ns.length ≤ K + 1 := hs.i.nsK
        have hln : c.ns.length ≤ c1.ns.length := hp.length_le
        have hll1 : l < c1.fs.length := by rw [hs.i.fsl]; omega
        have s12 : W2.cell? ⟨sb, 12, none⟩ = some (.int .i32 (c.la : Nat)) := by rw [hs.m.c12, hla1]
        have f12 : W2.frozen? ⟨sb, 12, none⟩ = false := hs.m.frozen 12
        have wi : IntKind.i32.wrap ((i : Int) + 1) = (i : Int) + 1 := by simp [IntKind.wrap, IntKind.bits, IntKind.signed]; omega
        obtain ⟨g1, k1, hfv1, _, _⟩ := hs.m.fol.form (by omega)
        have s11 : W2.cell? ⟨sb, 11, none⟩ = some (.slice (some ⟨g1, 0, none⟩) c1.fs.length k1) := by rw [hs.m.c11, hfv1]
        have fl := fol_at hs.m hfv1 l hll1
        have ff := fol_free hs.m hfv1 l
        have p5' : (l : Int) < (c1.fs.length : Int) := by omega
        have M3 : Hid (Mem (W2.setCell ⟨g1, l, none⟩ (.int .i32 ((i : Int) + 1))).drew sb { c1 with fs := c1.fs.set l (i + 1) } c1.ns) := (hs.m.fset hfv1 l (i + 1)).kept fun _ _ => rfl
        have V3 : Hid (Via sb c { c1 with fs := c1.fs.set l (i + 1) } w (W2.setCell ⟨g1, l, none⟩ (.int .i32 ((i : Int) + 1))).drew) := (HV3.out.trans (Via.fset hfv1 l (i + 1))).drew
        have I3 : Hid (Inv { c1 with fs := c1.fs.set l (i + 1), la := i + 1 } (K + 1)) := by
          obtain ⟨j1, j2, j3, j4, j5, j6, j7, j8⟩ := hs.i
          refine ⟨j1, ?_, ?_, hi, j5, j6, j7, j8⟩
          · show (c1.fs.set l (i + 1)).length = c1.ns.length
            rw [List.length_set]; exact j2
          · intro x hx
            show x ≤ c1.ns.length
            rcases List.mem_or_eq_of_mem_set hx with h1 | h1
            · exact j3 x h1
            · omega
        have t11 : (W2.setCell ⟨g1, l, none⟩ (.int .i32 ((i : Int) + 1))).drew.cell? ⟨sb, 11, none⟩ = some (.slice (some ⟨g1, 0, none⟩) c1.fs.length k1) := by rw [M3.out.c11]; exact congrArg some hfv1
        have t12 : (W2.setCell ⟨g1, l, none⟩ (.int .i32 ((i : Int) + 1))).drew.cell? ⟨sb, 12, none⟩ = some (.int .i32 (c.la : Nat)) := by rw [M3.out.c12]; exact congrArg (fun x : Nat => some (Value.int .i32 (x : Int))) hla1
        have r12 : (W2.setCell ⟨g1, l, none⟩ (.int .i32 ((i : Int) + 1))).drew.frozen? ⟨sb, 12, none⟩ = false := M3.out.frozen 12
        have h8 : c1.rc.length = 8 := hs.m.rc8
        clear hs hn hp he hla1 hse hun hnx hde hdw hv HS2 HV2 HV3 b0 b1 b2 b3 hfv1
        go_wp2
        go_region_held3 (fun w' => w'.cell? ⟨sb, 11, none⟩ = some (.slice (some ⟨g1, 0, none⟩) c1.fs.length k1) ∧ w'.cell? ⟨sb, 12, none⟩ = some (.int .i32 (c.la : Nat))) (first | exact ⟨s11, s12⟩ | exact ⟨t11, t12⟩ | go_keep) (fail)
        clear s11 s12 f12 fl ff
        generalize (W2.setCell ⟨g1, l, none⟩ (.int .i32 ((i : Int) + 1))).drew = W3 at *
        have M4 : Hid (Mem (W3.setCell ⟨sb, 12, none⟩ (.int .i32 ((i : Int) + 1))) sb { c1 with fs := c1.fs.set l (i + 1), la := i + 1 } c1.ns) := M3.out.upd _ 12 _ (by have := cells_set12 { c1 with fs := c1.fs.set l (i + 1) } h8 (i + 1); rw [← this]; rfl) rfl rfl rfl rfl rfl rfl rfl rfl
        have V4 : Hid (Via sb c { c1 with fs := c1.fs.set l (i + 1), la := i + 1 } w (W3.setCell ⟨sb, 12, none⟩ (.int .i32 ((i : Int) + 1)))) := V3.out.trans (Via.cell sb _ _ W3 12 _ rfl rfl rfl rfl)
        clear M3 V3
        go_wp2
        go_ret
        exact ⟨i, _, rfl, ⟨M4.out, I3.out⟩, HN.out, HP.out, HE.out.1, HE.out.2.1, HE.out.2.2.1, HE.out.2.2.2.1, HE.out.2.2.2.2.1, HE.out.2.2.2.2.2, V4.out⟩

end Go.Proofs.Qxb6627582a
