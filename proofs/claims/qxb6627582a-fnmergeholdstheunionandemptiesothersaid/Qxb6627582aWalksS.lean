import Derived.Test.Qxb6627582aMergeL
namespace Go.Proofs.Qxb6627582a
open Go.RowKit Go.Sort

set_option maxRecDepth 100000 in
set_option maxHeartbeats 4000000 in
theorem f11 (sb ob K Ko : Nat) (c co : SC) (w : World) (h : SetAt w sb c K) (ho : SetAt w ob co Ko) (hd : ∀ b, c.fp sb b → ¬ co.fp ob b) (hK : K + 2 * Ko < 400000)
    (h1 : 0 ≤ c.de ∧ c.de ≤ 1073741824) (h2 : 0 ≤ c.dw ∧ c.dw ≤ 1073741824) (h3 : 0 ≤ co.de ∧ co.de ≤ 1073741824) (h4 : 0 ≤ co.dw ∧ co.dw ≤ 1073741824) :
    Calls Try.prog 11 #[.pointer (some ⟨sb, 0, none⟩), .pointer (some ⟨ob, 0, none⟩)] w fun e w' => e = .returned (.tuple #[]) ∧ Merged sb ob (K + 2 * Ko) c co w w' := by
  have HS0 : Hid (SetAt w sb c K) := h
  have HO0 : Hid (SetAt w ob co Ko) := ho
  have HD : Hid (∀ b, c.fp sb b → ¬ co.fp ob b) := hd
  have s17 := h.m.c17
  have s18 := h.m.c18
  have o17 := ho.m.c17
  have o18 := ho.m.c18
  obtain ⟨x, hx⟩ : ∃ x, x = c.de + co.de := ⟨_, rfl⟩
  obtain ⟨y, hy⟩ : ∃ y, y = c.dw + co.dw := ⟨_, rfl⟩
  have w1 : IntKind.i64.wrap (c.de + co.de) = x := by rw [hx]; simp [IntKind.wrap, IntKind.bits, IntKind.signed]; omega
  have w2 : IntKind.i64.wrap (c.dw + co.dw) = y := by rw [hy]; simp [IntKind.wrap, IntKind.bits, IntKind.signed]; omega
  have HX : Hid (x = c.de + co.de) := hx
  have HY : Hid (y = c.dw + co.dw) := hy
  clear h ho hd hx hy h1 h2 h3 h4
  go_enter Try.func11, Try.ntmps11
  go_wp2
  go_quiet (fail)
  have HS : Hid (SetAt (w.drewN nq) sb c K) := ⟨HS0.out.m.kept fun _ _ => rfl, HS0.out.i⟩
  have HO : Hid (SetAt (w.drewN nq) ob co Ko) := ⟨HO0.out.m.kept fun _ _ => rfl, HO0.out.i⟩
  have HB : Hid (Below w.heap.size w (w.drewN nq)) := below_drewN (Below.refl _ _) _
  clear HS0 HO0 s17 s18 o17 o18 w1 w2
  generalize (w.drewN nq) = W at *
  obtain ⟨an, cn, om, r0, r1, r2, r3, r4, r5, r6, r7, af, cf, ae, ce, hnv, hev, hco⟩ := cells_form HO.out.m
  obtain ⟨sn, _, _, _, _, _, _, _, _, _, _, _, _, se, sce, _, hse, hc⟩ := cells_form HS.out.m
  have HCO : Hid (co.cells = _) := hco
  have HCC : Hid (c.cells = _) := hc
  have HNV : Hid (co.nv = _) := hnv
  have HEV : Hid (co.ev = _) := hev
  have s13 := Mem.cells HS.out.m hc 13 _ rfl
  clear hnv hev hse

  by_cases hz : c.es.length = 0
  · have z1 : ((c.es.length : Int) == 0) = true := by rw [hz]; rfl
    have HZ : Hid (c.es.length = 0) := hz
    clear hz
    have l1 := load47 HO.out.m
    have e1 := store47 (W := W) (ob := sb) (c := c) (vs := co.cells) HS.out.m.blk HS.out.m.rc8 (cells_len co HO.out.m.rc8) (cells_one HO.out.m)
    obtain ⟨X, hX⟩ : ∃ X, X = co.cells.toArray := ⟨_, rfl⟩
    obtain ⟨V, hV⟩ : ∃ V, V = W.setCells sb 0 co.cells := ⟨_, rfl⟩
    rw [← hX] at l1 e1
    rw [← hV] at e1
    have HV : Hid (V = W.setCells sb 0 co.cells) := hV
    have L1 : Hid _ := l1
    have S1 : Hid _ := e1
    clear hco hc hX hV l1 e1
    go_upto_region 15 with (first | (refine listL47 rfl _ rfl ob rfl X L1.out ?_) | (refine listS47 rfl _ _ rfl sb X V rfl rfl S1.out ?_))
    clear L1 S1 s13 z1
    obtain ⟨m1, m2, m3⟩ := merge_copy HS.out.m.blk HS.out.m.rc8 HO.out.m (HD.out sb (.inl rfl))
    rw [← HV.out] at m1 m2 m3
    have M1 : Hid (Mem V sb co co.ns) := m1
    have I1 : Hid (Inv co (K + 2 * Ko)) := HO.out.i.mono (by omega)
    have B1 : Hid (V.heap[ob]? = some (.cells ⟨co.cells⟩ 47 (0, 0))) := m2
    have N1 : Hid (¬ co.fp sb ob) := by
      rintro (e | e | e | e | e)
      · exact HD.out sb (.inl rfl) (.inl e.symm)
      · exact HO.out.m.sb_ne.1 e
      · exact HO.out.m.sb_ne.2.1 e
      · exact HO.out.m.sb_ne.2.2.1 e
      · exact HO.out.m.sb_ne.2.2.2 e
    have E1 : Hid (∀ x, co.mem x ↔ c.mem x ∨ co.mem x) := by
      intro x
      refine ⟨.inr, ?_⟩
      rintro (⟨e, he, _⟩ | h)
      · rw [List.eq_nil_of_length_eq_zero HZ.out] at he; cases he
      · exact h
    have F1 : Hid (Frm (fun b => c.fp sb b ∨ co.fp ob b) w V) := (Frm.of_below HB.out).trans m3 fun b hb => .inl (.inl (.inl hb))
    have P1 : Hid (∀ b, co.fp sb b → c.fp sb b ∨ co.fp ob b ∨ w.heap.size ≤ b) := by
      rintro b (e | e)
      · exact .inl (.inl e)
      · exact .inr (.inl (.inr e))
    clear m1 m2 m3 HV
    have t17 := M1.out.c17
    have t18 := M1.out.c18
    have u17 := M1.out.frozen 17
    have u18 := M1.out.frozen 18
    go_upto_region 16 with fail
    have MM : Hid (Merged sb ob (K + 2 * Ko) c co w (((V.setCell ⟨sb, 17, none⟩ (.int .i64 x)).setCell ⟨sb, 18, none⟩ (.int .i64 y)).setCells ob 0 (emptySC 0 0).cells)) := by
      rw [HX.out, HY.out]
      exact merged_end (c2 := co) M1.out I1.out B1.out HO.out.m.rc8 N1.out E1.out F1.out P1.out
    have hos : ob ≠ sb := fun e => N1.out (.inl e)
    have B2 : Hid (((V.setCell ⟨sb, 17, none⟩ (.int .i64 x)).setCell ⟨sb, 18, none⟩ (.int .i64 y)).heap[ob]? = some (.cells ⟨co.cells⟩ 47 (0, 0))) :=
      (Below.heap_setCell _ _ _ ob hos).trans ((Below.heap_setCell _ _ _ ob hos).trans B1.out)
    clear M1 I1 B1 N1 E1 F1 P1 t17 t18 u17 u18 hos
    generalize ((V.setCell ⟨sb, 17, none⟩ (.int .i64 x)).setCell ⟨sb, 18, none⟩ (.int .i64 y)) = U at *
    have e2 := store47 (W := U) (ob := ob) (c := co) (vs := (emptySC 0 0).cells) B2.out HO.out.m.rc8 rfl empty_one
    obtain ⟨V2, hV2⟩ : ∃ V2, V2 = U.setCells ob 0 (emptySC 0 0).cells := ⟨_, rfl⟩
    rw [← hV2] at e2 MM
    clear hV2
    have e3 : (emptySC 0 0).cells.toArray = #[.slice none 0 0, .map none, .int .i32 0, .int .i32 0, .int .i32 0, .int .i32 0, .int .i32 0, .int .i32 0, .int .i32 0, .int .i32 0, .int .i64 0, .slice none 0 0, .int .i32 0, .slice none 0 0, .int .i64 0, .bool false, .int .i64 0, .int .i64 0, .int .i64 0] := rfl
    rw [e3] at e2
    have S2 : Hid _ := e2
    clear e3 B2 e2
    go_wp2_with (refine listS47 rfl _ _ rfl ob _ V2 rfl rfl S2.out ?_)
    go_end0
    exact ⟨rfl, MM.out⟩

  · have z1 : ((c.es.length : Int) == 0) = false := by rw [beq_eq_false_iff_ne]; omega
    clear hz hc hco
    obtain ⟨n, hn⟩ : ∃ n, n = co.ns.length := ⟨_, rfl⟩
    have HN : Hid (n = co.ns.length) := hn
    have hnK : n ≤ Ko := by rw [hn]; exact HO.out.i.nsK
    have o0 := Mem.cells HO.out.m HCO.out 0 _ rfl
    rw [← hn] at o0
    clear hn
    have hm := make44 n (by omega)
    go_upto_region 4 with fail
    clear hm s13 z1 o0
    have OI : Hid (OwnI (W.alloc (.cells (madeCells #[.int .i32 0] n) 21)) W.heap.size n (List.replicate n 0)) := ownI_made W n (by omega)
    have V0 : Hid (Via sb c c W (W.alloc (.cells (madeCells #[.int .i32 0] n) 21))) := Via.of_below ((Below.refl _ _).alloc (Nat.le_refl _) _)
    have S0 : Hid (SetAt (W.alloc (.cells (madeCells #[.int .i32 0] n) 21)) sb c K) := ⟨HS.out.m.frm (Frm.alloc (fun _ => False) W _) (fun _ _ => id), HS.out.i⟩
    have G0 : Hid (¬ c.fp sb W.heap.size) := fun e => absurd (HS.out.m.fp_lt _ e) (Nat.lt_irrefl _)
    generalize (W.alloc (.cells (madeCells #[.int .i32 0] n) 21)) = W0 at *
    obtain ⟨gi, hgi⟩ : ∃ gi, gi = W.heap.size := ⟨_, rfl⟩
    rw [← hgi] at OI G0 ⊢
    have HGI : Hid (gi = W.heap.size) := hgi
    clear hgi
    have OM : Hid (∀ c1 wr, Via sb c c1 W wr → Mem wr ob co co.ns) := fun c1 wr v => HO.out.m.frm v.frm fun b hb hx => HD.out b hx hb
    have o0 := Mem.cells (OM.out _ _ V0.out) HCO.out 0 _ rfl
    rw [← HN.out] at o0
    go_upto_region 5 with fail
    go_loopw [51] (fun vi wr => ∃ (k : Nat) (c1 : SC) (is : List Nat), vi = .int .i64 k ∧ k ≤ n ∧ SetAt wr sb c1 (K + k) ∧ Via sb c c1 W wr ∧ ¬ c1.fp sb gi ∧ OwnI wr gi n is ∧ (∀ j, j < k → ∃ i, is[j]? = some i ∧ ∃ nt, c1.ns[i]? = some nt ∧ co.ns[j]? = some nt) ∧ c1.es = c.es ∧ c.ns <+: c1.ns) (fun vi _ => n - (intOf vi).toNat)
    case atStart => exact ⟨0, c, List.replicate n 0, rfl, by omega, S0.out, V0.out, G0.out, OI.out, fun j hj => absurd hj (Nat.not_lt_zero _), rfl, List.prefix_refl _⟩
    case round =>
      clear S0 V0 G0 OI o0
      obtain ⟨k, c1, is, rfl, hk, hs, hv, hg, hoi, hix, hes, hpr⟩ := hrel
      have S1 : Hid (SetAt wr sb c1 (K + k)) := hs
      have V1 : Hid (Via sb c c1 W wr) := hv
      have G1 : Hid (¬ c1.fp sb gi) := hg
      have OI : Hid (OwnI wr gi n is) := hoi
      have IX : Hid (∀ j, j < k → ∃ i, is[j]? = some i ∧ ∃ nt, c1.ns[i]? = some nt ∧ co.ns[j]? = some nt) := hix
      have ES : Hid (c1.es = c.es) := hes
      have PR : Hid (c.ns <+: c1.ns) := hpr
      clear hs hv hg hoi hix hes hpr
      by_cases hlt : k < n
      · have i2 : (k : Int) < (n : Int) := by omega
        have hkn : k < co.ns.length := by rw [← HN.out]; exact hlt
        have MO := OM.out _ _ V1.out
        obtain ⟨gn, cn', e, _, _⟩ := MO.nts.form (by omega)
        have NT := MO.nts
        rw [e] at NT
        obtain ⟨a0, a1, a2, a3⟩ := own_at4 NT rfl k hkn
        have han : an = some ⟨gn, 0, none⟩ := by
          have := HNV.out.symm.trans e
          simp only [Value.slice.injEq] at this
          exact this.1
        clear NT MO e
        obtain ⟨nt, hnt⟩ : ∃ nt, nt = co.ns[k] := ⟨_, rfl⟩
        rw [← hnt] at a0 a1 a2 a3
        have HNT : Hid (nt = co.ns[k]) := hnt
        clear hnt
        rw [han]
        have S2 : Hid (SetAt (wr.alloc (boxN nt)) sb c1 (K + k)) := ⟨S1.out.m.frm (Frm.alloc (fun _ => False) wr _) (fun _ _ => id), S1.out.i⟩
        have V2 : Hid (Via sb c c1 W (wr.alloc (boxN nt))) := V1.out.trans (Via.of_below ((Below.refl _ _).alloc (Nat.le_refl _) _))
        have OI2 : Hid (OwnI (wr.alloc (boxN nt)) gi n is) := ownI_kept OI.out (Below.heap_alloc wr _ gi (ownI_lt OI.out))
        clear S1 V1 OI
        go_wp2_with fail
        refine (f22 sb (K + k) c1 nt _ S2.out (by omega)).mono ?_
        generalize (wr.alloc (boxN nt)) = wa at *
        rintro x w3 ⟨i, c2, rfl, hs, hn2, hp2, he2, _, _, _, _, _, hv2⟩
        have hgw := ownI_lt OI2.out
        have OI3 : Hid (OwnI w3 gi n is) := ownI_kept OI2.out (hv2.frm.block gi hgw G1.out)
        have G3 : Hid (¬ c2.fp sb gi) := fun x => by
          rcases hv2.fp gi x with h1 | h1
          · exact G1.out h1
          · omega
        have hkl : k < is.length := by rw [ownI_len OI2.out]; exact hlt
        have c4 := ownI_at OI3.out k is[k] (by simp [hkl])
        have f4 : w3.frozen? ⟨gi, k, none⟩ = false := World.ownsRow.frozenAt OI3.out k
        have R1 : Hid (SetAt (w3.setCell ⟨gi, k, none⟩ (.int .i32 (i : Nat))) sb c2 (K + (k + 1))) := ⟨hs.m.frm (Frm.setCell (fun b => b = gi) w3 _ _ rfl) (fun b hb e => G3.out (e ▸ hb)), hs.i⟩
        have R2 : Hid (Via sb c c2 W (w3.setCell ⟨gi, k, none⟩ (.int .i32 (i : Nat)))) := by
          have v3 := V2.out.trans hv2
          exact ⟨v3.frm.trans (Frm.setCell (fun b => b = gi) w3 ⟨gi, k, none⟩ _ rfl) fun b hb => .inr (by rw [hb, HGI.out]; exact Nat.le_refl _), v3.fp⟩
        have R3 : Hid (OwnI (w3.setCell ⟨gi, k, none⟩ (.int .i32 (i : Nat))) gi n (is.set k i)) := ownI_set OI3.out k i
        have R4 : Hid (∀ j, j < k + 1 → ∃ q, (is.set k i)[j]? = some q ∧ ∃ nt, c2.ns[q]? = some nt ∧ co.ns[j]? = some nt) := by
          intro j hj
          rcases Nat.lt_or_ge j k with hjk | hjk
          · obtain ⟨q, q1, m, q2, q3⟩ := IX.out j hjk
            refine ⟨q, by rw [List.getElem?_set_ne (by omega)]; exact q1, m, ?_, q3⟩
            obtain ⟨t, ht⟩ := hp2
            have hq : q < c1.ns.length := by
              rcases Nat.lt_or_ge q c1.ns.length with h1 | h1
              · exact h1
              · rw [List.getElem?_eq_none h1] at q2; cases q2
            rw [← ht, List.getElem?_append_left hq]
            exact q2
          · obtain rfl : j = k := by omega
            exact ⟨i, by rw [List.getElem?_set_self hkl], nt, hn2, by rw [HNT.out]; simp [hkn]⟩
        have R5 : Hid (c2.es = c.es ∧ c.ns <+: c2.ns) := ⟨he2.trans ES.out, PR.out.trans hp2⟩
        clear hs hn2 hp2 he2 hv2 OI2 OI3 S2 V2 G1 IX ES PR a0 a1 a2 a3
        go_wp2
        go_roundw
        case rel => exact ⟨k + 1, c2, is.set k i, by go_num, by omega, R1.out, R2.out, G3.out, R3.out, R4.out, R5.out.1, R5.out.2⟩
        case measure => simp [intOf]; omega
      · obtain rfl : k = n := by omega
        obtain ⟨m, hm⟩ : ∃ m, m = co.es.length := ⟨_, rfl⟩
        have HM : Hid (m = co.es.length) := hm
        have hmK : m ≤ Ko := by rw [hm]; exact HO.out.i.esK
        have o13 := Mem.cells (OM.out _ _ V1.out) HCO.out 13 _ rfl
        rw [← hm] at o13
        clear hm
        have HM1 : Hid (∀ x, c1.mem x ↔ c.mem x ∨ x ∈ (rd co).take 0) := fun x => by
          rw [mem_prefix PR.out ES.out HS.out.i.esb]
          simp
        have hISL := ownI_len OI.out
        obtain ⟨NS, hNS⟩ : ∃ NS, NS = c1.ns := ⟨_, rfl⟩
        have IX2 : Hid (∀ j, j < k → ∃ i, is[j]? = some i ∧ ∃ nt, NS[i]? = some nt ∧ co.ns[j]? = some nt) := by rw [hNS]; exact IX.out
        have HNS : Hid (c1.ns = NS) := hNS.symm
        have hNK : NS.length ≤ K + k := by rw [hNS]; exact S1.out.i.nsK
        clear IX ES PR hNS hISL hlt
        go_upto_region 10 with fail
        go_loopw [68] (fun vi wq => ∃ (q : Nat) (c2 : SC), vi = .int .i64 q ∧ q ≤ m ∧ SetAt wq sb c2 (K + k + q) ∧ Via sb c c2 W wq ∧ ¬ c2.fp sb gi ∧ OwnI wq gi k is ∧ c2.ns = NS ∧ (∀ x, c2.mem x ↔ c.mem x ∨ x ∈ (rd co).take q)) (fun vi _ => m - (intOf vi).toNat)
        case atStart => exact ⟨0, c1, rfl, by omega, S1.out, V1.out, G1.out, OI.out, HNS.out, HM1.out⟩
        case round =>
          clear S1 V1 G1 OI HNS HM1 o13
          obtain ⟨q, c2, rfl, hq, hs, hv, hg, hoi, hns, hmm⟩ := hrel
          have S1 : Hid (SetAt wr sb c2 (K + k + q)) := hs
          have V1 : Hid (Via sb c c2 W wr) := hv
          have G1 : Hid (¬ c2.fp sb gi) := hg
          have OI : Hid (OwnI wr gi k is) := hoi
          have HNS : Hid (c2.ns = NS) := hns
          have HMM : Hid (∀ x, c2.mem x ↔ c.mem x ∨ x ∈ (rd co).take q) := hmm
          clear hs hv hg hoi hns hmm
          by_cases hlt : q < m
          · have i2 : (q : Int) < (m : Int) := by omega
            have hqe : q < co.es.length := by rw [← HM.out]; exact hlt
            have hqr : q < (rd co).length := by rw [rd_len]; exact hqe
            have MO := OM.out _ _ V1.out
            obtain ⟨ge, ce', e, _, _⟩ := MO.ent.form (by omega)
            have OE : OwnE wr ge co.es.length ce' co.es := by have := MO.ent; rw [e] at this; exact this
            obtain ⟨a0, a1, a2⟩ := own_at3 OE q (q * 3) hqe rfl
            have hae : ae = some ⟨ge, 0, none⟩ := by
              have := HEV.out.symm.trans e
              simp only [Value.slice.injEq] at this
              exact this.1
            clear OE MO e
            obtain ⟨d, hdd⟩ : ∃ d, d = co.es[q] := ⟨_, rfl⟩
            rw [← hdd] at a0 a1 a2
            have hdn : d.n < k := by rw [hdd, HN.out]; exact HO.out.i.esb _ (List.getElem_mem hqe)
            obtain ⟨i, ix, nt, hn1, hn2⟩ := IX2.out d.n hdn
            have hiN : i < NS.length := by
              rcases Nat.lt_or_ge i NS.length with h1 | h1
              · exact h1
              · rw [List.getElem?_eq_none h1] at hn1; cases hn1
            have HRD : Hid ((rd co)[q] = mkD d nt) := by
              show (rd co)[q] = mkD d nt
              rw [rd_get co q hqe hqr, ← hdd, hn2]
              rfl
            have HIX : Hid (is[d.n]? = some i) := ix
            have HNT : Hid (NS[i]? = some nt) := hn1
            have i3 : (d.n : Int) < (k : Int) := by omega
            have i4 : (0 : Int) ≤ (d.n : Int) := by omega
            clear hdd ix hn1 hn2
            rw [hae]
            go_upto_region 12 with fail
            have hBf : Hid (¬ c2.fp sb wr.heap.size) := fun e => absurd (S1.out.m.fp_lt _ e) (Nat.lt_irrefl _)
            have hBW : Hid (W.heap.size ≤ wr.heap.size) := V1.out.frm.size
            have hgB : Hid (gi < wr.heap.size) := ownI_lt OI.out
            have S2 : Hid (SetAt (wr.alloc (boxE d)) sb c2 (K + k + q)) := ⟨S1.out.m.frm (Frm.alloc (fun _ => False) wr _) (fun _ _ => id), S1.out.i⟩
            have V2 : Hid (Via sb c c2 W (wr.alloc (boxE d))) := V1.out.trans (Via.of_below ((Below.refl _ _).alloc (Nat.le_refl _) _))
            have OI2 : Hid (OwnI (wr.alloc (boxE d)) gi k is) := ownI_kept OI.out (Below.heap_alloc wr _ gi hgB.out)
            have HBB : Hid ((wr.alloc (boxE d)).heap[wr.heap.size]? = some (boxE d)) := heap_alloc_new _ _
            clear S1 V1 OI a0 a1 a2
            generalize (wr.alloc (boxE d)) = wa at *
            generalize wr.heap.size = B at *
            have b0 : wa.cell? ⟨B, 0, none⟩ = some (.int .i32 d.l) := by rw [cell_of_row wa B 0 _ 55 (0, 0) HBB.out]; rfl
            have b1 : wa.cell? ⟨B, 1, none⟩ = some (.int .i32 d.c) := by rw [cell_of_row wa B 1 _ 55 (0, 0) HBB.out]; rfl
            have b2 : wa.cell? ⟨B, 2, none⟩ = some (.int .i32 (d.n : Nat)) := by rw [cell_of_row wa B 2 _ 55 (0, 0) HBB.out]; rfl
            have bf : wa.frozen? ⟨B, 2, none⟩ = false := frozen_of_row wa B 2 _ 55 HBB.out
            have cI := ownI_at OI2.out d.n i HIX.out
            have S3 : Hid (SetAt (wa.setCell ⟨B, 2, none⟩ (.int .i32 (i : Nat))) sb c2 (K + k + q)) := ⟨S2.out.m.frm (Frm.setCell (fun b => b = B) wa _ _ rfl) (fun b hb e => hBf.out (e ▸ hb)), S2.out.i⟩
            have V3 : Hid (Via sb c c2 W (wa.setCell ⟨B, 2, none⟩ (.int .i32 (i : Nat)))) :=
              ⟨V2.out.frm.trans (Frm.setCell (fun b => b = B) wa ⟨B, 2, none⟩ _ rfl) fun b hb => .inr (by rw [hb]; exact hBW.out), V2.out.fp⟩
            have OI3 : Hid (OwnI (wa.setCell ⟨B, 2, none⟩ (.int .i32 (i : Nat))) gi k is) := ownI_kept OI2.out (Below.heap_setCell _ _ _ gi (by have := hgB.out; show gi ≠ B; omega))
            have hiK : i ≤ 2147483647 := by omega
            have hin : i < c2.ns.length := by rw [HNS.out]; exact hiN
            have C := f23 sb (K + k + q) c2 ⟨d.l, d.c, i, d.hl, d.hc, hiK⟩ _ S3.out (by omega) hin
            have HC : Hid (Calls Try.prog 23 _ _ _) := C
            clear S2 V2 OI2 HBB C S3
            go_wp2_with fail
            refine HC.out.mono ?_
            generalize (wa.setCell ⟨B, 2, none⟩ (.int .i32 (i : Nat))) = wb at *
            rintro x w4 ⟨rfl, c3, hs, hns3, hes3, _, _, hv3⟩
            have hgw := ownI_lt OI3.out
            have R1 : Hid (SetAt w4 sb c3 (K + k + (q + 1))) := hs
            have R2 : Hid (Via sb c c3 W w4) := V3.out.trans hv3
            have R3 : Hid (¬ c3.fp sb gi) := fun x => by
              rcases hv3.fp gi x with h1 | h1
              · exact G1.out h1
              · omega
            have R4 : Hid (OwnI w4 gi k is) := ownI_kept OI3.out (hv3.frm.block gi hgw G1.out)
            have R5 : Hid (c3.ns = NS) := hns3.trans HNS.out
            have R6 : Hid (∀ x, c3.mem x ↔ c.mem x ∨ x ∈ (rd co).take (q + 1)) := fun x => by
              rw [mem_add hns3 hes3 (by rw [HNS.out]; exact HNT.out), HMM.out, mem_take_succ hqr, HRD.out, or_assoc]
              rfl
            clear hs hns3 hes3 hv3 OI3 V3 G1 HNS HMM HC b0 b1 b2 bf cI hin
            go_wp2
            go_roundw
            case rel => exact ⟨q + 1, c3, by go_num, by omega, R1.out, R2.out, R3.out, R4.out, R5.out, R6.out⟩
            case measure => simp [intOf]; omega
          · obtain rfl : q = m := by omega
            have M1 : Hid (Mem wr sb c2 c2.ns) := S1.out.m
            have I1 : Hid (Inv c2 (K + 2 * Ko)) := S1.out.i.mono (by omega)
            have B1 : Hid (wr.heap[ob]? = some (.cells ⟨co.cells⟩ 47 (0, 0))) := (OM.out _ _ V1.out).blk
            have N1 : Hid (¬ c2.fp sb ob) := fun e => by
              rcases V1.out.fp ob e with h1 | h1
              · exact HD.out ob h1 (.inl rfl)
              · have := HO.out.m.fp_lt ob (.inl rfl)
                omega
            have E1 : Hid (∀ x, c2.mem x ↔ c.mem x ∨ co.mem x) := fun x => by
              rw [HMM.out, List.take_of_length_le (by rw [rd_len, ← HM.out]; exact Nat.le_refl _), rd_mem HO.out.i.esb]
            have F1 : Hid (Frm (fun b => c.fp sb b ∨ co.fp ob b) w wr) := (Frm.of_below HB.out).trans V1.out.frm fun b hb => .inl (.inl hb)
            have P1 : Hid (∀ b, c2.fp sb b → c.fp sb b ∨ co.fp ob b ∨ w.heap.size ≤ b) := fun b hb => by
              rcases V1.out.fp b hb with h1 | h1
              · exact .inl h1
              · exact .inr (.inr (Nat.le_trans HB.out.size h1))
            clear hlt hq
            have t17 := M1.out.c17
            have t18 := M1.out.c18
            have u17 := M1.out.frozen 17
            have u18 := M1.out.frozen 18
            go_upto_region 16 with fail
            have MM : Hid (Merged sb ob (K + 2 * Ko) c co w (((wr.setCell ⟨sb, 17, none⟩ (.int .i64 x)).setCell ⟨sb, 18, none⟩ (.int .i64 y)).setCells ob 0 (emptySC 0 0).cells)) := by
              rw [HX.out, HY.out]
              exact merged_end (c2 := c2) M1.out I1.out B1.out HO.out.m.rc8 N1.out E1.out F1.out P1.out
            have hos : ob ≠ sb := fun e => N1.out (.inl e)
            have B2 : Hid (((wr.setCell ⟨sb, 17, none⟩ (.int .i64 x)).setCell ⟨sb, 18, none⟩ (.int .i64 y)).heap[ob]? = some (.cells ⟨co.cells⟩ 47 (0, 0))) :=
              (Below.heap_setCell _ _ _ ob hos).trans ((Below.heap_setCell _ _ _ ob hos).trans B1.out)
            clear M1 I1 B1 N1 E1 F1 P1 t17 t18 u17 u18 hos
            generalize ((wr.setCell ⟨sb, 17, none⟩ (.int .i64 x)).setCell ⟨sb, 18, none⟩ (.int .i64 y)) = U at *
            have e2 := store47 (W := U) (ob := ob) (c := co) (vs := (emptySC 0 0).cells) B2.out HO.out.m.rc8 rfl empty_one
            obtain ⟨V2, hV2⟩ : ∃ V2, V2 = U.setCells ob 0 (emptySC 0 0).cells := ⟨_, rfl⟩
            rw [← hV2] at e2 MM
            clear hV2
            have e3 : (emptySC 0 0).cells.toArray = #[.slice none 0 0, .map none, .int .i32 0, .int .i32 0, .int .i32 0, .int .i32 0, .int .i32 0, .int .i32 0, .int .i32 0, .int .i32 0, .int .i64 0, .slice none 0 0, .int .i32 0, .slice none 0 0, .int .i64 0, .bool false, .int .i64 0, .int .i64 0, .int .i64 0] := rfl
            rw [e3] at e2
            have S2 : Hid _ := e2
            clear e3 B2 e2
            go_wp2_with (refine listS47 rfl _ _ rfl ob _ V2 rfl rfl S2.out ?_)
            go_end0
            exact ⟨rfl, MM.out⟩

end Go.Proofs.Qxb6627582a
