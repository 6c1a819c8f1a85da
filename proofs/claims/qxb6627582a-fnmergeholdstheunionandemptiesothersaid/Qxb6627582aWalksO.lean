import Derived.Test.Qxb6627582aWalksN
import Derived.Test.Qxb6627582aWalksI
namespace Go.Proofs.Qxb6627582a
open Go.RowKit Go.Sort

abbrev boxE (e : En) : Obj := .cells #[.int .i32 e.l, .int .i32 e.c, .int .i32 (e.n : Nat)] 55

theorem f28b (a b : En) (w : World) : Calls Try.prog 28 #[valE a, valE b] w fun e w' => e = .returned (.int .i64 (cmpE a b)) ∧ Below w.heap.size w w' :=
  (f28 a b w).mono fun _ _ ⟨h1, q, os, h2⟩ => ⟨h1, by
    subst h2
    refine ⟨rfl, rfl, rfl, by simp [grow, World.drewN], fun k hk => ?_⟩
    rw [heap_grow_old _ _ (by simpa [World.drewN] using hk)]
    rfl⟩

/-- 's.entries = append(s.entries, e)' at a step of a region that draws -/
theorem stepE {ops : Array Oper} {o : Oper} {a : Act} {K : Act → World → Prop} {Q : Exit → Act → World → Prop} {E : Prop} (w : World) (hgd : o.guard = none) (s x : Operand)
    (ho : o.op = .call { callee := .builtin .append, args := #[s, x], argTypes := #[45, 45] }) (v : Value) (ns : List En) (n : En) (H : Nat)
    (hs : a.eval s = v) (hown : w.ownsRow 0 55 3 v ns.length (ns.flatMap encE)) (hx : a.eval x = .slice (some ⟨H, 0, none⟩) 1 1) (hB : w.heap[H]? = some (boxE n)) (hl : ns.length ≤ 1048576)
    (h : ∀ g cap w', w'.ownsRow 0 55 3 (.slice (some ⟨g, 0, none⟩) (ns.length + 1) cap) (ns ++ [n]).length ((ns ++ [n]).flatMap encE) → w.grownBy w' v.ownBlock → (v.ownBlock = some g ∨ g = w.heap.size) → g < w'.heap.size → K (a.put o.dst (.slice (some ⟨g, 0, none⟩) (ns.length + 1) cap)) w') :
    if Region.wanted o (yielded ops a.tmps) = true then Oper.wp Try.prog o a w K Q else E := by
  obtain ⟨i, hi, hz0, hz1, hz2⟩ := info_parts Try.info55
  refine step_append_lies w hgd s x 45 ho 0 55 i _ 3 12 Try.underlying45 hi hz0 hz1 hz2 rfl (by decide) v ns.length _ hs hown ⟨H, 0, none⟩ 1 1 (encE n) hx rfl (World.news_of_block hB) ?_ (by decide) (by unfold maxLen; omega) (by omega) (Nat.zero_le _) w.heap.size rfl ?_
  · intro u hu
    simp [encE] at hu
    rcases hu with rfl | rfl | rfl <;> rfl
  · intro g cap w' h1 h2 h3 h4
    refine h g cap w' ?_ h2 h3 h4
    rw [List.length_append, List.flatMap_append]
    simpa using h1

theorem grownBy_of_below {w w' : World} (h : Below w.heap.size w w') (r : Option Nat) : w.grownBy w' r := ⟨h.os, h.tape, h.output, h.size, fun k hk _ => h.block k hk⟩

set_option maxRecDepth 100000 in
set_option maxHeartbeats 8000000 in
theorem f23 (sb K : Nat) (c : SC) (e : En) (w : World) (h : SetAt w sb c K) (hK : K < 900000) (hen : e.n < c.ns.length) :
    Calls Try.prog 23 #[.pointer (some ⟨sb, 0, none⟩), valE e] w fun x w' => x = .returned (.tuple #[]) ∧ ∃ c' : SC, SetAt w' sb c' (K + 1) ∧ c'.ns = c.ns ∧ (∀ d, d ∈ c'.es ↔ d ∈ c.es ∨ d = e) ∧ c'.de = c.de ∧ c'.dw = c.dw ∧ Via sb c c' w w' := by
  have HS0 : Hid (SetAt (w.alloc (boxE e)) sb c K) := ⟨h.m.frm (Frm.alloc (fun _ => False) w (boxE e)) (fun _ _ => id), h.i⟩
  have HV0 : Hid (Via sb c c w (w.alloc (boxE e))) := Via.of_below ((Below.refl _ _).alloc (Nat.le_refl _) _)
  have HB0 : Hid ((w.alloc (boxE e)).heap[w.heap.size]? = some (boxE e)) := heap_alloc_new _ _
  clear h
  go_enter Try.func23, Try.ntmps23
  go_upto_region 1 with fail
  generalize (w.alloc (boxE e)) = W at *
  generalize w.heap.size = B at *
  obtain ⟨ao, ce, hev⟩ := own_slice HS0.out.m.ent
  have s13 : W.cell? ⟨sb, 13, none⟩ = some (.slice ao c.es.length ce) := by rw [HS0.out.m.c13, hev]
  have HEV : Hid (c.ev = .slice ao c.es.length ce) := hev
  clear hev
  have hEK := HS0.out.i.esK
  by_cases hL : c.es.length = 0
  · go_wp2
    go_quiet (fail)
    have M1 : Hid (Mem (W.drewN nq) sb c c.ns) := HS0.out.m.kept fun _ _ => rfl
    have V1 : Hid (Via sb c c w (W.drewN nq)) := HV0.out.trans (Via.of_below (below_drewN (Below.refl _ _) _))
    have HB1 : Hid ((W.drewN nq).heap[B]? = some (boxE e)) := HB0.out
    have I1 : Hid (Inv c K) := HS0.out.i
    clear HS0 HV0 HB0 s13 hL
    generalize (W.drewN nq) = W1 at *
    obtain ⟨c1, hc1⟩ : ∃ c1, c1 = c := ⟨_, rfl⟩
    have EQ1 : Hid (c1.ns = c.ns ∧ c1.es = c.es ∧ c1.de = c.de ∧ c1.dw = c.dw ∧ c1.ev = c.ev) := by rw [hc1]; exact ⟨rfl, rfl, rfl, rfl, rfl⟩
    have M1' : Hid (Mem W1 sb c1 c1.ns) := by rw [hc1]; exact M1.out
    have V1' : Hid (Via sb c c1 w W1) := by rw [hc1]; exact V1.out
    have I1' : Hid (Inv c1 K) := by rw [hc1]; exact I1.out
    clear M1 V1 I1 hc1
    have hev1 : c1.ev = .slice ao c.es.length ce := EQ1.out.2.2.2.2.trans HEV.out
    have s13 : W1.cell? ⟨sb, 13, none⟩ = some (.slice ao c.es.length ce) := by rw [M1'.out.c13, hev1]
    have HE1 : Hid (c1.ev = .slice ao c.es.length ce) := hev1
    have o1 : W1.ownsRow 0 55 3 c1.ev c.es.length (c.es.flatMap encE) := by have := M1'.out.ent; rw [EQ1.out.2.1] at this; exact this
    have O1 : Hid (W1.ownsRow 0 55 3 c1.ev c.es.length (c.es.flatMap encE)) := o1
    clear hev1 o1
    by_cases hcap : c.es.length = ce
    · have t1 : ((c.es.length : Int) == (ce : Int)) = true := beq_iff_eq.mpr (by omega)
      have HCAP : Hid (c.es.length = ce) := hcap
      clear hcap
      go_wp2
      go_quiet (fail)
      clear t1
      have M2 : Hid (Mem (W1.drewN nq) sb c1 c1.ns) := M1'.out.kept fun _ _ => rfl
      have V2 : Hid (Via sb c c1 w (W1.drewN nq)) := V1'.out.trans (Via.of_below (below_drewN (Below.refl _ _) _))
      have HB2 : Hid ((W1.drewN nq).heap[B]? = some (boxE e)) := HB1.out
      have O2 : Hid ((W1.drewN nq).ownsRow 0 55 3 c1.ev c.es.length (c.es.flatMap encE)) := owns_kept O1.out fun _ _ => rfl
      clear M1' V1' HB1 O1 s13
      generalize (W1.drewN nq) = W2 at *
      have s13 : W2.cell? ⟨sb, 13, none⟩ = some (.slice ao c.es.length ce) := by rw [M2.out.c13, HE1.out]
      have f13 : W2.frozen? ⟨sb, 13, none⟩ = false := M2.out.frozen 13
      have kS : sb < W2.heap.size := heap_lt M2.out.blk
      have HC : Hid (Calls Try.prog 29 #[.slice ao c.es.length ce, .int .i64 (c.es.length : Nat)] W2.drew fun x w' => ∃ (a' : Option Addr) (c' : Nat), x = .returned (.slice a' c.es.length c') ∧ w'.ownsRow 0 55 3 (.slice a' c.es.length c') c.es.length (c.es.flatMap encE) ∧ Below W2.drew.heap.size W2.drew w' ∧ Moved W2.drew c1.ev (.slice a' c.es.length c')) := by
        have hcap := HCAP.out
        by_cases h0 : c.es.length = 0
        · have hce : ce = 0 := by omega
          have h1 := f29_zero ao c.es.length ce W2.drew h0 hce
          have h2 : (Value.int .i64 ((c.es.length : Nat) : Int)) = .int .i64 0 := by rw [h0]; rfl
          show Calls _ _ _ _ _
          rw [h2]
          refine h1.mono ?_
          rintro x w' ⟨rfl, rfl⟩
          exact ⟨_, _, rfl, by rw [← HE1.out]; exact owns_kept O2.out fun _ _ => rfl, Below.refl _ _, .inl (by rw [HE1.out])⟩
        · have o2 : W2.drew.ownsRow 0 55 3 c1.ev c.es.length (c.es.flatMap encE) := owns_kept O2.out fun _ _ => rfl
          obtain ⟨g, cp, hf, _, _⟩ := o2.form (by omega)
          have h3 : Value.slice ao c.es.length ce = .slice (some ⟨g, 0, none⟩) c.es.length cp := by rw [← HE1.out, ← hf]
          simp only [Value.slice.injEq, true_and] at h3
          obtain ⟨hao, rfl⟩ := h3
          rw [hf, ← hcap] at o2
          show Calls _ _ _ _ _
          rw [hao, ← hcap]
          refine (f29 g c.es.length c.es W2.drew o2 (by omega) (by omega)).mono ?_
          rintro x w' ⟨G, rfl, o3, b3, _⟩
          exact ⟨_, _, rfl, o3, b3, .inr ⟨_, rfl, Nat.le_refl _⟩⟩
      go_upto_region 5 with fail
      go_cut [] (fun wx => ∃ v', Mem wx sb { c1 with ev := v' } c1.ns ∧ Via sb c { c1 with ev := v' } w wx ∧ wx.heap[B]? = some (boxE e))
      case first =>
        go_region_with (go_at_call 29; refine HC.out.mono ?_; rintro x w3 ⟨a', c', rfl, o3, b3, m3⟩; have k1 : w3.cell? ⟨sb, 13, none⟩ = some (.slice ao c.es.length ce) := (b3.cell (p := ⟨sb, 13, none⟩) kS).trans s13; have k2 : w3.frozen? ⟨sb, 13, none⟩ = false := (b3.frozen (p := ⟨sb, 13, none⟩) kS).trans f13)
        all_goals
          go_wp2_with fail
          go_meet
          have md : Mem W2.drew sb c1 c1.ns := M2.out.kept fun _ _ => rfl
          have o4 : w3.ownsRow 0 55 3 (.slice a' c.es.length c') c1.es.length (c1.es.flatMap encE) := by rw [EQ1.out.2.1]; exact o3
          have g4 := grownBy_of_below b3 c1.ev.ownBlock
          refine ⟨_, md.entered _ c1.es g4 o4 m3, V2.out.drew.trans (Via.entered _ c1.es g4 m3), ?_⟩
          refine (Below.heap_setCell _ _ _ B ?_).trans ((b3.block B (heap_lt HB2.out)).trans HB2.out)
          intro h
          have h1 := HB2.out
          rw [show B = sb from h, M2.out.blk] at h1
          simp at h1
      case rest =>
        obtain ⟨v', m3, v3, hb3⟩ := hcut
        obtain ⟨c2, hc2⟩ : ∃ c2, c2 = ({ c1 with ev := v' } : SC) := ⟨_, rfl⟩
        have EQ2 : Hid (c2.ns = c.ns ∧ c2.es = c.es ∧ c2.de = c.de ∧ c2.dw = c.dw) := by rw [hc2]; exact ⟨EQ1.out.1, EQ1.out.2.1, EQ1.out.2.2.1, EQ1.out.2.2.2.1⟩
        have M6 : Hid (Mem wc sb c2 c2.ns) := by rw [hc2]; exact m3
        have V6 : Hid (Via sb c c2 w wc) := by rw [hc2]; exact v3
        have HB6 : Hid (wc.heap[B]? = some (boxE e)) := hb3
        have I6 : Hid (Inv c2 K) := by
          rw [hc2]
          obtain ⟨j1, j2, j3, j4, j5, j6, j7, j8⟩ := I1'.out
          exact ⟨j1, j2, j3, j4, j5, j6, j7, j8⟩
        clear m3 v3 hb3 hc2 M2 V2 HB2 O2 HC s13 f13 kS EQ1 I1' HE1 HEV HCAP
        have HLEN : Hid (c2.es.length = c.es.length) := by rw [EQ2.out.2.1]; rfl
        have hKe := I6.out.esK
        have s13 : wc.cell? ⟨sb, 13, none⟩ = some c2.ev := M6.out.c13
        have hb6 := HB6.out
        have y0 : wc.cell? ⟨B, 0, none⟩ = some (.int .i32 e.l) := by rw [cell_of_row wc B 0 _ 55 (0, 0) hb6]; rfl
        have y1 : wc.cell? ⟨B, 1, none⟩ = some (.int .i32 e.c) := by rw [cell_of_row wc B 1 _ 55 (0, 0) hb6]; rfl
        have y2 : wc.cell? ⟨B, 2, none⟩ = some (.int .i32 (e.n : Nat)) := by rw [cell_of_row wc B 2 _ 55 (0, 0) hb6]; rfl
        clear hb6
        have hsbl : sb < wc.heap.size := heap_lt M6.out.blk
        have M6d : Hid (Mem wc.drew sb c2 c2.ns) := M6.out.kept fun _ _ => rfl
        have M6a : Hid (Mem (wc.drew.alloc (boxE e)) sb c2 c2.ns) := M6d.out.frm (Frm.alloc (fun _ => False) wc.drew _) (fun _ _ => id)
        have HNE : Hid (some sb ≠ c2.ev.ownBlock) := fun h => M6.out.sb_ne.2.2.1 h.symm
        go_upto_region 6 with fail
        go_cut [] (fun wx => ∃ (aa : Option Addr) (cc : Nat), ∃ v', v' = .slice aa (c2.es.length + 1) cc ∧ Mem wx sb { c2 with ev := v', es := c2.es ++ [e] } c2.ns ∧ Via sb c { c2 with ev := v', es := c2.es ++ [e] } w wx)
        case first =>
          go_region_law (refine stepE _ rfl (.tmp 56) (.tmp 58) rfl c2.ev c2.es e wc.heap.size (by kernel_rfl) (((owns_kept M6.out.ent fun b hb => rfl : wc.drew.ownsRow 0 55 3 c2.ev c2.es.length (c2.es.flatMap encE)).alloc _)) (by kernel_rfl) (heap_alloc_new _ _) (by omega) ?_; intro g cap w5 o5 g5 m5 l5; have c5 : w5.cell? ⟨sb, 13, none⟩ = some c2.ev := (g5.cell_far ⟨sb, 13, none⟩ (by simp; omega) HNE.out).trans M6a.out.c13; have f5 : w5.frozen? ⟨sb, 13, none⟩ = false := (g5.frozen_far ⟨sb, 13, none⟩ (by simp; omega) HNE.out).trans (M6a.out.frozen 13))
          all_goals
            go_wp2_with fail
            go_meet
            have g6 := grownBy_pre ((Below.refl _ wc.drew).alloc (Nat.le_refl _) (boxE e)) g5
            have m6 : Moved wc.drew c2.ev (.slice (some ⟨g, 0, none⟩) (c2.es.length + 1) cap) := moved_of m5 (by simp)
            have o6 : w5.ownsRow 0 55 3 (.slice (some ⟨g, 0, none⟩) (c2.es.length + 1) cap) (c2.es ++ [e]).length ((c2.es ++ [e]).flatMap encE) := o5
            exact ⟨_, cap, _, rfl, M6d.out.entered _ (c2.es ++ [e]) g6 o6 m6, V6.out.drew.trans (Via.entered _ (c2.es ++ [e]) g6 m6)⟩
        case rest =>
          obtain ⟨aa, cc, v', hv', m7, v7⟩ := hcut
          subst hv'
          obtain ⟨c3, hc3⟩ : ∃ c3, c3 = ({ c2 with ev := .slice aa (c2.es.length + 1) cc, es := c2.es ++ [e] } : SC) := ⟨_, rfl⟩
          have EQ3 : Hid (c3.ns = c.ns ∧ c3.es = c.es ++ [e] ∧ c3.de = c.de ∧ c3.dw = c.dw) := by
            rw [hc3]
            exact ⟨EQ2.out.1, by show c2.es ++ [e] = _; rw [EQ2.out.2.1], EQ2.out.2.2.1, EQ2.out.2.2.2⟩
          have HE3 : Hid (c3.ev = .slice aa (c2.es.length + 1) cc) := by rw [hc3]; rfl
          have M7 : Hid (Mem wc sb c3 c3.ns) := by rw [hc3]; exact m7
          have V7 : Hid (Via sb c c3 w wc) := by rw [hc3]; exact v7
          have I7 : Hid (Inv c3 (K + 1)) := by
            rw [hc3]
            obtain ⟨j1, j2, j3, j4, j5, j6, j7, j8⟩ := I6.out
            refine ⟨j1, j2, j3, j4, ?_, Nat.le_succ_of_le j6, ?_, Nat.le_succ_of_le j8⟩
            · intro d hd
              have hd' : d ∈ c2.es ++ [e] := hd
              show d.n < c2.ns.length
              rw [List.mem_append, List.mem_singleton] at hd'
              rcases hd' with h1 | h1
              · exact j5 d h1
              · rw [h1, EQ2.out.1]; exact hen
            · show (c2.es ++ [e]).length ≤ K + 1
              simp; omega
          have hl3 : c3.es.length = c2.es.length + 1 := by rw [hc3]; simp
          clear m7 v7 hc3 M6 V6 HB6 I6 s13 y0 y1 y2 hsbl M6d M6a HNE HLEN
          have s13 : wc.cell? ⟨sb, 13, none⟩ = some (.slice aa (c2.es.length + 1) cc) := by rw [M7.out.c13, HE3.out]
          have s16 := M7.out.c16
          generalize c2.es.length + 1 = L at *
          have HL3 : Hid (c3.es.length = L) := hl3
          have hL3 : L ≤ K + 1 := by rw [← hl3]; exact I7.out.esK
          have hL0 : 0 < c3.es.length := by rw [EQ3.out.2.1]; simp
          clear hl3
          obtain ⟨nx, hnx⟩ : ∃ nx, nx = c3.nx := ⟨_, rfl⟩
          rw [← hnx] at s16
          clear hnx
          go_wp2
          go_quiet (fail)
          have M8 : Hid (Mem (wc.drewN nq) sb c3 c3.ns) := M7.out.kept fun _ _ => rfl
          have V8 : Hid (Via sb c c3 w (wc.drewN nq)) := V7.out.trans (Via.of_below (below_drewN (Below.refl _ _) _))
          have MM : Hid (∀ d, d ∈ c3.es ↔ d ∈ c.es ∨ d = e) := fun d => by rw [EQ3.out.2.1, List.mem_append, List.mem_singleton]
          clear M7 V7 s13 s16
          generalize (wc.drewN nq) = W8 at *
          go_wp2_with fail
          · refine (f30 sb (K + 1) c3 W8 ⟨M8.out, I7.out⟩ (by omega) hL0).mono ?_
            rintro x w9 ⟨rfl, c4, hs, h1, h2, h3, h4, h5⟩
            have R1 : Hid (SetAt w9 sb c4 (K + 1)) := hs
            have R2 : Hid (c4.ns = c.ns ∧ (∀ d, d ∈ c4.es ↔ d ∈ c.es ∨ d = e) ∧ c4.de = c.de ∧ c4.dw = c.dw) := ⟨h1.trans EQ3.out.1, fun d => (h2 d).trans (MM.out d), h3.trans EQ3.out.2.2.1, h4.trans EQ3.out.2.2.2⟩
            have R3 : Hid (Via sb c c4 w w9) := V8.out.trans h5
            clear hs h1 h2 h3 h4 h5
            go_wp2
            go_end0
            exact ⟨rfl, c4, R1.out, R2.out.1, R2.out.2.1, R2.out.2.2.1, R2.out.2.2.2, R3.out⟩
          · go_end0
            exact ⟨rfl, c3, ⟨M8.out, I7.out⟩, EQ3.out.1, MM.out, EQ3.out.2.2.1, EQ3.out.2.2.2, V8.out⟩
    · have t1 : ((c.es.length : Int) == (ce : Int)) = false := beq_eq_false_iff_ne.mpr (by omega)
      go_wp2
      go_quiet (fail)
      have M6 : Hid (Mem (W1.drewN nq) sb c1 c1.ns) := M1'.out.kept fun _ _ => rfl
      have V6 : Hid (Via sb c c1 w (W1.drewN nq)) := V1'.out.trans (Via.of_below (below_drewN (Below.refl _ _) _))
      have HB6 : Hid ((W1.drewN nq).heap[B]? = some (boxE e)) := HB1.out
      have EQ2 : Hid (c1.ns = c.ns ∧ c1.es = c.es ∧ c1.de = c.de ∧ c1.dw = c.dw) := ⟨EQ1.out.1, EQ1.out.2.1, EQ1.out.2.2.1, EQ1.out.2.2.2.1⟩
      have I6 : Hid (Inv c1 K) := I1'.out
      clear M1' V1' HB1 O1 s13 EQ1 HE1 HEV I1'
      generalize (W1.drewN nq) = wc at *
      go_upto_region 6 with fail
      obtain ⟨c2, hc2⟩ : ∃ c2, c2 = c1 := ⟨_, rfl⟩
      rw [← hc2] at M6 V6 EQ2 I6
      clear hc2 t1 hcap
      have HLEN : Hid (c2.es.length = c.es.length) := by rw [EQ2.out.2.1]; rfl
      have hKe := I6.out.esK
      have s13 : wc.cell? ⟨sb, 13, none⟩ = some c2.ev := M6.out.c13
      have hb6 := HB6.out
      have y0 : wc.cell? ⟨B, 0, none⟩ = some (.int .i32 e.l) := by rw [cell_of_row wc B 0 _ 55 (0, 0) hb6]; rfl
      have y1 : wc.cell? ⟨B, 1, none⟩ = some (.int .i32 e.c) := by rw [cell_of_row wc B 1 _ 55 (0, 0) hb6]; rfl
      have y2 : wc.cell? ⟨B, 2, none⟩ = some (.int .i32 (e.n : Nat)) := by rw [cell_of_row wc B 2 _ 55 (0, 0) hb6]; rfl
      clear hb6
      have hsbl : sb < wc.heap.size := heap_lt M6.out.blk
      have M6d : Hid (Mem wc.drew sb c2 c2.ns) := M6.out.kept fun _ _ => rfl
      have M6a : Hid (Mem (wc.drew.alloc (boxE e)) sb c2 c2.ns) := M6d.out.frm (Frm.alloc (fun _ => False) wc.drew _) (fun _ _ => id)
      have HNE : Hid (some sb ≠ c2.ev.ownBlock) := fun h => M6.out.sb_ne.2.2.1 h.symm
      go_upto_region 6 with fail
      go_cut [] (fun wx => ∃ (aa : Option Addr) (cc : Nat), ∃ v', v' = .slice aa (c2.es.length + 1) cc ∧ Mem wx sb { c2 with ev := v', es := c2.es ++ [e] } c2.ns ∧ Via sb c { c2 with ev := v', es := c2.es ++ [e] } w wx)
      case first =>
        go_region_law (refine stepE _ rfl (.tmp 56) (.tmp 58) rfl c2.ev c2.es e wc.heap.size (by kernel_rfl) (((owns_kept M6.out.ent fun b hb => rfl : wc.drew.ownsRow 0 55 3 c2.ev c2.es.length (c2.es.flatMap encE)).alloc _)) (by kernel_rfl) (heap_alloc_new _ _) (by omega) ?_; intro g cap w5 o5 g5 m5 l5; have c5 : w5.cell? ⟨sb, 13, none⟩ = some c2.ev := (g5.cell_far ⟨sb, 13, none⟩ (by simp; omega) HNE.out).trans M6a.out.c13; have f5 : w5.frozen? ⟨sb, 13, none⟩ = false := (g5.frozen_far ⟨sb, 13, none⟩ (by simp; omega) HNE.out).trans (M6a.out.frozen 13))
        all_goals
          go_wp2_with fail
          go_meet
          have g6 := grownBy_pre ((Below.refl _ wc.drew).alloc (Nat.le_refl _) (boxE e)) g5
          have m6 : Moved wc.drew c2.ev (.slice (some ⟨g, 0, none⟩) (c2.es.length + 1) cap) := moved_of m5 (by simp)
          have o6 : w5.ownsRow 0 55 3 (.slice (some ⟨g, 0, none⟩) (c2.es.length + 1) cap) (c2.es ++ [e]).length ((c2.es ++ [e]).flatMap encE) := o5
          exact ⟨_, cap, _, rfl, M6d.out.entered _ (c2.es ++ [e]) g6 o6 m6, V6.out.drew.trans (Via.entered _ (c2.es ++ [e]) g6 m6)⟩
      case rest =>
        obtain ⟨aa, cc, v', hv', m7, v7⟩ := hcut
        subst hv'
        obtain ⟨c3, hc3⟩ : ∃ c3, c3 = ({ c2 with ev := .slice aa (c2.es.length + 1) cc, es := c2.es ++ [e] } : SC) := ⟨_, rfl⟩
        have EQ3 : Hid (c3.ns = c.ns ∧ c3.es = c.es ++ [e] ∧ c3.de = c.de ∧ c3.dw = c.dw) := by
          rw [hc3]
          exact ⟨EQ2.out.1, by show c2.es ++ [e] = _; rw [EQ2.out.2.1], EQ2.out.2.2.1, EQ2.out.2.2.2⟩
        have HE3 : Hid (c3.ev = .slice aa (c2.es.length + 1) cc) := by rw [hc3]; rfl
        have M7 : Hid (Mem wc sb c3 c3.ns) := by rw [hc3]; exact m7
        have V7 : Hid (Via sb c c3 w wc) := by rw [hc3]; exact v7
        have I7 : Hid (Inv c3 (K + 1)) := by
          rw [hc3]
          obtain ⟨j1, j2, j3, j4, j5, j6, j7, j8⟩ := I6.out
          refine ⟨j1, j2, j3, j4, ?_, Nat.le_succ_of_le j6, ?_, Nat.le_succ_of_le j8⟩
          · intro d hd
            have hd' : d ∈ c2.es ++ [e] := hd
            show d.n < c2.ns.length
            rw [List.mem_append, List.mem_singleton] at hd'
            rcases hd' with h1 | h1
            · exact j5 d h1
            · rw [h1, EQ2.out.1]; exact hen
          · show (c2.es ++ [e]).length ≤ K + 1
            simp; omega
        have hl3 : c3.es.length = c2.es.length + 1 := by rw [hc3]; simp
        clear m7 v7 hc3 M6 V6 HB6 I6 s13 y0 y1 y2 hsbl M6d M6a HNE HLEN
        have s13 : wc.cell? ⟨sb, 13, none⟩ = some (.slice aa (c2.es.length + 1) cc) := by rw [M7.out.c13, HE3.out]
        have s16 := M7.out.c16
        generalize c2.es.length + 1 = L at *
        have HL3 : Hid (c3.es.length = L) := hl3
        have hL3 : L ≤ K + 1 := by rw [← hl3]; exact I7.out.esK
        have hL0 : 0 < c3.es.length := by rw [EQ3.out.2.1]; simp
        clear hl3
        obtain ⟨nx, hnx⟩ : ∃ nx, nx = c3.nx := ⟨_, rfl⟩
        rw [← hnx] at s16
        clear hnx
        go_wp2
        go_quiet (fail)
        have M8 : Hid (Mem (wc.drewN nq) sb c3 c3.ns) := M7.out.kept fun _ _ => rfl
        have V8 : Hid (Via sb c c3 w (wc.drewN nq)) := V7.out.trans (Via.of_below (below_drewN (Below.refl _ _) _))
        have MM : Hid (∀ d, d ∈ c3.es ↔ d ∈ c.es ∨ d = e) := fun d => by rw [EQ3.out.2.1, List.mem_append, List.mem_singleton]
        clear M7 V7 s13 s16
        generalize (wc.drewN nq) = W8 at *
        go_wp2_with fail
        · refine (f30 sb (K + 1) c3 W8 ⟨M8.out, I7.out⟩ (by omega) hL0).mono ?_
          rintro x w9 ⟨rfl, c4, hs, h1, h2, h3, h4, h5⟩
          have R1 : Hid (SetAt w9 sb c4 (K + 1)) := hs
          have R2 : Hid (c4.ns = c.ns ∧ (∀ d, d ∈ c4.es ↔ d ∈ c.es ∨ d = e) ∧ c4.de = c.de ∧ c4.dw = c.dw) := ⟨h1.trans EQ3.out.1, fun d => (h2 d).trans (MM.out d), h3.trans EQ3.out.2.2.1, h4.trans EQ3.out.2.2.2⟩
          have R3 : Hid (Via sb c c4 w w9) := V8.out.trans h5
          clear hs h1 h2 h3 h4 h5
          go_wp2
          go_end0
          exact ⟨rfl, c4, R1.out, R2.out.1, R2.out.2.1, R2.out.2.2.1, R2.out.2.2.2, R3.out⟩
        · go_end0
          exact ⟨rfl, c3, ⟨M8.out, I7.out⟩, EQ3.out.1, MM.out, EQ3.out.2.2.1, EQ3.out.2.2.2, V8.out⟩
  · obtain ⟨l, hl⟩ : ∃ l, c.es.length = l + 1 := ⟨c.es.length - 1, by omega⟩
    have hll : l < c.es.length := by omega
    have p1 : (c.es.length : Int) - 1 = (l : Int) := by omega
    have p6 : IntKind.i64.wrap (l : Int) = (l : Int) := by simp [IntKind.wrap, IntKind.bits, IntKind.signed]; omega
    have p7 : (0 : Int) ≤ (l : Int) := by omega
    have p8 : IntKind.i64.wrap ((c.es.length : Int) - 1) = (l : Int) := by rw [p1]; exact p6
    have p9 : (l : Int) < (c.es.length : Int) := by omega
    have d0 : (0 : Int) < (c.es.length : Int) := by omega
    have d1 : decide ((0 : Int) < (c.es.length : Int)) = true := by simp; omega
    have d2 : 0 < c.es.length := by omega
    obtain ⟨ge, ce', hev', _, _⟩ := HS0.out.m.ent.form (by omega)
    have oe : OwnE W ge c.es.length ce' c.es := by have := HS0.out.m.ent; rw [hev'] at this; exact this
    have haoc : Value.slice ao c.es.length ce = .slice (some ⟨ge, 0, none⟩) c.es.length ce' := by rw [← HEV.out, ← hev']
    simp only [Value.slice.injEq, true_and] at haoc
    obtain ⟨rfl, rfl⟩ := haoc
    obtain ⟨a0, a1, a2⟩ := own_at3 oe l (l * 3) hll rfl
    obtain ⟨x, hx⟩ : ∃ x, x = c.es[l] := ⟨_, rfl⟩
    rw [← hx] at a0 a1 a2
    have hb0 := HB0.out
    have b0 : W.cell? ⟨B, 0, none⟩ = some (.int .i32 e.l) := by rw [cell_of_row W B 0 _ 55 (0, 0) hb0]; rfl
    have b1 : W.cell? ⟨B, 1, none⟩ = some (.int .i32 e.c) := by rw [cell_of_row W B 1 _ 55 (0, 0) hb0]; rfl
    have b2 : W.cell? ⟨B, 2, none⟩ = some (.int .i32 (e.n : Nat)) := by rw [cell_of_row W B 2 _ 55 (0, 0) hb0]; rfl
    have kB : B < W.heap.size := heap_lt hb0
    have kS : sb < W.heap.size := heap_lt HS0.out.m.blk
    have kE : ge < W.heap.size := (oe.lt ge rfl).2
    clear hb0 hx hl oe hev'
    go_wp2
    go_region_held3 (fun w' => w'.cell? ⟨B, 0, none⟩ = some (.int .i32 e.l) ∧ w'.cell? ⟨B, 1, none⟩ = some (.int .i32 e.c) ∧ w'.cell? ⟨B, 2, none⟩ = some (.int .i32 (e.n : Nat)) ∧ w'.cell? ⟨sb, 13, none⟩ = some (.slice (some ⟨ge, 0, none⟩) c.es.length ce) ∧ w'.cell? ⟨ge, l * 3, none⟩ = some (.int .i32 x.l) ∧ w'.cell? ⟨ge, l * 3 + 1, none⟩ = some (.int .i32 x.c) ∧ w'.cell? ⟨ge, l * 3 + 2, none⟩ = some (.int .i32 (x.n : Nat)))
      (first | exact ⟨b0, b1, b2, s13, a0, a1, a2⟩ | exact ⟨(hbel.cell (p := ⟨B, 0, none⟩) kB).trans b0, (hbel.cell (p := ⟨B, 1, none⟩) kB).trans b1, (hbel.cell (p := ⟨B, 2, none⟩) kB).trans b2, (hbel.cell (p := ⟨sb, 13, none⟩) kS).trans s13, (hbel.cell (p := ⟨ge, l * 3, none⟩) kE).trans a0, (hbel.cell (p := ⟨ge, l * 3 + 1, none⟩) kE).trans a1, (hbel.cell (p := ⟨ge, l * 3 + 2, none⟩) kE).trans a2⟩ | go_keep)
      (first | (go_at_call 28; refine (f28b e x _).mono ?_; rintro y w1 ⟨rfl, hbel⟩))
    have hbel2 : Below W.heap.size W w1 := ⟨hbel.os, hbel.tape, hbel.output, hbel.size, hbel.block⟩
    have M1 : Hid (Mem w1 sb c c.ns) := HS0.out.m.kept fun b hb => hbel2.block b (HS0.out.m.fp_lt b hb)
    have V1 : Hid (Via sb c c w w1) := HV0.out.trans (Via.of_below hbel2)
    have HB1 : Hid (w1.heap[B]? = some (boxE e)) := (hbel2.block B kB).trans HB0.out
    have I1 : Hid (Inv c K) := HS0.out.i
    clear hbel hbel2 HS0 HV0 HB0 a0 a1 a2 b0 b1 b2 s13 kB kS kE
    obtain ⟨ao, hao⟩ : ∃ ao : Option Addr, ao = some ⟨ge, 0, none⟩ := ⟨_, rfl⟩
    rw [← hao] at HEV
    clear hao
    have s15 := M1.out.c15
    have f15 := M1.out.frozen 15
    by_cases hc : cmpE e x < 0
    · go_upto_region 4 with fail
      have M1' : Hid (Mem (w1.setCell ⟨sb, 15, none⟩ (.bool true)) sb { c with un := true } c.ns) := M1.out.upd _ 15 _ (cells_set15 c M1.out.rc8 true) rfl rfl rfl rfl rfl rfl rfl rfl
      have V1' : Hid (Via sb c { c with un := true } w (w1.setCell ⟨sb, 15, none⟩ (.bool true))) := V1.out.trans (Via.cell sb c _ w1 15 _ rfl rfl rfl rfl)
      have hb2 : (w1.setCell ⟨sb, 15, none⟩ (.bool true)).heap[B]? = some (boxE e) := by
        refine (Below.heap_setCell _ _ _ B ?_).trans HB1.out
        intro h
        have h1 := HB1.out
        rw [show B = sb from h, M1.out.blk] at h1
        simp at h1
      have HB2 : Hid ((w1.setCell ⟨sb, 15, none⟩ (.bool true)).heap[B]? = some (boxE e)) := hb2
      obtain ⟨c1, hc1⟩ : ∃ c1, c1 = ({ c with un := true } : SC) := ⟨_, rfl⟩
      have EQ1 : Hid (c1.ns = c.ns ∧ c1.es = c.es ∧ c1.de = c.de ∧ c1.dw = c.dw ∧ c1.ev = c.ev) := by rw [hc1]; exact ⟨rfl, rfl, rfl, rfl, rfl⟩
      have M1'' : Hid (Mem (w1.setCell ⟨sb, 15, none⟩ (.bool true)) sb c1 c1.ns) := by rw [hc1]; exact M1'.out
      have I1' : Hid (Inv c1 K) := by
        rw [hc1]
        obtain ⟨j1, j2, j3, j4, j5, j6, j7, j8⟩ := I1.out
        exact ⟨j1, j2, j3, j4, j5, j6, j7, j8⟩
      rw [← hc1] at V1'
      clear M1 V1 I1 hc1 M1' HB1 hb2 s15 f15 hc
      have M1' : Hid (Mem (w1.setCell ⟨sb, 15, none⟩ (.bool true)) sb c1 c1.ns) := M1''.out
      have HB1 : Hid ((w1.setCell ⟨sb, 15, none⟩ (.bool true)).heap[B]? = some (boxE e)) := HB2.out
      clear M1'' HB2
      generalize (w1.setCell ⟨sb, 15, none⟩ (.bool true)) = W1 at *
      have hev1 : c1.ev = .slice ao c.es.length ce := EQ1.out.2.2.2.2.trans HEV.out
      have s13 : W1.cell? ⟨sb, 13, none⟩ = some (.slice ao c.es.length ce) := by rw [M1'.out.c13, hev1]
      have HE1 : Hid (c1.ev = .slice ao c.es.length ce) := hev1
      have o1 : W1.ownsRow 0 55 3 c1.ev c.es.length (c.es.flatMap encE) := by have := M1'.out.ent; rw [EQ1.out.2.1] at this; exact this
      have O1 : Hid (W1.ownsRow 0 55 3 c1.ev c.es.length (c.es.flatMap encE)) := o1
      clear hev1 o1
      by_cases hcap : c.es.length = ce
      · have t1 : ((c.es.length : Int) == (ce : Int)) = true := beq_iff_eq.mpr (by omega)
        have HCAP : Hid (c.es.length = ce) := hcap
        clear hcap
        go_wp2
        go_quiet (fail)
        clear t1
        have M2 : Hid (Mem (W1.drewN nq) sb c1 c1.ns) := M1'.out.kept fun _ _ => rfl
        have V2 : Hid (Via sb c c1 w (W1.drewN nq)) := V1'.out.trans (Via.of_below (below_drewN (Below.refl _ _) _))
        have HB2 : Hid ((W1.drewN nq).heap[B]? = some (boxE e)) := HB1.out
        have O2 : Hid ((W1.drewN nq).ownsRow 0 55 3 c1.ev c.es.length (c.es.flatMap encE)) := owns_kept O1.out fun _ _ => rfl
        clear M1' V1' HB1 O1 s13
        generalize (W1.drewN nq) = W2 at *
        have s13 : W2.cell? ⟨sb, 13, none⟩ = some (.slice ao c.es.length ce) := by rw [M2.out.c13, HE1.out]
        have f13 : W2.frozen? ⟨sb, 13, none⟩ = false := M2.out.frozen 13
        have kS : sb < W2.heap.size := heap_lt M2.out.blk
        have HC : Hid (Calls Try.prog 29 #[.slice ao c.es.length ce, .int .i64 (c.es.length : Nat)] W2.drew fun x w' => ∃ (a' : Option Addr) (c' : Nat), x = .returned (.slice a' c.es.length c') ∧ w'.ownsRow 0 55 3 (.slice a' c.es.length c') c.es.length (c.es.flatMap encE) ∧ Below W2.drew.heap.size W2.drew w' ∧ Moved W2.drew c1.ev (.slice a' c.es.length c')) := by
          have hcap := HCAP.out
          by_cases h0 : c.es.length = 0
          · have hce : ce = 0 := by omega
            have h1 := f29_zero ao c.es.length ce W2.drew h0 hce
            have h2 : (Value.int .i64 ((c.es.length : Nat) : Int)) = .int .i64 0 := by rw [h0]; rfl
            show Calls _ _ _ _ _
            rw [h2]
            refine h1.mono ?_
            rintro x w' ⟨rfl, rfl⟩
            exact ⟨_, _, rfl, by rw [← HE1.out]; exact owns_kept O2.out fun _ _ => rfl, Below.refl _ _, .inl (by rw [HE1.out])⟩
          · have o2 : W2.drew.ownsRow 0 55 3 c1.ev c.es.length (c.es.flatMap encE) := owns_kept O2.out fun _ _ => rfl
            obtain ⟨g, cp, hf, _, _⟩ := o2.form (by omega)
            have h3 : Value.slice ao c.es.length ce = .slice (some ⟨g, 0, none⟩) c.es.length cp := by rw [← HE1.out, ← hf]
            simp only [Value.slice.injEq, true_and] at h3
            obtain ⟨hao, rfl⟩ := h3
            rw [hf, ← hcap] at o2
            show Calls _ _ _ _ _
            rw [hao, ← hcap]
            refine (f29 g c.es.length c.es W2.drew o2 (by omega) (by omega)).mono ?_
            rintro x w' ⟨G, rfl, o3, b3, _⟩
            exact ⟨_, _, rfl, o3, b3, .inr ⟨_, rfl, Nat.le_refl _⟩⟩
        go_upto_region 5 with fail
        go_cut [] (fun wx => ∃ v', Mem wx sb { c1 with ev := v' } c1.ns ∧ Via sb c { c1 with ev := v' } w wx ∧ wx.heap[B]? = some (boxE e))
        case first =>
          go_region_with (go_at_call 29; refine HC.out.mono ?_; rintro x w3 ⟨a', c', rfl, o3, b3, m3⟩; have k1 : w3.cell? ⟨sb, 13, none⟩ = some (.slice ao c.es.length ce) := (b3.cell (p := ⟨sb, 13, none⟩) kS).trans s13; have k2 : w3.frozen? ⟨sb, 13, none⟩ = false := (b3.frozen (p := ⟨sb, 13, none⟩) kS).trans f13)
          all_goals
            go_wp2_with fail
            go_meet
            have md : Mem W2.drew sb c1 c1.ns := M2.out.kept fun _ _ => rfl
            have o4 : w3.ownsRow 0 55 3 (.slice a' c.es.length c') c1.es.length (c1.es.flatMap encE) := by rw [EQ1.out.2.1]; exact o3
            have g4 := grownBy_of_below b3 c1.ev.ownBlock
            refine ⟨_, md.entered _ c1.es g4 o4 m3, V2.out.drew.trans (Via.entered _ c1.es g4 m3), ?_⟩
            refine (Below.heap_setCell _ _ _ B ?_).trans ((b3.block B (heap_lt HB2.out)).trans HB2.out)
            intro h
            have h1 := HB2.out
            rw [show B = sb from h, M2.out.blk] at h1
            simp at h1
        case rest =>
          obtain ⟨v', m3, v3, hb3⟩ := hcut
          obtain ⟨c2, hc2⟩ : ∃ c2, c2 = ({ c1 with ev := v' } : SC) := ⟨_, rfl⟩
          have EQ2 : Hid (c2.ns = c.ns ∧ c2.es = c.es ∧ c2.de = c.de ∧ c2.dw = c.dw) := by rw [hc2]; exact ⟨EQ1.out.1, EQ1.out.2.1, EQ1.out.2.2.1, EQ1.out.2.2.2.1⟩
          have M6 : Hid (Mem wc sb c2 c2.ns) := by rw [hc2]; exact m3
          have V6 : Hid (Via sb c c2 w wc) := by rw [hc2]; exact v3
          have HB6 : Hid (wc.heap[B]? = some (boxE e)) := hb3
          have I6 : Hid (Inv c2 K) := by
            rw [hc2]
            obtain ⟨j1, j2, j3, j4, j5, j6, j7, j8⟩ := I1'.out
            exact ⟨j1, j2, j3, j4, j5, j6, j7, j8⟩
          clear m3 v3 hb3 hc2 M2 V2 HB2 O2 HC s13 f13 kS EQ1 I1' HE1 HEV HCAP
          have HLEN : Hid (c2.es.length = c.es.length) := by rw [EQ2.out.2.1]; rfl
          have hKe := I6.out.esK
          have s13 : wc.cell? ⟨sb, 13, none⟩ = some c2.ev := M6.out.c13
          have hb6 := HB6.out
          have y0 : wc.cell? ⟨B, 0, none⟩ = some (.int .i32 e.l) := by rw [cell_of_row wc B 0 _ 55 (0, 0) hb6]; rfl
          have y1 : wc.cell? ⟨B, 1, none⟩ = some (.int .i32 e.c) := by rw [cell_of_row wc B 1 _ 55 (0, 0) hb6]; rfl
          have y2 : wc.cell? ⟨B, 2, none⟩ = some (.int .i32 (e.n : Nat)) := by rw [cell_of_row wc B 2 _ 55 (0, 0) hb6]; rfl
          clear hb6
          have hsbl : sb < wc.heap.size := heap_lt M6.out.blk
          have M6d : Hid (Mem wc.drew sb c2 c2.ns) := M6.out.kept fun _ _ => rfl
          have M6a : Hid (Mem (wc.drew.alloc (boxE e)) sb c2 c2.ns) := M6d.out.frm (Frm.alloc (fun _ => False) wc.drew _) (fun _ _ => id)
          have HNE : Hid (some sb ≠ c2.ev.ownBlock) := fun h => M6.out.sb_ne.2.2.1 h.symm
          go_upto_region 6 with fail
          go_cut [] (fun wx => ∃ (aa : Option Addr) (cc : Nat), ∃ v', v' = .slice aa (c2.es.length + 1) cc ∧ Mem wx sb { c2 with ev := v', es := c2.es ++ [e] } c2.ns ∧ Via sb c { c2 with ev := v', es := c2.es ++ [e] } w wx)
          case first =>
            go_region_law (refine stepE _ rfl (.tmp 56) (.tmp 58) rfl c2.ev c2.es e wc.heap.size (by kernel_rfl) (((owns_kept M6.out.ent fun b hb => rfl : wc.drew.ownsRow 0 55 3 c2.ev c2.es.length (c2.es.flatMap encE)).alloc _)) (by kernel_rfl) (heap_alloc_new _ _) (by omega) ?_; intro g cap w5 o5 g5 m5 l5; have c5 : w5.cell? ⟨sb, 13, none⟩ = some c2.ev := (g5.cell_far ⟨sb, 13, none⟩ (by simp; omega) HNE.out).trans M6a.out.c13; have f5 : w5.frozen? ⟨sb, 13, none⟩ = false := (g5.frozen_far ⟨sb, 13, none⟩ (by simp; omega) HNE.out).trans (M6a.out.frozen 13))
            all_goals
              go_wp2_with fail
              go_meet
              have g6 := grownBy_pre ((Below.refl _ wc.drew).alloc (Nat.le_refl _) (boxE e)) g5
              have m6 : Moved wc.drew c2.ev (.slice (some ⟨g, 0, none⟩) (c2.es.length + 1) cap) := moved_of m5 (by simp)
              have o6 : w5.ownsRow 0 55 3 (.slice (some ⟨g, 0, none⟩) (c2.es.length + 1) cap) (c2.es ++ [e]).length ((c2.es ++ [e]).flatMap encE) := o5
              exact ⟨_, cap, _, rfl, M6d.out.entered _ (c2.es ++ [e]) g6 o6 m6, V6.out.drew.trans (Via.entered _ (c2.es ++ [e]) g6 m6)⟩
          case rest =>
            obtain ⟨aa, cc, v', hv', m7, v7⟩ := hcut
            subst hv'
            obtain ⟨c3, hc3⟩ : ∃ c3, c3 = ({ c2 with ev := .slice aa (c2.es.length + 1) cc, es := c2.es ++ [e] } : SC) := ⟨_, rfl⟩
            have EQ3 : Hid (c3.ns = c.ns ∧ c3.es = c.es ++ [e] ∧ c3.de = c.de ∧ c3.dw = c.dw) := by
              rw [hc3]
              exact ⟨EQ2.out.1, by show c2.es ++ [e] = _; rw [EQ2.out.2.1], EQ2.out.2.2.1, EQ2.out.2.2.2⟩
            have HE3 : Hid (c3.ev = .slice aa (c2.es.length + 1) cc) := by rw [hc3]; rfl
            have M7 : Hid (Mem wc sb c3 c3.ns) := by rw [hc3]; exact m7
            have V7 : Hid (Via sb c c3 w wc) := by rw [hc3]; exact v7
            have I7 : Hid (Inv c3 (K + 1)) := by
              rw [hc3]
              obtain ⟨j1, j2, j3, j4, j5, j6, j7, j8⟩ := I6.out
              refine ⟨j1, j2, j3, j4, ?_, Nat.le_succ_of_le j6, ?_, Nat.le_succ_of_le j8⟩
              · intro d hd
                have hd' : d ∈ c2.es ++ [e] := hd
                show d.n < c2.ns.length
                rw [List.mem_append, List.mem_singleton] at hd'
                rcases hd' with h1 | h1
                · exact j5 d h1
                · rw [h1, EQ2.out.1]; exact hen
              · show (c2.es ++ [e]).length ≤ K + 1
                simp; omega
            have hl3 : c3.es.length = c2.es.length + 1 := by rw [hc3]; simp
            clear m7 v7 hc3 M6 V6 HB6 I6 s13 y0 y1 y2 hsbl M6d M6a HNE HLEN
            have s13 : wc.cell? ⟨sb, 13, none⟩ = some (.slice aa (c2.es.length + 1) cc) := by rw [M7.out.c13, HE3.out]
            have s16 := M7.out.c16
            generalize c2.es.length + 1 = L at *
            have HL3 : Hid (c3.es.length = L) := hl3
            have hL3 : L ≤ K + 1 := by rw [← hl3]; exact I7.out.esK
            have hL0 : 0 < c3.es.length := by rw [EQ3.out.2.1]; simp
            clear hl3
            obtain ⟨nx, hnx⟩ : ∃ nx, nx = c3.nx := ⟨_, rfl⟩
            rw [← hnx] at s16
            clear hnx
            go_wp2
            go_quiet (fail)
            have M8 : Hid (Mem (wc.drewN nq) sb c3 c3.ns) := M7.out.kept fun _ _ => rfl
            have V8 : Hid (Via sb c c3 w (wc.drewN nq)) := V7.out.trans (Via.of_below (below_drewN (Below.refl _ _) _))
            have MM : Hid (∀ d, d ∈ c3.es ↔ d ∈ c.es ∨ d = e) := fun d => by rw [EQ3.out.2.1, List.mem_append, List.mem_singleton]
            clear M7 V7 s13 s16
            generalize (wc.drewN nq) = W8 at *
            go_wp2_with fail
            · refine (f30 sb (K + 1) c3 W8 ⟨M8.out, I7.out⟩ (by omega) hL0).mono ?_
              rintro x w9 ⟨rfl, c4, hs, h1, h2, h3, h4, h5⟩
              have R1 : Hid (SetAt w9 sb c4 (K + 1)) := hs
              have R2 : Hid (c4.ns = c.ns ∧ (∀ d, d ∈ c4.es ↔ d ∈ c.es ∨ d = e) ∧ c4.de = c.de ∧ c4.dw = c.dw) := ⟨h1.trans EQ3.out.1, fun d => (h2 d).trans (MM.out d), h3.trans EQ3.out.2.2.1, h4.trans EQ3.out.2.2.2⟩
              have R3 : Hid (Via sb c c4 w w9) := V8.out.trans h5
              clear hs h1 h2 h3 h4 h5
              go_wp2
              go_end0
              exact ⟨rfl, c4, R1.out, R2.out.1, R2.out.2.1, R2.out.2.2.1, R2.out.2.2.2, R3.out⟩
            · go_end0
              exact ⟨rfl, c3, ⟨M8.out, I7.out⟩, EQ3.out.1, MM.out, EQ3.out.2.2.1, EQ3.out.2.2.2, V8.out⟩
      · have t1 : ((c.es.length : Int) == (ce : Int)) = false := beq_eq_false_iff_ne.mpr (by omega)
        go_wp2
        go_quiet (fail)
        have M6 : Hid (Mem (W1.drewN nq) sb c1 c1.ns) := M1'.out.kept fun _ _ => rfl
        have V6 : Hid (Via sb c c1 w (W1.drewN nq)) := V1'.out.trans (Via.of_below (below_drewN (Below.refl _ _) _))
        have HB6 : Hid ((W1.drewN nq).heap[B]? = some (boxE e)) := HB1.out
        have EQ2 : Hid (c1.ns = c.ns ∧ c1.es = c.es ∧ c1.de = c.de ∧ c1.dw = c.dw) := ⟨EQ1.out.1, EQ1.out.2.1, EQ1.out.2.2.1, EQ1.out.2.2.2.1⟩
        have I6 : Hid (Inv c1 K) := I1'.out
        clear M1' V1' HB1 O1 s13 EQ1 HE1 HEV I1'
        generalize (W1.drewN nq) = wc at *
        go_upto_region 6 with fail
        obtain ⟨c2, hc2⟩ : ∃ c2, c2 = c1 := ⟨_, rfl⟩
        rw [← hc2] at M6 V6 EQ2 I6
        clear hc2 t1 hcap
        have HLEN : Hid (c2.es.length = c.es.length) := by rw [EQ2.out.2.1]; rfl
        have hKe := I6.out.esK
        have s13 : wc.cell? ⟨sb, 13, none⟩ = some c2.ev := M6.out.c13
        have hb6 := HB6.out
        have y0 : wc.cell? ⟨B, 0, none⟩ = some (.int .i32 e.l) := by rw [cell_of_row wc B 0 _ 55 (0, 0) hb6]; rfl
        have y1 : wc.cell? ⟨B, 1, none⟩ = some (.int .i32 e.c) := by rw [cell_of_row wc B 1 _ 55 (0, 0) hb6]; rfl
        have y2 : wc.cell? ⟨B, 2, none⟩ = some (.int .i32 (e.n : Nat)) := by rw [cell_of_row wc B 2 _ 55 (0, 0) hb6]; rfl
        clear hb6
        have hsbl : sb < wc.heap.size := heap_lt M6.out.blk
        have M6d : Hid (Mem wc.drew sb c2 c2.ns) := M6.out.kept fun _ _ => rfl
        have M6a : Hid (Mem (wc.drew.alloc (boxE e)) sb c2 c2.ns) := M6d.out.frm (Frm.alloc (fun _ => False) wc.drew _) (fun _ _ => id)
        have HNE : Hid (some sb ≠ c2.ev.ownBlock) := fun h => M6.out.sb_ne.2.2.1 h.symm
        go_upto_region 6 with fail
        go_cut [] (fun wx => ∃ (aa : Option Addr) (cc : Nat), ∃ v', v' = .slice aa (c2.es.length + 1) cc ∧ Mem wx sb { c2 with ev := v', es := c2.es ++ [e] } c2.ns ∧ Via sb c { c2 with ev := v', es := c2.es ++ [e] } w wx)
        case first =>
          go_region_law (refine stepE _ rfl (.tmp 56) (.tmp 58) rfl c2.ev c2.es e wc.heap.size (by kernel_rfl) (((owns_kept M6.out.ent fun b hb => rfl : wc.drew.ownsRow 0 55 3 c2.ev c2.es.length (c2.es.flatMap encE)).alloc _)) (by kernel_rfl) (heap_alloc_new _ _) (by omega) ?_; intro g cap w5 o5 g5 m5 l5; have c5 : w5.cell? ⟨sb, 13, none⟩ = some c2.ev := (g5.cell_far ⟨sb, 13, none⟩ (by simp; omega) HNE.out).trans M6a.out.c13; have f5 : w5.frozen? ⟨sb, 13, none⟩ = false := (g5.frozen_far ⟨sb, 13, none⟩ (by simp; omega) HNE.out).trans (M6a.out.frozen 13))
          all_goals
            go_wp2_with fail
            go_meet
            have g6 := grownBy_pre ((Below.refl _ wc.drew).alloc (Nat.le_refl _) (boxE e)) g5
            have m6 : Moved wc.drew c2.ev (.slice (some ⟨g, 0, none⟩) (c2.es.length + 1) cap) := moved_of m5 (by simp)
            have o6 : w5.ownsRow 0 55 3 (.slice (some ⟨g, 0, none⟩) (c2.es.length + 1) cap) (c2.es ++ [e]).length ((c2.es ++ [e]).flatMap encE) := o5
            exact ⟨_, cap, _, rfl, M6d.out.entered _ (c2.es ++ [e]) g6 o6 m6, V6.out.drew.trans (Via.entered _ (c2.es ++ [e]) g6 m6)⟩
        case rest =>
          obtain ⟨aa, cc, v', hv', m7, v7⟩ := hcut
          subst hv'
          obtain ⟨c3, hc3⟩ : ∃ c3, c3 = ({ c2 with ev := .slice aa (c2.es.length + 1) cc, es := c2.es ++ [e] } : SC) := ⟨_, rfl⟩
          have EQ3 : Hid (c3.ns = c.ns ∧ c3.es = c.es ++ [e] ∧ c3.de = c.de ∧ c3.dw = c.dw) := by
            rw [hc3]
            exact ⟨EQ2.out.1, by show c2.es ++ [e] = _; rw [EQ2.out.2.1], EQ2.out.2.2.1, EQ2.out.2.2.2⟩
          have HE3 : Hid (c3.ev = .slice aa (c2.es.length + 1) cc) := by rw [hc3]; rfl
          have M7 : Hid (Mem wc sb c3 c3.ns) := by rw [hc3]; exact m7
          have V7 : Hid (Via sb c c3 w wc) := by rw [hc3]; exact v7
          have I7 : Hid (Inv c3 (K + 1)) := by
            rw [hc3]
            obtain ⟨j1, j2, j3, j4, j5, j6, j7, j8⟩ := I6.out
            refine ⟨j1, j2, j3, j4, ?_, Nat.le_succ_of_le j6, ?_, Nat.le_succ_of_le j8⟩
            · intro d hd
              have hd' : d ∈ c2.es ++ [e] := hd
              show d.n < c2.ns.length
              rw [List.mem_append, List.mem_singleton] at hd'
              rcases hd' with h1 | h1
              · exact j5 d h1
              · rw [h1, EQ2.out.1]; exact hen
            · show (c2.es ++ [e]).length ≤ K + 1
              simp; omega
          have hl3 : c3.es.length = c2.es.length + 1 := by rw [hc3]; simp
          clear m7 v7 hc3 M6 V6 HB6 I6 s13 y0 y1 y2 hsbl M6d M6a HNE HLEN
          have s13 : wc.cell? ⟨sb, 13, none⟩ = some (.slice aa (c2.es.length + 1) cc) := by rw [M7.out.c13, HE3.out]
          have s16 := M7.out.c16
          generalize c2.es.length + 1 = L at *
          have HL3 : Hid (c3.es.length = L) := hl3
          have hL3 : L ≤ K + 1 := by rw [← hl3]; exact I7.out.esK
          have hL0 : 0 < c3.es.length := by rw [EQ3.out.2.1]; simp
          clear hl3
          obtain ⟨nx, hnx⟩ : ∃ nx, nx = c3.nx := ⟨_, rfl⟩
          rw [← hnx] at s16
          clear hnx
          go_wp2
          go_quiet (fail)
          have M8 : Hid (Mem (wc.drewN nq) sb c3 c3.ns) := M7.out.kept fun _ _ => rfl
          have V8 : Hid (Via sb c c3 w (wc.drewN nq)) := V7.out.trans (Via.of_below (below_drewN (Below.refl _ _) _))
          have MM : Hid (∀ d, d ∈ c3.es ↔ d ∈ c.es ∨ d = e) := fun d => by rw [EQ3.out.2.1, List.mem_append, List.mem_singleton]
          clear M7 V7 s13 s16
          generalize (wc.drewN nq) = W8 at *
          go_wp2_with fail
          · refine (f30 sb (K + 1) c3 W8 ⟨M8.out, I7.out⟩ (by omega) hL0).mono ?_
            rintro x w9 ⟨rfl, c4, hs, h1, h2, h3, h4, h5⟩
            have R1 : Hid (SetAt w9 sb c4 (K + 1)) := hs
            have R2 : Hid (c4.ns = c.ns ∧ (∀ d, d ∈ c4.es ↔ d ∈ c.es ∨ d = e) ∧ c4.de = c.de ∧ c4.dw = c.dw) := ⟨h1.trans EQ3.out.1, fun d => (h2 d).trans (MM.out d), h3.trans EQ3.out.2.2.1, h4.trans EQ3.out.2.2.2⟩
            have R3 : Hid (Via sb c c4 w w9) := V8.out.trans h5
            clear hs h1 h2 h3 h4 h5
            go_wp2
            go_end0
            exact ⟨rfl, c4, R1.out, R2.out.1, R2.out.2.1, R2.out.2.2.1, R2.out.2.2.2, R3.out⟩
          · go_end0
            exact ⟨rfl, c3, ⟨M8.out, I7.out⟩, EQ3.out.1, MM.out, EQ3.out.2.2.1, EQ3.out.2.2.2, V8.out⟩
    · obtain ⟨c1, hc1⟩ : ∃ c1, c1 = c := ⟨_, rfl⟩
      obtain ⟨W1, hW1⟩ : ∃ W1, W1 = w1 := ⟨_, rfl⟩
      have EQ1 : Hid (c1.ns = c.ns ∧ c1.es = c.es ∧ c1.de = c.de ∧ c1.dw = c.dw ∧ c1.ev = c.ev) := by rw [hc1]; exact ⟨rfl, rfl, rfl, rfl, rfl⟩
      have M1' : Hid (Mem W1 sb c1 c1.ns) := by rw [hc1, hW1]; exact M1.out
      have V1' : Hid (Via sb c c1 w W1) := by rw [hc1, hW1]; exact V1.out
      have I1' : Hid (Inv c1 K) := by rw [hc1]; exact I1.out
      rw [← hW1] at HB1
      have hc' : ¬ cmpE e x < 0 := hc
      go_upto_region 4 with fail
      rw [← hW1]
      clear M1 V1 I1 hc1 hW1 s15 f15 hc hc'
      have hev1 : c1.ev = .slice ao c.es.length ce := EQ1.out.2.2.2.2.trans HEV.out
      have s13 : W1.cell? ⟨sb, 13, none⟩ = some (.slice ao c.es.length ce) := by rw [M1'.out.c13, hev1]
      have HE1 : Hid (c1.ev = .slice ao c.es.length ce) := hev1
      have o1 : W1.ownsRow 0 55 3 c1.ev c.es.length (c.es.flatMap encE) := by have := M1'.out.ent; rw [EQ1.out.2.1] at this; exact this
      have O1 : Hid (W1.ownsRow 0 55 3 c1.ev c.es.length (c.es.flatMap encE)) := o1
      clear hev1 o1
      by_cases hcap : c.es.length = ce
      · have t1 : ((c.es.length : Int) == (ce : Int)) = true := beq_iff_eq.mpr (by omega)
        have HCAP : Hid (c.es.length = ce) := hcap
        clear hcap
        go_wp2
        go_quiet (fail)
        clear t1
        have M2 : Hid (Mem (W1.drewN nq) sb c1 c1.ns) := M1'.out.kept fun _ _ => rfl
        have V2 : Hid (Via sb c c1 w (W1.drewN nq)) := V1'.out.trans (Via.of_below (below_drewN (Below.refl _ _) _))
        have HB2 : Hid ((W1.drewN nq).heap[B]? = some (boxE e)) := HB1.out
        have O2 : Hid ((W1.drewN nq).ownsRow 0 55 3 c1.ev c.es.length (c.es.flatMap encE)) := owns_kept O1.out fun _ _ => rfl
        clear M1' V1' HB1 O1 s13
        generalize (W1.drewN nq) = W2 at *
        have s13 : W2.cell? ⟨sb, 13, none⟩ = some (.slice ao c.es.length ce) := by rw [M2.out.c13, HE1.out]
        have f13 : W2.frozen? ⟨sb, 13, none⟩ = false := M2.out.frozen 13
        have kS : sb < W2.heap.size := heap_lt M2.out.blk
        have HC : Hid (Calls Try.prog 29 #[.slice ao c.es.length ce, .int .i64 (c.es.length : Nat)] W2.drew fun x w' => ∃ (a' : Option Addr) (c' : Nat), x = .returned (.slice a' c.es.length c') ∧ w'.ownsRow 0 55 3 (.slice a' c.es.length c') c.es.length (c.es.flatMap encE) ∧ Below W2.drew.heap.size W2.drew w' ∧ Moved W2.drew c1.ev (.slice a' c.es.length c')) := by
          have hcap := HCAP.out
          by_cases h0 : c.es.length = 0
          · have hce : ce = 0 := by omega
            have h1 := f29_zero ao c.es.length ce W2.drew h0 hce
            have h2 : (Value.int .i64 ((c.es.length : Nat) : Int)) = .int .i64 0 := by rw [h0]; rfl
            show Calls _ _ _ _ _
            rw [h2]
            refine h1.mono ?_
            rintro x w' ⟨rfl, rfl⟩
            exact ⟨_, _, rfl, by rw [← HE1.out]; exact owns_kept O2.out fun _ _ => rfl, Below.refl _ _, .inl (by rw [HE1.out])⟩
          · have o2 : W2.drew.ownsRow 0 55 3 c1.ev c.es.length (c.es.flatMap encE) := owns_kept O2.out fun _ _ => rfl
            obtain ⟨g, cp, hf, _, _⟩ := o2.form (by omega)
            have h3 : Value.slice ao c.es.length ce = .slice (some ⟨g, 0, none⟩) c.es.length cp := by rw [← HE1.out, ← hf]
            simp only [Value.slice.injEq, true_and] at h3
            obtain ⟨hao, rfl⟩ := h3
            rw [hf, ← hcap] at o2
            show Calls _ _ _ _ _
            rw [hao, ← hcap]
            refine (f29 g c.es.length c.es W2.drew o2 (by omega) (by omega)).mono ?_
            rintro x w' ⟨G, rfl, o3, b3, _⟩
            exact ⟨_, _, rfl, o3, b3, .inr ⟨_, rfl, Nat.le_refl _⟩⟩
        go_upto_region 5 with fail
        go_cut [] (fun wx => ∃ v', Mem wx sb { c1 with ev := v' } c1.ns ∧ Via sb c { c1 with ev := v' } w wx ∧ wx.heap[B]? = some (boxE e))
        case first =>
          go_region_with (go_at_call 29; refine HC.out.mono ?_; rintro x w3 ⟨a', c', rfl, o3, b3, m3⟩; have k1 : w3.cell? ⟨sb, 13, none⟩ = some (.slice ao c.es.length ce) := (b3.cell (p := ⟨sb, 13, none⟩) kS).trans s13; have k2 : w3.frozen? ⟨sb, 13, none⟩ = false := (b3.frozen (p := ⟨sb, 13, none⟩) kS).trans f13)
          all_goals
            go_wp2_with fail
            go_meet
            have md : Mem W2.drew sb c1 c1.ns := M2.out.kept fun _ _ => rfl
            have o4 : w3.ownsRow 0 55 3 (.slice a' c.es.length c') c1.es.length (c1.es.flatMap encE) := by rw [EQ1.out.2.1]; exact o3
            have g4 := grownBy_of_below b3 c1.ev.ownBlock
            refine ⟨_, md.entered _ c1.es g4 o4 m3, V2.out.drew.trans (Via.entered _ c1.es g4 m3), ?_⟩
            refine (Below.heap_setCell _ _ _ B ?_).trans ((b3.block B (heap_lt HB2.out)).trans HB2.out)
            intro h
            have h1 := HB2.out
            rw [show B = sb from h, M2.out.blk] at h1
            simp at h1
        case rest =>
          obtain ⟨v', m3, v3, hb3⟩ := hcut
          obtain ⟨c2, hc2⟩ : ∃ c2, c2 = ({ c1 with ev := v' } : SC) := ⟨_, rfl⟩
          have EQ2 : Hid (c2.ns = c.ns ∧ c2.es = c.es ∧ c2.de = c.de ∧ c2.dw = c.dw) := by rw [hc2]; exact ⟨EQ1.out.1, EQ1.out.2.1, EQ1.out.2.2.1, EQ1.out.2.2.2.1⟩
          have M6 : Hid (Mem wc sb c2 c2.ns) := by rw [hc2]; exact m3
          have V6 : Hid (Via sb c c2 w wc) := by rw [hc2]; exact v3
          have HB6 : Hid (wc.heap[B]? = some (boxE e)) := hb3
          have I6 : Hid (Inv c2 K) := by
            rw [hc2]
            obtain ⟨j1, j2, j3, j4, j5, j6, j7, j8⟩ := I1'.out
            exact ⟨j1, j2, j3, j4, j5, j6, j7, j8⟩
          clear m3 v3 hb3 hc2 M2 V2 HB2 O2 HC s13 f13 kS EQ1 I1' HE1 HEV HCAP
          have HLEN : Hid (c2.es.length = c.es.length) := by rw [EQ2.out.2.1]; rfl
          have hKe := I6.out.esK
          have s13 : wc.cell? ⟨sb, 13, none⟩ = some c2.ev := M6.out.c13
          have hb6 := HB6.out
          have y0 : wc.cell? ⟨B, 0, none⟩ = some (.int .i32 e.l) := by rw [cell_of_row wc B 0 _ 55 (0, 0) hb6]; rfl
          have y1 : wc.cell? ⟨B, 1, none⟩ = some (.int .i32 e.c) := by rw [cell_of_row wc B 1 _ 55 (0, 0) hb6]; rfl
          have y2 : wc.cell? ⟨B, 2, none⟩ = some (.int .i32 (e.n : Nat)) := by rw [cell_of_row wc B 2 _ 55 (0, 0) hb6]; rfl
          clear hb6
          have hsbl : sb < wc.heap.size := heap_lt M6.out.blk
          have M6d : Hid (Mem wc.drew sb c2 c2.ns) := M6.out.kept fun _ _ => rfl
          have M6a : Hid (Mem (wc.drew.alloc (boxE e)) sb c2 c2.ns) := M6d.out.frm (Frm.alloc (fun _ => False) wc.drew _) (fun _ _ => id)
          have HNE : Hid (some sb ≠ c2.ev.ownBlock) := fun h => M6.out.sb_ne.2.2.1 h.symm
          go_upto_region 6 with fail
          go_cut [] (fun wx => ∃ (aa : Option Addr) (cc : Nat), ∃ v', v' = .slice aa (c2.es.length + 1) cc ∧ Mem wx sb { c2 with ev := v', es := c2.es ++ [e] } c2.ns ∧ Via sb c { c2 with ev := v', es := c2.es ++ [e] } w wx)
          case first =>
            go_region_law (refine stepE _ rfl (.tmp 56) (.tmp 58) rfl c2.ev c2.es e wc.heap.size (by kernel_rfl) (((owns_kept M6.out.ent fun b hb => rfl : wc.drew.ownsRow 0 55 3 c2.ev c2.es.length (c2.es.flatMap encE)).alloc _)) (by kernel_rfl) (heap_alloc_new _ _) (by omega) ?_; intro g cap w5 o5 g5 m5 l5; have c5 : w5.cell? ⟨sb, 13, none⟩ = some c2.ev := (g5.cell_far ⟨sb, 13, none⟩ (by simp; omega) HNE.out).trans M6a.out.c13; have f5 : w5.frozen? ⟨sb, 13, none⟩ = false := (g5.frozen_far ⟨sb, 13, none⟩ (by simp; omega) HNE.out).trans (M6a.out.frozen 13))
            all_goals
              go_wp2_with fail
              go_meet
              have g6 := grownBy_pre ((Below.refl _ wc.drew).alloc (Nat.le_refl _) (boxE e)) g5
              have m6 : Moved wc.drew c2.ev (.slice (some ⟨g, 0, none⟩) (c2.es.length + 1) cap) := moved_of m5 (by simp)
              have o6 : w5.ownsRow 0 55 3 (.slice (some ⟨g, 0, none⟩) (c2.es.length + 1) cap) (c2.es ++ [e]).length ((c2.es ++ [e]).flatMap encE) := o5
              exact ⟨_, cap, _, rfl, M6d.out.entered _ (c2.es ++ [e]) g6 o6 m6, V6.out.drew.trans (Via.entered _ (c2.es ++ [e]) g6 m6)⟩
          case rest =>
            obtain ⟨aa, cc, v', hv', m7, v7⟩ := hcut
            subst hv'
            obtain ⟨c3, hc3⟩ : ∃ c3, c3 = ({ c2 with ev := .slice aa (c2.es.length + 1) cc, es := c2.es ++ [e] } : SC) := ⟨_, rfl⟩
            have EQ3 : Hid (c3.ns = c.ns ∧ c3.es = c.es ++ [e] ∧ c3.de = c.de ∧ c3.dw = c.dw) := by
              rw [hc3]
              exact ⟨EQ2.out.1, by show c2.es ++ [e] = _; rw [EQ2.out.2.1], EQ2.out.2.2.1, EQ2.out.2.2.2⟩
            have HE3 : Hid (c3.ev = .slice aa (c2.es.length + 1) cc) := by rw [hc3]; rfl
            have M7 : Hid (Mem wc sb c3 c3.ns) := by rw [hc3]; exact m7
            have V7 : Hid (Via sb c c3 w wc) := by rw [hc3]; exact v7
            have I7 : Hid (Inv c3 (K + 1)) := by
              rw [hc3]
              obtain ⟨j1, j2, j3, j4, j5, j6, j7, j8⟩ := I6.out
              refine ⟨j1, j2, j3, j4, ?_, Nat.le_succ_of_le j6, ?_, Nat.le_succ_of_le j8⟩
              · intro d hd
                have hd' : d ∈ c2.es ++ [e] := hd
                show d.n < c2.ns.length
                rw [List.mem_append, List.mem_singleton] at hd'
                rcases hd' with h1 | h1
                · exact j5 d h1
                · rw [h1, EQ2.out.1]; exact hen
              · show (c2.es ++ [e]).length ≤ K + 1
                simp; omega
            have hl3 : c3.es.length = c2.es.length + 1 := by rw [hc3]; simp
            clear m7 v7 hc3 M6 V6 HB6 I6 s13 y0 y1 y2 hsbl M6d M6a HNE HLEN
            have s13 : wc.cell? ⟨sb, 13, none⟩ = some (.slice aa (c2.es.length + 1) cc) := by rw [M7.out.c13, HE3.out]
            have s16 := M7.out.c16
            generalize c2.es.length + 1 = L at *
            have HL3 : Hid (c3.es.length = L) := hl3
            have hL3 : L ≤ K + 1 := by rw [← hl3]; exact I7.out.esK
            have hL0 : 0 < c3.es.length := by rw [EQ3.out.2.1]; simp
            clear hl3
            obtain ⟨nx, hnx⟩ : ∃ nx, nx = c3.nx := ⟨_, rfl⟩
            rw [← hnx] at s16
            clear hnx
            go_wp2
            go_quiet (fail)
            have M8 : Hid (Mem (wc.drewN nq) sb c3 c3.ns) := M7.out.kept fun _ _ => rfl
            have V8 : Hid (Via sb c c3 w (wc.drewN nq)) := V7.out.trans (Via.of_below (below_drewN (Below.refl _ _) _))
            have MM : Hid (∀ d, d ∈ c3.es ↔ d ∈ c.es ∨ d = e) := fun d => by rw [EQ3.out.2.1, List.mem_append, List.mem_singleton]
            clear M7 V7 s13 s16
            generalize (wc.drewN nq) = W8 at *
            go_wp2_with fail
            · refine (f30 sb (K + 1) c3 W8 ⟨M8.out, I7.out⟩ (by omega) hL0).mono ?_
              rintro x w9 ⟨rfl, c4, hs, h1, h2, h3, h4, h5⟩
              have R1 : Hid (SetAt w9 sb c4 (K + 1)) := hs
              have R2 : Hid (c4.ns = c.ns ∧ (∀ d, d ∈ c4.es ↔ d ∈ c.es ∨ d = e) ∧ c4.de = c.de ∧ c4.dw = c.dw) := ⟨h1.trans EQ3.out.1, fun d => (h2 d).trans (MM.out d), h3.trans EQ3.out.2.2.1, h4.trans EQ3.out.2.2.2⟩
              have R3 : Hid (Via sb c c4 w w9) := V8.out.trans h5
              clear hs h1 h2 h3 h4 h5
              go_wp2
              go_end0
              exact ⟨rfl, c4, R1.out, R2.out.1, R2.out.2.1, R2.out.2.2.1, R2.out.2.2.2, R3.out⟩
            · go_end0
              exact ⟨rfl, c3, ⟨M8.out, I7.out⟩, EQ3.out.1, MM.out, EQ3.out.2.2.1, EQ3.out.2.2.2, V8.out⟩
      · have t1 : ((c.es.length : Int) == (ce : Int)) = false := beq_eq_false_iff_ne.mpr (by omega)
        go_wp2
        go_quiet (fail)
        have M6 : Hid (Mem (W1.drewN nq) sb c1 c1.ns) := M1'.out.kept fun _ _ => rfl
        have V6 : Hid (Via sb c c1 w (W1.drewN nq)) := V1'.out.trans (Via.of_below (below_drewN (Below.refl _ _) _))
        have HB6 : Hid ((W1.drewN nq).heap[B]? = some (boxE e)) := HB1.out
        have EQ2 : Hid (c1.ns = c.ns ∧ c1.es = c.es ∧ c1.de = c.de ∧ c1.dw = c.dw) := ⟨EQ1.out.1, EQ1.out.2.1, EQ1.out.2.2.1, EQ1.out.2.2.2.1⟩
        have I6 : Hid (Inv c1 K) := I1'.out
        clear M1' V1' HB1 O1 s13 EQ1 HE1 HEV I1'
        generalize (W1.drewN nq) = wc at *
        go_upto_region 6 with fail
        obtain ⟨c2, hc2⟩ : ∃ c2, c2 = c1 := ⟨_, rfl⟩
        rw [← hc2] at M6 V6 EQ2 I6
        clear hc2 t1 hcap
        have HLEN : Hid (c2.es.length = c.es.length) := by rw [EQ2.out.2.1]; rfl
        have hKe := I6.out.esK
        have s13 : wc.cell? ⟨sb, 13, none⟩ = some c2.ev := M6.out.c13
        have hb6 := HB6.out
        have y0 : wc.cell? ⟨B, 0, none⟩ = some (.int .i32 e.l) := by rw [cell_of_row wc B 0 _ 55 (0, 0) hb6]; rfl
        have y1 : wc.cell? ⟨B, 1, none⟩ = some (.int .i32 e.c) := by rw [cell_of_row wc B 1 _ 55 (0, 0) hb6]; rfl
        have y2 : wc.cell? ⟨B, 2, none⟩ = some (.int .i32 (e.n : Nat)) := by rw [cell_of_row wc B 2 _ 55 (0, 0) hb6]; rfl
        clear hb6
        have hsbl : sb < wc.heap.size := heap_lt M6.out.blk
        have M6d : Hid (Mem wc.drew sb c2 c2.ns) := M6.out.kept fun _ _ => rfl
        have M6a : Hid (Mem (wc.drew.alloc (boxE e)) sb c2 c2.ns) := M6d.out.frm (Frm.alloc (fun _ => False) wc.drew _) (fun _ _ => id)
        have HNE : Hid (some sb ≠ c2.ev.ownBlock) := fun h => M6.out.sb_ne.2.2.1 h.symm
        go_upto_region 6 with fail
        go_cut [] (fun wx => ∃ (aa : Option Addr) (cc : Nat), ∃ v', v' = .slice aa (c2.es.length + 1) cc ∧ Mem wx sb { c2 with ev := v', es := c2.es ++ [e] } c2.ns ∧ Via sb c { c2 with ev := v', es := c2.es ++ [e] } w wx)
        case first =>
          go_region_law (refine stepE _ rfl (.tmp 56) (.tmp 58) rfl c2.ev c2.es e wc.heap.size (by kernel_rfl) (((owns_kept M6.out.ent fun b hb => rfl : wc.drew.ownsRow 0 55 3 c2.ev c2.es.length (c2.es.flatMap encE)).alloc _)) (by kernel_rfl) (heap_alloc_new _ _) (by omega) ?_; intro g cap w5 o5 g5 m5 l5; have c5 : w5.cell? ⟨sb, 13, none⟩ = some c2.ev := (g5.cell_far ⟨sb, 13, none⟩ (by simp; omega) HNE.out).trans M6a.out.c13; have f5 : w5.frozen? ⟨sb, 13, none⟩ = false := (g5.frozen_far ⟨sb, 13, none⟩ (by simp; omega) HNE.out).trans (M6a.out.frozen 13))
          all_goals
            go_wp2_with fail
            go_meet
            have g6 := grownBy_pre ((Below.refl _ wc.drew).alloc (Nat.le_refl _) (boxE e)) g5
            have m6 : Moved wc.drew c2.ev (.slice (some ⟨g, 0, none⟩) (c2.es.length + 1) cap) := moved_of m5 (by simp)
            have o6 : w5.ownsRow 0 55 3 (.slice (some ⟨g, 0, none⟩) (c2.es.length + 1) cap) (c2.es ++ [e]).length ((c2.es ++ [e]).flatMap encE) := o5
            exact ⟨_, cap, _, rfl, M6d.out.entered _ (c2.es ++ [e]) g6 o6 m6, V6.out.drew.trans (Via.entered _ (c2.es ++ [e]) g6 m6)⟩
        case rest =>
          obtain ⟨aa, cc, v', hv', m7, v7⟩ := hcut
          subst hv'
          obtain ⟨c3, hc3⟩ : ∃ c3, c3 = ({ c2 with ev := .slice aa (c2.es.length + 1) cc, es := c2.es ++ [e] } : SC) := ⟨_, rfl⟩
          have EQ3 : Hid (c3.ns = c.ns ∧ c3.es = c.es ++ [e] ∧ c3.de = c.de ∧ c3.dw = c.dw) := by
            rw [hc3]
            exact ⟨EQ2.out.1, by show c2.es ++ [e] = _; rw [EQ2.out.2.1], EQ2.out.2.2.1, EQ2.out.2.2.2⟩
          have HE3 : Hid (c3.ev = .slice aa (c2.es.length + 1) cc) := by rw [hc3]; rfl
          have M7 : Hid (Mem wc sb c3 c3.ns) := by rw [hc3]; exact m7
          have V7 : Hid (Via sb c c3 w wc) := by rw [hc3]; exact v7
          have I7 : Hid (Inv c3 (K + 1)) := by
            rw [hc3]
            obtain ⟨j1, j2, j3, j4, j5, j6, j7, j8⟩ := I6.out
            refine ⟨j1, j2, j3, j4, ?_, Nat.le_succ_of_le j6, ?_, Nat.le_succ_of_le j8⟩
            · intro d hd
              have hd' : d ∈ c2.es ++ [e] := hd
              show d.n < c2.ns.length
              rw [List.mem_append, List.mem_singleton] at hd'
              rcases hd' with h1 | h1
              · exact j5 d h1
              · rw [h1, EQ2.out.1]; exact hen
            · show (c2.es ++ [e]).length ≤ K + 1
              simp; omega
          have hl3 : c3.es.length = c2.es.length + 1 := by rw [hc3]; simp
          clear m7 v7 hc3 M6 V6 HB6 I6 s13 y0 y1 y2 hsbl M6d M6a HNE HLEN
          have s13 : wc.cell? ⟨sb, 13, none⟩ = some (.slice aa (c2.es.length + 1) cc) := by rw [M7.out.c13, HE3.out]
          have s16 := M7.out.c16
          generalize c2.es.length + 1 = L at *
          have HL3 : Hid (c3.es.length = L) := hl3
          have hL3 : L ≤ K + 1 := by rw [← hl3]; exact I7.out.esK
          have hL0 : 0 < c3.es.length := by rw [EQ3.out.2.1]; simp
          clear hl3
          obtain ⟨nx, hnx⟩ : ∃ nx, nx = c3.nx := ⟨_, rfl⟩
          rw [← hnx] at s16
          clear hnx
          go_wp2
          go_quiet (fail)
          have M8 : Hid (Mem (wc.drewN nq) sb c3 c3.ns) := M7.out.kept fun _ _ => rfl
          have V8 : Hid (Via sb c c3 w (wc.drewN nq)) := V7.out.trans (Via.of_below (below_drewN (Below.refl _ _) _))
          have MM : Hid (∀ d, d ∈ c3.es ↔ d ∈ c.es ∨ d = e) := fun d => by rw [EQ3.out.2.1, List.mem_append, List.mem_singleton]
          clear M7 V7 s13 s16
          generalize (wc.drewN nq) = W8 at *
          go_wp2_with fail
          · refine (f30 sb (K + 1) c3 W8 ⟨M8.out, I7.out⟩ (by omega) hL0).mono ?_
            rintro x w9 ⟨rfl, c4, hs, h1, h2, h3, h4, h5⟩
            have R1 : Hid (SetAt w9 sb c4 (K + 1)) := hs
            have R2 : Hid (c4.ns = c.ns ∧ (∀ d, d ∈ c4.es ↔ d ∈ c.es ∨ d = e) ∧ c4.de = c.de ∧ c4.dw = c.dw) := ⟨h1.trans EQ3.out.1, fun d => (h2 d).trans (MM.out d), h3.trans EQ3.out.2.2.1, h4.trans EQ3.out.2.2.2⟩
            have R3 : Hid (Via sb c c4 w w9) := V8.out.trans h5
            clear hs h1 h2 h3 h4 h5
            go_wp2
            go_end0
            exact ⟨rfl, c4, R1.out, R2.out.1, R2.out.2.1, R2.out.2.2.1, R2.out.2.2.2, R3.out⟩
          · go_end0
            exact ⟨rfl, c3, ⟨M8.out, I7.out⟩, EQ3.out.1, MM.out, EQ3.out.2.2.1, EQ3.out.2.2.2, V8.out⟩

end Go.Proofs.Qxb6627582a
