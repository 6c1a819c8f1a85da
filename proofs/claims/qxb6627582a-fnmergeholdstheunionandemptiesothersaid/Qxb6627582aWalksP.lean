import Derived.Test.Qxb6627582aWalksO
namespace Go.Proofs.Qxb6627582a
open Go.RowKit Go.Sort

/-- what a diagnostic says -/
def ntOf (d : Dg) : Nt := ⟨d.p, d.s, d.r, d.m, d.hs, d.hp, d.hr, d.hm⟩

theorem mem_prefix {c c' : SC} (hp : c.ns <+: c'.ns) (he : c'.es = c.es) (hb : ∀ e ∈ c.es, e.n < c.ns.length) (x : Dg) : c'.mem x ↔ c.mem x := by
  have hk : ∀ e ∈ c.es, c'.ns[e.n]? = c.ns[e.n]? := fun e h => by
    obtain ⟨t, ht⟩ := hp
    rw [← ht, List.getElem?_append_left (hb e h)]
  unfold SC.mem
  rw [he]
  constructor
  · rintro ⟨e, h1, n, h2, h3⟩
    exact ⟨e, h1, n, by rw [← hk e h1]; exact h2, h3⟩
  · rintro ⟨e, h1, n, h2, h3⟩
    exact ⟨e, h1, n, by rw [hk e h1]; exact h2, h3⟩

theorem mem_same {c c' : SC} (hn : c'.ns = c.ns) (he : ∀ e, e ∈ c'.es ↔ e ∈ c.es) (x : Dg) : c'.mem x ↔ c.mem x := by
  unfold SC.mem
  rw [hn]
  constructor
  · rintro ⟨e, h1, h2⟩
    exact ⟨e, (he e).mp h1, h2⟩
  · rintro ⟨e, h1, h2⟩
    exact ⟨e, (he e).mpr h1, h2⟩

theorem mem_add {c c' : SC} {e0 : En} {n : Nt} (hn : c'.ns = c.ns) (he : ∀ e, e ∈ c'.es ↔ e ∈ c.es ∨ e = e0) (h0 : c.ns[e0.n]? = some n) (x : Dg) : c'.mem x ↔ c.mem x ∨ x = mkD e0 n := by
  unfold SC.mem
  rw [hn]
  constructor
  · rintro ⟨e, h1, m, h2, h3⟩
    rcases (he e).mp h1 with h | h
    · exact .inl ⟨e, h, m, h2, h3⟩
    · subst h
      rw [h0] at h2
      cases h2
      exact .inr h3
  · rintro (⟨e, h1, h2⟩ | h)
    · exact ⟨e, (he e).mpr (.inl h1), h2⟩
    · exact ⟨e0, (he e0).mpr (.inr rfl), n, h0, h⟩

set_option maxHeartbeats 1000000 in
theorem f21 (sb K : Nat) (c : SC) (d : Dg) (w : World) (h : SetAt w sb c K) (hK : K < 800000) :
    Calls Try.prog 21 #[.pointer (some ⟨sb, 0, none⟩), .int .i32 d.l, .int .i32 d.c, .string d.p, .int .i64 d.s, .string d.r, .string d.m] w fun x w' => x = .returned (.tuple #[]) ∧ ∃ c' : SC, SetAt w' sb c' (K + 2) ∧ (∀ x, c'.mem x ↔ c.mem x ∨ x = d) ∧ c'.de = c.de ∧ c'.dw = c.dw ∧ Via sb c c' w w' := by
  have HS : Hid (SetAt w sb c K) := h
  clear h
  go_enter Try.func21, Try.ntmps21
  go_wp2_with fail
  refine (f22 sb K c (ntOf d) w HS.out (by omega)).mono ?_
  rintro x w1 ⟨i, c1, rfl, hs, hn, hp, he, hse, hun, hnx, hde, hdw, hv⟩
  have hi : i < c1.ns.length := by
    rcases Nat.lt_or_ge i c1.ns.length with h1 | h1
    · exact h1
    · rw [List.getElem?_eq_none h1] at hn; cases hn
  have hiK := hs.i.nsK
  have C := f23 sb (K + 1) c1 ⟨d.l, d.c, i, d.hl, d.hc, by omega⟩ w1 hs (by omega) hi
  have HC : Hid (Calls Try.prog 23 _ _ _) := C
  have E1 : Hid (∀ x, c1.mem x ↔ c.mem x) := mem_prefix hp he HS.out.i.esb
  have HN : Hid (c1.ns[i]? = some (ntOf d)) := hn
  have HE : Hid (c1.de = c.de ∧ c1.dw = c.dw ∧ Via sb c c1 w w1) := ⟨hde, hdw, hv⟩
  clear C hs hn hp he hse hun hnx hde hdw hv
  go_wp2_with fail
  refine HC.out.mono ?_
  rintro x w2 ⟨rfl, c2, hs2, hns, hes, hde2, hdw2, hv2⟩
  have HR : Hid (SetAt w2 sb c2 (K + 2) ∧ (∀ x, c2.mem x ↔ c.mem x ∨ x = d) ∧ c2.de = c.de ∧ c2.dw = c.dw ∧ Via sb c c2 w w2) :=
    ⟨hs2, fun x => by rw [mem_add hns hes HN.out, E1.out]; rfl, hde2.trans HE.out.1, hdw2.trans HE.out.2.1, HE.out.2.2.trans hv2⟩
  clear hs2 hns hes hde2 hdw2 hv2
  go_wp2
  go_end0
  exact ⟨rfl, c2, HR.out⟩

set_option maxHeartbeats 1000000 in
/-- zzPutAll: the set's blocks all lie from number B on, the list's below it -/
theorem f10 (sb K B : Nat) (c : SC) (bo : Option Addr) (cap : Nat) (xs : List Dg) (w : World) (h : SetAt w sb c K) (hr : DRow w bo xs) (hB : 0 < xs.length → ∀ ad, bo = some ad → ad.block < B) (hfp : ∀ b, c.fp sb b → B ≤ b) (hBw : B ≤ w.heap.size) (hl : xs.length ≤ 4096) (hK : K < 100000) :
    Calls Try.prog 10 #[.pointer (some ⟨sb, 0, none⟩), .slice bo xs.length cap] w fun x w' => x = .returned (.tuple #[]) ∧ ∃ c' : SC, SetAt w' sb c' (K + 2 * xs.length) ∧ (∀ x, c'.mem x ↔ c.mem x ∨ x ∈ xs) ∧ c'.de = c.de ∧ c'.dw = c.dw ∧ Via sb c c' w w' := by
  have HS : Hid (SetAt w sb c K) := h
  have HR : Hid (DRow w bo xs) := hr
  have HB : Hid (0 < xs.length → ∀ ad, bo = some ad → ad.block < B) := hB
  have HF : Hid (∀ b, c.fp sb b → B ≤ b) := hfp
  clear h hr hB hfp
  go_enter Try.func10, Try.ntmps10
  go_wp2
  go_loopw [8] (fun vi wr => ∃ (k : Nat) (c1 : SC), vi = .int .i64 k ∧ k ≤ xs.length ∧ SetAt wr sb c1 (K + 2 * k) ∧ (∀ x, c1.mem x ↔ c.mem x ∨ x ∈ xs.take k) ∧ c1.de = c.de ∧ c1.dw = c.dw ∧ Via sb c c1 w wr) (fun vi _ => xs.length - (intOf vi).toNat)
  case atStart => exact ⟨0, c, rfl, by omega, HS.out, fun x => by simp, rfl, rfl, Via.refl _ _ _⟩
  case round =>
    obtain ⟨k, c1, rfl, hk, hs, hm, hde, hdw, hv⟩ := hrel
    have HS1 : Hid (SetAt wr sb c1 (K + 2 * k)) := hs
    have HM : Hid (∀ x, c1.mem x ↔ c.mem x ∨ x ∈ xs.take k) := hm
    have HD : Hid (c1.de = c.de ∧ c1.dw = c.dw) := ⟨hde, hdw⟩
    have HV : Hid (Via sb c c1 w wr) := hv
    clear hs hm hde hdw hv
    by_cases hlt : k < xs.length
    · have hbl : Below B w wr := HV.out.frm.below hBw HF.out
      obtain ⟨b, off, hbo, h0, h1, h2, h3, h4, h5⟩ := HR.out k hlt
      have hb : b < B := HB.out (by omega) _ hbo
      have c0 := (hbl.cell (p := ⟨b, off + k * 6, none⟩) hb).trans h0
      have c1' := (hbl.cell (p := ⟨b, off + k * 6 + 1, none⟩) hb).trans h1
      have c2 := (hbl.cell (p := ⟨b, off + k * 6 + 2, none⟩) hb).trans h2
      have c3 := (hbl.cell (p := ⟨b, off + k * 6 + 3, none⟩) hb).trans h3
      have c4 := (hbl.cell (p := ⟨b, off + k * 6 + 4, none⟩) hb).trans h4
      have c5 := (hbl.cell (p := ⟨b, off + k * 6 + 5, none⟩) hb).trans h5
      have i2 : (k : Int) < (xs.length : Int) := by omega
      obtain ⟨d, hd⟩ : ∃ d, d = xs[k] := ⟨_, rfl⟩
      rw [← hd] at c0 c1' c2 c3 c4 c5
      have HDk : Hid (d = xs[k]) := hd
      have HBO : Hid (bo = some ⟨b, off, none⟩) := hbo
      clear hbl h0 h1 h2 h3 h4 h5 hd hb
      have HS2 : Hid (SetAt (wr.alloc (boxD d)) sb c1 (K + 2 * k)) := ⟨HS1.out.m.frm (Frm.alloc (fun _ => False) wr _) (fun _ _ => id), HS1.out.i⟩
      have HV2 : Hid (Via sb c c1 w (wr.alloc (boxD d))) := HV.out.trans (Via.of_below ((Below.refl _ _).alloc (Nat.le_refl _) _))
      rw [hbo]
      clear hbo
      go_wp2_with fail
      refine (f21 sb (K + 2 * k) c1 d _ HS2.out (by omega)).mono ?_
      rintro x w2 ⟨rfl, c6, hs, hm, hde, hdw, hv⟩
      have R : Hid (SetAt w2 sb c6 (K + 2 * (k + 1)) ∧ (∀ x, c6.mem x ↔ c.mem x ∨ x ∈ xs.take (k + 1)) ∧ c6.de = c.de ∧ c6.dw = c.dw ∧ Via sb c c6 w w2) :=
        ⟨hs, fun x => by rw [hm, HM.out, mem_take_succ hlt, HDk.out, or_assoc], hde.trans HD.out.1, hdw.trans HD.out.2, HV2.out.trans hv⟩
      clear hs hm hde hdw hv HS1 HS2 HV HV2 c0 c1' c2 c3 c4 c5
      go_wp2
      go_roundw
      case rel => exact ⟨k + 1, c6, by go_num, by omega, R.out⟩
      case measure => simp [intOf]; omega
    · obtain rfl : xs.length = k := by omega
      go_wp2
      go_end0
      exact ⟨rfl, c1, HS1.out, fun x => by rw [HM.out, List.take_length], HD.out.1, HD.out.2, HV.out⟩

end Go.Proofs.Qxb6627582a
