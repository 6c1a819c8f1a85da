import Derived.Test.Qxb6627582aWalksQ
import Derived.Test.Qxb6627582aWalksF
namespace Go.Proofs.Qxb6627582a
open Go.RowKit Go.Sort

def zeroN : Nt := ⟨ByteArray.empty, 0, ByteArray.empty, ByteArray.empty, by decide, by decide, by decide, by decide⟩

/-- the diagnostics of a set, entry by entry -/
def rd (c : SC) : List Dg := c.es.map fun e => mkD e (c.ns[e.n]?.getD zeroN)

theorem rd_len (c : SC) : (rd c).length = c.es.length := by simp [rd]

theorem rd_get (c : SC) (k : Nat) (h : k < c.es.length) (h' : k < (rd c).length) : (rd c)[k] = mkD c.es[k] (c.ns[c.es[k].n]?.getD zeroN) := by simp [rd]

theorem rd_mem {c : SC} (h : ∀ e ∈ c.es, e.n < c.ns.length) (d : Dg) : d ∈ rd c ↔ c.mem d := by
  unfold rd SC.mem
  rw [List.mem_map]
  constructor
  · rintro ⟨e, he, rfl⟩
    refine ⟨e, he, _, List.getElem?_eq_getElem (h e he), ?_⟩
    rw [List.getElem?_eq_getElem (h e he)]
    rfl
  · rintro ⟨e, he, n, hn, rfl⟩
    exact ⟨e, he, by rw [hn]; rfl⟩

set_option maxRecDepth 100000 in
set_option maxHeartbeats 2000000 in
theorem f12 (sb K : Nat) (c : SC) (w : World) (h : SetAt w sb c K) (hK : K ≤ 65536) :
    Calls Try.prog 12 #[.pointer (some ⟨sb, 0, none⟩)] w fun x w' => ∃ g cap, x = .returned (.slice (some ⟨g, 0, none⟩) c.es.length cap) ∧ OwnD w.heap.size w' g cap (rd c) ∧ Below w.heap.size w w' := by
  have HS : Hid (SetAt w sb c K) := h
  have hEK := h.i.esK
  obtain ⟨n, hn⟩ : ∃ n, n = c.es.length := ⟨_, rfl⟩
  have C16 := f16 sb K c w h
  rw [← hn] at C16 hEK ⊢
  have HN : Hid (n = c.es.length) := hn
  have H16 : Hid (Calls Try.prog 16 _ _ _) := C16
  clear h hn C16
  have hm := make66 n (by omega)
  go_enter Try.func12, Try.ntmps12
  go_wp2_with fail
  refine H16.out.mono ?_
  rintro x w1 ⟨rfl, rfl⟩
  go_wp2
  have O0 : Hid (OwnD w1.heap.size (w1.alloc (.cells (madeCells #[.int .i32 0, .int .i32 0, .string ByteArray.empty, .int .i64 0, .string ByteArray.empty, .string ByteArray.empty] (n * 6)) 38)) w1.heap.size n (List.replicate n zeroD)) := own_made6 w1 n (by omega)
  have B0 : Hid (Below w1.heap.size w1 (w1.alloc (.cells (madeCells #[.int .i32 0, .int .i32 0, .string ByteArray.empty, .int .i64 0, .string ByteArray.empty, .string ByteArray.empty] (n * 6)) 38))) := (Below.refl _ _).alloc (Nat.le_refl _) _
  clear hm H16
  obtain ⟨N, hN⟩ : ∃ N, N = w1.heap.size := ⟨_, rfl⟩
  rw [← hN] at O0 B0 ⊢
  have HNN : Hid (N = w1.heap.size) := hN
  clear hN
  generalize (w1.alloc (.cells (madeCells #[.int .i32 0, .int .i32 0, .string ByteArray.empty, .int .i64 0, .string ByteArray.empty, .string ByteArray.empty] (n * 6)) 38)) = W0 at *
  go_loopw [5] (fun vi wr => ∃ k : Nat, ∃ zs : List Dg, vi = .int .i64 k ∧ k ≤ n ∧ zs.length = n ∧ zs.take k = (rd c).take k ∧ OwnD N wr N n zs ∧ Below N w1 wr) (fun vi _ => n - (intOf vi).toNat)
  case atStart => exact ⟨0, List.replicate n zeroD, rfl, by omega, by simp, by simp, O0.out, B0.out⟩
  case round =>
    clear O0 B0
    obtain ⟨k, zs, rfl, hk, hz, e, o, b⟩ := hrel
    have OW : Hid (OwnD N wr N n zs) := o
    have BL : Hid (Below N w1 wr) := b
    have E : Hid (zs.take k = (rd c).take k) := e
    clear o b e
    by_cases hlt : k < n
    · have i2 : (k : Int) < (n : Int) := by omega
      have hke : k < c.es.length := by rw [← HN.out]; exact hlt
      have hkr : k < (rd c).length := by rw [rd_len]; exact hke
      have hen := HS.out.i.esb _ (List.getElem_mem hke)
      have HSr : Hid (SetAt wr sb c K) := ⟨HS.out.m.kept fun b hb => BL.out.block b (by rw [HNN.out]; exact HS.out.m.fp_lt b hb), HS.out.i⟩
      obtain ⟨nt, hnt⟩ : ∃ nt, c.ns[c.es[k].n]? = some nt := ⟨_, List.getElem?_eq_getElem hen⟩
      obtain ⟨e, he⟩ : ∃ e, e = c.es[k] := ⟨_, rfl⟩
      rw [← he] at hnt
      have C := f24 sb K c k e nt wr HSr.out (by rw [List.getElem?_eq_getElem hke, he]) hnt
      have HC : Hid (Calls Try.prog 24 _ _ _) := C
      have HX : Hid ((rd c)[k] = mkD e nt) := by
        show (rd c)[k] = mkD e nt
        rw [rd_get c k hke hkr, ← he, hnt]
        rfl
      clear C hnt he HSr hen
      go_wp2_with fail
      refine HC.out.mono ?_
      rintro x w2 ⟨rfl, hb2⟩
      have hNw : N ≤ wr.heap.size := by rw [HNN.out]; exact BL.out.size
      have hgl := (own_lt OW.out).2
      have OW2 : Hid (OwnD N w2 N n zs) := OW.out.below hb2 hgl
      have BL2 : Hid (Below N w1 w2) := BL.out.trans (hb2.mono hNw)
      clear hb2 OW BL HC
      have hkz : k < zs.length := by omega
      obtain ⟨b0', b1, b2, b3, b4, b5⟩ := own_at6 OW2.out k hkz
      have fz := fun q => World.ownsRow.frozenAt OW2.out q
      have f0 := fz (k * 6)
      have f1 := fz (k * 6 + 1)
      have f2 := fz (k * 6 + 2)
      have f3 := fz (k * 6 + 3)
      have f4 := fz (k * 6 + 4)
      have f5 := fz (k * 6 + 5)
      clear fz
      obtain ⟨r1, r2⟩ := own_store6 OW2.out k hkz (mkD e nt)
      have R1 : Hid (OwnD N _ N n (zs.set k (mkD e nt))) := r1
      have R2 : Hid (Below N w1 _) := BL2.out.grown r2 (by rw [HNN.out]; exact BL2.out.size) (by rintro _ ⟨⟩; exact Nat.le_refl _)
      have R3 : Hid ((zs.set k (mkD e nt)).take (k + 1) = (rd c).take (k + 1)) := by rw [← HX.out]; exact take_set_self E.out hkr hkz
      have hz' : (zs.set k (mkD e nt)).length = n := by simpa using hz
      clear r1 r2 OW2 BL2 E HX hgl
      go_wp2
      go_roundw
      case rel => exact ⟨k + 1, zs.set k (mkD e nt), by go_num, by omega, hz', R3.out, R1.out, R2.out⟩
      case measure => simp [intOf]; omega
    · obtain rfl : n = k := by omega
      obtain rfl : zs = rd c := by
        have := E.out
        rw [List.take_of_length_le (by omega), List.take_of_length_le (by rw [rd_len, ← HN.out]; exact Nat.le_refl _)] at this
        exact this
      go_wp2
      go_ret
      rw [← HNN.out]
      exact ⟨N, n, rfl, OW.out, BL.out⟩

end Go.Proofs.Qxb6627582a
