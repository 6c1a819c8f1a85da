import Derived.Test.Qxb6627577aFmtWalksA
import Derived.Deep.RegionWith
namespace Go.Proofs.Qxb6627577aFmt
open Go.RowKit Go.Extern.Stop Go.Stop Go.Extern

/-- the bytes bs lie in block g, from its head on -/
structure Byt (w : World) (g : Nat) (bs : List Int) : Prop where
  lt : g < w.heap.size
  cell : ∀ j, j < bs.length → w.cell? ⟨g, j, none⟩ = some (.int .u8 (bs.getD j 0))
  bd : ∀ j, 0 ≤ bs.getD j 0 ∧ bs.getD j 0 ≤ 255

theorem Byt.later {w w' : World} {g : Nat} {bs : List Int} (h : Byt w g bs) (hb : Below w.heap.size w w') : Byt w' g bs :=
  ⟨Nat.lt_of_lt_of_le h.lt hb.size, fun j hj => cell_later hb (h.cell j hj), h.bd⟩

theorem Byt.drew {w : World} {g : Nat} {bs : List Int} (h : Byt w g bs) : Byt w.drew g bs := ⟨h.lt, fun j hj => by simpa using h.cell j hj, h.bd⟩

def le16 (bs : List Int) (j : Nat) : Int := bs.getD j 0 + bs.getD (j + 1) 0 * 256
def le32 (bs : List Int) (j : Nat) : Int := bs.getD j 0 + bs.getD (j + 1) 0 * 256 + bs.getD (j + 2) 0 * 65536 + bs.getD (j + 3) 0 * 16777216

theorem Byt.u16 {w : World} {g : Nat} {bs : List Int} (h : Byt w g bs) (o n c : Nat) (hn : 2 ≤ n) (ho : o + 1 < bs.length) :
    Calls Tryf.prog 10 #[.agg #[], .slice (some ⟨g, o, none⟩) n c] w fun e w' => e = .returned (.int .u16 (le16 bs o)) ∧ Below w.heap.size w w' :=
  u16_any g o n c _ _ w hn (h.bd _) (h.bd _) (h.cell o (by omega)) (h.cell (o + 1) ho)
theorem Byt.u32 {w : World} {g : Nat} {bs : List Int} (h : Byt w g bs) (o n c : Nat) (hn : 4 ≤ n) (ho : o + 3 < bs.length) :
    Calls Tryf.prog 9 #[.agg #[], .slice (some ⟨g, o, none⟩) n c] w fun e w' => e = .returned (.int .u32 (le32 bs o)) ∧ Below w.heap.size w w' :=
  u32_any g o n c _ _ _ _ w hn (h.bd _) (h.bd _) (h.bd _) (h.bd _) (h.cell o (by omega)) (h.cell (o + 1) (by omega)) (h.cell (o + 2) (by omega)) (h.cell (o + 3) ho)

/-- split ends in an error -/
def SplitErr (w : World) (e : Ending) (w' : World) : Prop := (∃ v, e = .returned (.tuple #[.pointer none, v]) ∧ IsErr v) ∧ Below w.heap.size w w'

theorem split_short (F : Interp) (a : Option Addr) (n c : Nat) (w : World) (hF : F.answers w.tape) (hn : n < 54) :
    Calls Tryf.prog 7 #[.slice a n c] w fun e w' => SplitErr w e w' := by
  have hF' := answers_open hF
  go_enter Tryf.func7, Tryf.ntmps7
  go_wp2
  go_ret2
  exact ⟨⟨_, rfl, ⟨_, rfl⟩⟩, (((Below.refl _ w).alloc (Nat.le_refl _) _).alloc (by simp) _).drew⟩

/-- where the TD report stands: its start and its size -/
def frameOf (bs : List Int) : Option (Nat × Nat) :=
  if bs.length < 54 then none
  else if (le32 bs 4 == 129) = false then none
  else if le16 bs 0 == 4 then (if bs.length < 636 then none else some (48, 584))
  else if le16 bs 0 == 5 then (if bodyOk (le16 bs 48) (le32 bs 50) = true then (if (bs.length : Int) < le32 bs 50 + 58 then none else some (54, (le32 bs 50).toNat)) else none)
  else none

def SplitPost (w : World) (g : Nat) (bs : List Int) (c : Nat) (e : Ending) (w' : World) : Prop :=
  (frameOf bs = none ∧ SplitErr w e w') ∨
  ∃ st sz f, frameOf bs = some (st, sz) ∧ e = .returned (.tuple #[.pointer (some ⟨f, 0, none⟩), .nilIface]) ∧ w'.cell? ⟨f, 1, none⟩ = some (.slice (some ⟨g, st, none⟩) sz (c - st)) ∧ Below w.heap.size w w'

theorem le32_bd {w : World} {g : Nat} {bs : List Int} (h : Byt w g bs) (j : Nat) : 0 ≤ le32 bs j ∧ le32 bs j < 4294967296 := by
  have h0 := h.bd j; have h1 := h.bd (j + 1); have h2 := h.bd (j + 2); have h3 := h.bd (j + 3)
  unfold le32; omega
theorem le16_bd {w : World} {g : Nat} {bs : List Int} (h : Byt w g bs) (j : Nat) : 0 ≤ le16 bs j ∧ le16 bs j < 65536 := by
  have h0 := h.bd j; have h1 := h.bd (j + 1)
  unfold le16; omega

set_option maxRecDepth 100000 in
set_option maxHeartbeats 2000000 in
theorem split_any (F : Interp) (g : Nat) (bs : List Int) (c : Nat) (w : World) (hF : F.answers w.tape) (hb : Byt w g bs) (hn : 54 ≤ bs.length) (hn2 : bs.length ≤ 2097152) (hc : bs.length ≤ c) :
    Calls Tryf.prog 7 #[.slice (some ⟨g, 0, none⟩) bs.length c] w fun e w' => SplitPost w g bs c e w' := by
  have i1 : (4 : Int) ≤ (bs.length : Int) := by omega
  have i2 : (bs.length : Int) ≤ (c : Int) := by omega
  have c4 : ¬ c = 4 := by omega
  have hU := Byt.u32 hb.drew 4 (bs.length - 4) (c - 4) (by omega) (by omega)
  have HU : Hid (Calls Tryf.prog 9 _ _ _) := hU
  clear hU
  go_enter Tryf.func7, Tryf.ntmps7
  go_wp2
  go_region_with (go_at_call 9; refine HU.out.mono ?_; rintro e w1 ⟨rfl, hb1⟩)
  have hB1 : Below w.heap.size w w1 := (Below.refl _ w).drew.trans hb1
  have hY1 : Byt w1 g bs := hb.later hB1
  have hF1 : F.answers w1.tape := by rw [hB1.tape]; exact hF
  clear HU hb1
  cases ht : le32 bs 4 == 129
  · have hF' := answers_open hF1
    have H : Hid (frameOf bs = none) := by
      show _ = _
      unfold frameOf
      rw [if_neg (by omega), if_pos ht]
    go_wp2
    go_ret2
    exact Or.inl ⟨H.out, ⟨_, rfl, ⟨_, rfl⟩⟩, ((hB1.alloc hB1.size _).alloc (by simp; have := hB1.size; omega) _).drew⟩
  · have c0 : ¬ c = 0 := by omega
    have hU := Byt.u16 hY1.drew 0 bs.length c (by omega) (by omega)
    have HU : Hid (Calls Tryf.prog 10 _ _ _) := hU
    clear hU
    go_wp2
    go_region_with (go_at_call 10; refine HU.out.mono ?_; rintro e w2 ⟨rfl, hb2⟩)
    have hB2 : Below w.heap.size w w2 := hB1.trans (((Below.refl w.heap.size w1).drew).trans (hb2.mono hB1.size))
    have hY2 : Byt w2 g bs := hb.later hB2
    have hF2 : F.answers w2.tape := by rw [hB2.tape]; exact hF
    clear HU hb2 hY1 hF1 hB1
    cases hv4 : le16 bs 0 == 4
    · cases hv5 : le16 bs 0 == 5
      · -- another version
        have hF' := answers_open hF2
        have H : Hid (frameOf bs = none) := by
          show _ = _
          unfold frameOf
          rw [if_neg (by omega), if_neg (by rw [ht]; decide), if_neg (by rw [hv4]; decide), if_neg (by rw [hv5]; decide)]
        go_wp2
        go_ret2
        exact Or.inl ⟨H.out, ⟨_, rfl, ⟨_, rfl⟩⟩, ((hB2.alloc hB2.size _).alloc (by simp; have := hB2.size; omega) _).drew⟩
      · -- version 5
        obtain ⟨sz, hsz⟩ : ∃ sz : Nat, le32 bs 50 = (sz : Int) := ⟨(le32 bs 50).toNat, by have := le32_bd hb 50; omega⟩
        have hsb : (sz : Int) < 4294967296 := by have := le32_bd hb 50; omega
        have SZ : Hid (le32 bs 50 = (sz : Int)) := hsz
        have hY2d := hY2.drew
        have hU := Byt.u16 hY2d 48 (bs.length - 48) (c - 48) (by omega) (by omega)
        have HU : Hid (Calls Tryf.prog 10 _ _ _) := hU
        clear hU hsz
        have c48 : ¬ c = 48 := by omega
        have c50 : ¬ c = 50 := by omega
        have i48 : (48 : Int) ≤ (bs.length : Int) := by omega
        have i50 : (50 : Int) ≤ (bs.length : Int) := by omega
        go_wp2
        go_region_with (go_at_call 10; refine HU.out.mono ?_; rintro e w3 ⟨rfl, hb3⟩)
        have hB3 : Below w.heap.size w w3 := hB2.trans (((Below.refl w.heap.size w2).drew).trans (hb3.mono hB2.size))
        have hY3 : Byt w3 g bs := hb.later hB3
        have hF3 : F.answers w3.tape := by rw [hB3.tape]; exact hF
        have hU := Byt.u32 hY3.drew 50 (bs.length - 50) (c - 50) (by omega) (by omega)
        rw [SZ.out] at hU
        have HU2 : Hid (Calls Tryf.prog 9 _ _ _) := hU
        clear hU HU hb3 hY2 hY2d hF2 hB2
        go_wp2
        go_region_with (go_at_call 9; refine HU2.out.mono ?_; rintro e w4 ⟨rfl, hb4⟩)
        have hB4 : Below w.heap.size w w4 := hB3.trans (((Below.refl w.heap.size w3).drew).trans (hb4.mono hB3.size))
        have hF4 : F.answers w4.tape := by rw [hB4.tape]; exact hF
        clear HU2 hb4 hY3 hF3 hB3
        go_wp2_with fail
        refine (body_any F (le16 bs 48) (sz : Int) w4 hF4).mono ?_
        rintro e w5 ⟨hv, hb5⟩
        have hB5 : Below w.heap.size w w5 := hB4.trans (hb5.mono hB4.size)
        have hF5 : F.answers w5.tape := by rw [hB5.tape]; exact hF
        clear hb5 hF4 hB4
        rcases hv with ⟨hok, rfl⟩ | ⟨hok, v, rfl, x, rfl⟩
        · have OK : Hid (bodyOk (le16 bs 48) (sz : Int) = true) := hok
          clear hok
          by_cases hl : (bs.length : Int) < (sz : Int) + 58
          · have hF' := answers_open hF5
            have H : Hid (frameOf bs = none) := by
              show _ = _
              unfold frameOf
              rw [if_neg (by omega), if_neg (by rw [ht]; decide), if_neg (by rw [hv4]; decide), if_pos hv5, SZ.out, if_pos OK.out, if_pos hl]
            obtain ⟨a, ha1, ha2⟩ : ∃ a : Nat, (sz : Int) ≤ 65536 * (a : Int) + 65535 ∧ (a : Int) ≤ 65535 := ⟨sz / 65536, by omega, by omega⟩
            clear hsb
            go_wp2
            go_ret2
            exact Or.inl ⟨H.out, ⟨_, rfl, ⟨_, rfl⟩⟩, ((hB5.alloc hB5.size _).alloc (by simp; have := hB5.size; omega) _).drew⟩
          · have H : Hid (frameOf bs = some (54, sz)) := by
              show _ = _
              unfold frameOf
              rw [if_neg (by omega), if_neg (by rw [ht]; decide), if_neg (by rw [hv4]; decide), if_pos hv5, SZ.out, if_pos OK.out, if_neg hl]
              rfl
            have hl1 : (sz : Int) + 58 ≤ (bs.length : Int) := by omega
            have hl2 : (sz : Int) ≤ 2097152 := by omega
            clear hl hsb
            have c54 : ¬ c = 54 := by omega
            have cE : ¬ c = 54 + sz := by omega
            have i3 : (54 : Int) + (sz : Int) ≤ (c : Int) := by omega
            have i4 : (54 : Int) + (sz : Int) ≤ (bs.length : Int) := by omega
            go_wp2
            go_region
            go_wp2
            go_ret2
            refine Or.inr ⟨54, sz, _, H.out, rfl, ?_, (hB5.alloc hB5.size _).drew⟩
            go_simp
        · have H : Hid (frameOf bs = none) := by
            show _ = _
            unfold frameOf
            rw [if_neg (by omega), if_neg (by rw [ht]; decide), if_neg (by rw [hv4]; decide), if_pos hv5, SZ.out, if_neg (by rw [hok]; decide)]
          clear hok
          go_wp2
          go_ret2
          exact Or.inl ⟨H.out, ⟨_, rfl, ⟨_, rfl⟩⟩, hB5⟩
    · -- version 4
      by_cases hl : bs.length < 636
      · have hF' := answers_open hF2
        have H : Hid (frameOf bs = none) := by
          show _ = _
          unfold frameOf
          rw [if_neg (by omega), if_neg (by rw [ht]; decide), if_pos hv4, if_pos hl]
        go_wp2
        go_ret2
        exact Or.inl ⟨H.out, ⟨_, rfl, ⟨_, rfl⟩⟩, ((hB2.alloc hB2.size _).alloc (by simp; have := hB2.size; omega) _).drew⟩
      · have H : Hid (frameOf bs = some (48, 584)) := by
          show _ = _
          unfold frameOf
          rw [if_neg (by omega), if_neg (by rw [ht]; decide), if_pos hv4, if_neg hl]
        have c48 : ¬ c = 48 := by omega
        have c632 : ¬ c = 632 := by omega
        have i3 : (632 : Int) ≤ (c : Int) := by omega
        have i4 : (632 : Int) ≤ (bs.length : Int) := by omega
        go_wp2
        go_region
        go_wp2
        go_ret2
        refine Or.inr ⟨48, 584, _, H.out, rfl, ?_, (hB2.alloc hB2.size _).drew⟩
        go_simp

end Go.Proofs.Qxb6627577aFmt
