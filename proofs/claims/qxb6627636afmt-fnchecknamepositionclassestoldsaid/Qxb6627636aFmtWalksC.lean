import Derived.Test.Qxb6627636aFmtWalksA
import Derived.ShutString
import Derived.Laws.IdiomStrings
import Derived.Lib.ConvBytes
namespace Go.Proofs.Qxb6627636aFmt
open Go.RowKit Go.Extern.Stop Go.Stop Go.Extern

/-- what []byte(s) makes, its world under a letter -/
theorem conv_any (s : ByteArray) (w : World) : ∃ (cap : Nat) (W : World), (convert 9 29 (.string s)).run Tryf.prog w = .ok (.slice (some ⟨w.heap.size, 0, none⟩) s.size cap) W ∧
    (∀ j, j < s.size → W.cell? ⟨w.heap.size, j, none⟩ = some (.int .u8 (s.data.toList.getD j 0).toNat)) ∧ (∀ j, j < s.size → W.frozen? ⟨w.heap.size, j, none⟩ = false) ∧ w.heap.size < W.heap.size ∧ Below w.heap.size w W := by
  refine ⟨_, _, Lib.run_convert_string_bytes w 9 29 5 s Tryf.underlying9 Tryf.underlying29 Tryf.underlying5, fun j hj => Lib.bytesWorld_cell w 5 s j hj, fun j hj => ?_, ?_, ?_⟩
  · have h : s.size ≤ (Lib.bytesCells w 5 s).size := by simp [Lib.bytesCells]
    simp [World.frozen?, Lib.bytesWorld_at_new]; omega
  · rw [Lib.bytesWorld_size]; omega
  · have h := Lib.bytesWorld_at_old w 5 s
    exact ⟨rfl, rfl, rfl, by rw [Lib.bytesWorld_size]; omega, fun k hk => h k hk⟩

theorem below_setCell {B : Nat} {w w' : World} (h : Below B w w') {a : Addr} (ha : B ≤ a.block) (v : Value) : Below B w (w'.setCell a v) := h.setCell ha v

set_option maxHeartbeats 400000 in
theorem put_any (s : ByteArray) (i : Nat) (c : UInt8) (w : World) (_hs : s.size ≤ 65536) (hi : i < s.size) :
    Calls Tryf.prog 8 #[.string s, .int .i64 i, .int .u8 c.toNat] w fun e w' => e = .returned (.string ⟨(s.data.toList.set i c).toArray⟩) ∧ Below w.heap.size w w' := by
  obtain ⟨cap, W, hrun, hcell, hfro, hsz, hB⟩ := conv_any s w
  have hl : (s.data.toList.set i c).length = s.size := by simp
  have hback := run_convert_bytes_back (P := Tryf.prog) (W.setCell ⟨w.heap.size, i, none⟩ (.int .u8 c.toNat)) 29 9 5 ⟨w.heap.size, 0, none⟩ cap (s.data.toList.set i c) Tryf.underlying29 Tryf.underlying5 Tryf.underlying9 (fun j hj => by
    have e : (⟨w.heap.size, 0, none⟩ : Addr).add j = ⟨w.heap.size, j, none⟩ := by
      unfold Addr.add; split <;> simp_all
    rw [e, List.getElem_set]
    by_cases hij : i = j
    · subst hij
      rw [if_pos rfl]
      exact World.cell?_setCell_same _ _ _ (hcell i hi)
    · rw [if_neg hij, World.cell?_setCell_other _ _ _ _ (by intro h; exact hij (congrArg Addr.off h)), hcell j (by rw [hl] at hj; exact hj)]
      have hj' : j < s.data.toList.length := by rw [List.length_set] at hj; exact hj
      rw [List.getD_eq_getElem?_getD, List.getElem?_eq_getElem hj']
      rfl)
  rw [hl] at hback
  have hci := hcell i hi
  have hfi := hfro i hi
  clear hl
  go_enter Tryf.func8, Tryf.ntmps8
  go_wp2
  go_ret
  exact ⟨rfl, hB.setCell (Nat.le_refl _) _⟩

theorem bytes1_ok (s : ByteArray) (i : Int) (w : World) (hs : s.size ≤ 65536) :
    Calls Tryf.prog 7 #[.string s, .int .i64 i] w fun e w' => e = .returned (.bool true) ∧ w' = w := by
  go_enter Tryf.func7, Tryf.ntmps7
  go_wp2
  go_ret
  exact ⟨rfl, rfl⟩

/-- too long a text, or a position outside it: the law says nothing -/
theorem pos_out (s : ByteArray) (i : Int) (w : World) (hS : s.size ≤ maxLen) (h : 65536 < s.size ∨ (s.size ≤ 65536 ∧ (i < 0 ∨ (s.size : Int) ≤ i))) :
    Calls Tryf.prog 4 #[.string s, .int .i64 i] w fun e w' => e = .returned (.bool true) ∧ w' = w := by
  unfold maxLen at hS
  rcases h with h | ⟨h, h2⟩
  · go_enter Tryf.func4, Tryf.ntmps4
    go_wp2
    all_goals (go_ret; exact ⟨rfl, rfl⟩)
  · by_cases hi : i < 0
    · go_enter Tryf.func4, Tryf.ntmps4
      go_wp2
      all_goals (go_ret; exact ⟨rfl, rfl⟩)
    · have h3 : (s.size : Int) ≤ i := by omega
      clear h2
      go_enter Tryf.func4, Tryf.ntmps4
      go_wp2
      all_goals (go_ret; exact ⟨rfl, rfl⟩)

def putS (s : ByteArray) (k : Nat) (c : UInt8) : ByteArray := ⟨(s.data.toList.set k c).toArray⟩
theorem putS_size (s : ByteArray) (k : Nat) (c : UInt8) : (putS s k c).size = s.size := by
  show (s.data.toList.set k c).toArray.size = s.size
  simp
theorem putS_list (s : ByteArray) (k : Nat) (c : UInt8) : (putS s k c).data.toList = s.data.toList.set k c := rfl

theorem put_any' (s : ByteArray) (i : Nat) (c : UInt8) (w : World) (hs : s.size ≤ 65536) (hi : i < s.size) :
    Calls Tryf.prog 8 #[.string s, .int .i64 i, .int .u8 c.toNat] w fun e w' => e = .returned (.string (putS s i c)) ∧ Below w.heap.size w w' := put_any s i c w hs hi

theorem check_yes (F : Interp) (s : ByteArray) (k : Nat) (c : UInt8) (w : World) (hF : F.answers w.tape) (hs : s.size ≤ 65536) (h : nameB (s.data.toList.set k c) = true) :
    Calls Tryf.prog 6 #[.string (putS s k c)] w fun e w' => e = .returned .nilIface ∧ Below w.heap.size w w' := by
  refine (check_any F (putS s k c) w hF (by rw [putS_size, maxLen]; omega)).mono ?_
  rintro e w' ⟨hv, hb⟩
  rw [putS_list, h] at hv
  rcases hv with ⟨_, he⟩ | ⟨h, _⟩
  · exact ⟨he, hb⟩
  · cases h
theorem check_no (F : Interp) (s : ByteArray) (k : Nat) (c : UInt8) (w : World) (hF : F.answers w.tape) (hs : s.size ≤ 65536) (h : nameB (s.data.toList.set k c) = false) :
    Calls Tryf.prog 6 #[.string (putS s k c)] w fun e w' => ∃ a, e = .returned (.iface 32 (.pointer (some a))) ∧ Below w.heap.size w w' := by
  refine (check_any F (putS s k c) w hF (by rw [putS_size, maxLen]; omega)).mono ?_
  rintro e w' ⟨hv, hb⟩
  rw [putS_list, h] at hv
  rcases hv with ⟨h, _⟩ | ⟨_, a, he⟩
  · cases h
  · exact ⟨a, he, hb⟩

theorem okI_al (k : Nat) : okI k 97 = true ∧ okI k 90 = true ∧ okI k 48 = true := by
  refine ⟨?_, ?_, ?_⟩ <;> simp [okI]
theorem okI_dash (k : Nat) (h : 0 < k) : okI k 45 = true ∧ okI k 95 = true := by
  refine ⟨?_, ?_⟩ <;> simp [okI, h]
theorem okI_dash0 : okI 0 45 = false ∧ okI 0 95 = false := by decide

/-- the five verdicts -/
theorem five (l : List UInt8) (k : Nat) (hk : k < l.length) :
    nameB (l.set k 90) = nameB (l.set k 97) ∧ nameB (l.set k 48) = nameB (l.set k 97) ∧
    (0 < k → nameB (l.set k 45) = nameB (l.set k 97) ∧ nameB (l.set k 95) = nameB (l.set k 97)) ∧
    (k = 0 → nameB (l.set k 45) = false ∧ nameB (l.set k 95) = false) := by
  obtain ⟨a1, a2, a3⟩ := okI_al k
  refine ⟨nameB_set l k 90 97 hk ?_, nameB_set l k 48 97 hk ?_, fun h => ?_, fun h => ?_⟩
  · exact a2.trans a1.symm
  · exact a3.trans a1.symm
  · obtain ⟨b1, b2⟩ := okI_dash k h
    exact ⟨nameB_set l k 45 97 hk (b1.trans a1.symm), nameB_set l k 95 97 hk (b2.trans a1.symm)⟩
  · subst h
    exact ⟨nameB_set_bad l 0 45 hk okI_dash0.1, nameB_set_bad l 0 95 hk okI_dash0.2⟩

set_option maxHeartbeats 1000000 in
theorem pos_yes (F : Interp) (s : ByteArray) (k : Nat) (w : World) (hF : F.answers w.tape) (hs : s.size ≤ 65536) (hk : k < s.size) (h0 : 0 < k) (h64 : s.size ≤ 64)
     (N1 : nameB (s.data.toList.set k 45) = true) (N2 : nameB (s.data.toList.set k 95) = true) (N3 : nameB (s.data.toList.set k 97) = true) (N4 : nameB (s.data.toList.set k 90) = true) (N5 : nameB (s.data.toList.set k 48) = true) :
    Calls Tryf.prog 4 #[.string s, .int .i64 k] w fun e w' => e = .returned (.bool true) ∧ Below w.heap.size w w' := by
  have M1 : Hid (_ = _) := N1
  have M2 : Hid (_ = _) := N2
  have M3 : Hid (_ = _) := N3
  have M4 : Hid (_ = _) := N4
  have M5 : Hid (_ = _) := N5
  clear N1 N2 N3 N4 N5
  go_enter Tryf.func4, Tryf.ntmps4
  go_wp2_with fail
  refine (bytes1_ok s k w hs).mono ?_
  rintro e w0 ⟨rfl, rfl⟩
  have hbA0 : Below w0.heap.size w0 w0 := Below.refl _ _
  go_wp2_with fail
  refine (put_any' s k 45 _ hs hk).mono ?_
  rintro e w1 ⟨rfl, hb1⟩
  have hF1 : F.answers w1.tape := by rw [hb1.tape]; exact hF
  have hbA1 := hbA0.trans (hb1.mono hbA0.size)
  go_wp2_with fail
  refine (check_yes F s k 45 _ hF1 hs M1.out).mono ?_
  rintro e w2 ⟨rfl, hb2⟩
  have hF2 : F.answers w2.tape := by rw [hb2.tape]; exact hF1
  have hbA2 := hbA1.trans (hb2.mono hbA1.size)
  clear hF1 hb1 hb2 hbA1 M1
  go_wp2_with fail
  refine (put_any' s k 95 _ hs hk).mono ?_
  rintro e w3 ⟨rfl, hb3⟩
  have hF3 : F.answers w3.tape := by rw [hb3.tape]; exact hF2
  have hbA3 := hbA2.trans (hb3.mono hbA2.size)
  go_wp2_with fail
  refine (check_yes F s k 95 _ hF3 hs M2.out).mono ?_
  rintro e w4 ⟨rfl, hb4⟩
  have hF4 : F.answers w4.tape := by rw [hb4.tape]; exact hF3
  have hbA4 := hbA3.trans (hb4.mono hbA3.size)
  clear hF3 hb3 hb4 hbA3 hbA2 M2
  go_wp2_with fail
  refine (put_any' s k 97 _ hs hk).mono ?_
  rintro e w5 ⟨rfl, hb5⟩
  have hF5 : F.answers w5.tape := by rw [hb5.tape]; exact hF4
  have hbA5 := hbA4.trans (hb5.mono hbA4.size)
  go_wp2_with fail
  refine (check_yes F s k 97 _ hF5 hs M3.out).mono ?_
  rintro e w6 ⟨rfl, hb6⟩
  have hF6 : F.answers w6.tape := by rw [hb6.tape]; exact hF5
  have hbA6 := hbA5.trans (hb6.mono hbA5.size)
  clear hF5 hb5 hb6 hbA5 hbA4 M3
  go_wp2_with fail
  refine (put_any' s k 90 _ hs hk).mono ?_
  rintro e w7 ⟨rfl, hb7⟩
  have hF7 : F.answers w7.tape := by rw [hb7.tape]; exact hF6
  have hbA7 := hbA6.trans (hb7.mono hbA6.size)
  go_wp2_with fail
  refine (check_yes F s k 90 _ hF7 hs M4.out).mono ?_
  rintro e w8 ⟨rfl, hb8⟩
  have hF8 : F.answers w8.tape := by rw [hb8.tape]; exact hF7
  have hbA8 := hbA7.trans (hb8.mono hbA7.size)
  clear hF7 hb7 hb8 hbA7 hbA6 M4
  go_wp2_with fail
  refine (put_any' s k 48 _ hs hk).mono ?_
  rintro e w9 ⟨rfl, hb9⟩
  have hF9 : F.answers w9.tape := by rw [hb9.tape]; exact hF8
  have hbA9 := hbA8.trans (hb9.mono hbA8.size)
  go_wp2_with fail
  refine (check_yes F s k 48 _ hF9 hs M5.out).mono ?_
  rintro e w10 ⟨rfl, hb10⟩
  have hF10 : F.answers w10.tape := by rw [hb10.tape]; exact hF9
  have hbA10 := hbA9.trans (hb10.mono hbA9.size)
  clear hF9 hb9 hb10 hbA9 hbA8 M5
  go_wp2
  all_goals (go_ret; exact ⟨rfl, hbA10⟩)

set_option maxHeartbeats 1000000 in
theorem pos_no (F : Interp) (s : ByteArray) (k : Nat) (w : World) (hF : F.answers w.tape) (hs : s.size ≤ 65536) (hk : k < s.size)
     (N1 : nameB (s.data.toList.set k 45) = false) (N2 : nameB (s.data.toList.set k 95) = false) (N3 : nameB (s.data.toList.set k 97) = false) (N4 : nameB (s.data.toList.set k 90) = false) (N5 : nameB (s.data.toList.set k 48) = false) :
    Calls Tryf.prog 4 #[.string s, .int .i64 k] w fun e w' => e = .returned (.bool true) ∧ Below w.heap.size w w' := by
  have M1 : Hid (_ = _) := N1
  have M2 : Hid (_ = _) := N2
  have M3 : Hid (_ = _) := N3
  have M4 : Hid (_ = _) := N4
  have M5 : Hid (_ = _) := N5
  clear N1 N2 N3 N4 N5
  go_enter Tryf.func4, Tryf.ntmps4
  go_wp2_with fail
  refine (bytes1_ok s k w hs).mono ?_
  rintro e w0 ⟨rfl, rfl⟩
  have hbA0 : Below w0.heap.size w0 w0 := Below.refl _ _
  go_wp2_with fail
  refine (put_any' s k 45 _ hs hk).mono ?_
  rintro e w1 ⟨rfl, hb1⟩
  have hF1 : F.answers w1.tape := by rw [hb1.tape]; exact hF
  have hbA1 := hbA0.trans (hb1.mono hbA0.size)
  go_wp2_with fail
  refine (check_no F s k 45 _ hF1 hs M1.out).mono ?_
  rintro e w2 ⟨x0, rfl, hb2⟩
  have hF2 : F.answers w2.tape := by rw [hb2.tape]; exact hF1
  have hbA2 := hbA1.trans (hb2.mono hbA1.size)
  clear hF1 hb1 hb2 hbA1 M1
  go_wp2_with fail
  refine (put_any' s k 95 _ hs hk).mono ?_
  rintro e w3 ⟨rfl, hb3⟩
  have hF3 : F.answers w3.tape := by rw [hb3.tape]; exact hF2
  have hbA3 := hbA2.trans (hb3.mono hbA2.size)
  go_wp2_with fail
  refine (check_no F s k 95 _ hF3 hs M2.out).mono ?_
  rintro e w4 ⟨x1, rfl, hb4⟩
  have hF4 : F.answers w4.tape := by rw [hb4.tape]; exact hF3
  have hbA4 := hbA3.trans (hb4.mono hbA3.size)
  clear hF3 hb3 hb4 hbA3 hbA2 M2
  go_wp2_with fail
  refine (put_any' s k 97 _ hs hk).mono ?_
  rintro e w5 ⟨rfl, hb5⟩
  have hF5 : F.answers w5.tape := by rw [hb5.tape]; exact hF4
  have hbA5 := hbA4.trans (hb5.mono hbA4.size)
  go_wp2_with fail
  refine (check_no F s k 97 _ hF5 hs M3.out).mono ?_
  rintro e w6 ⟨x2, rfl, hb6⟩
  have hF6 : F.answers w6.tape := by rw [hb6.tape]; exact hF5
  have hbA6 := hbA5.trans (hb6.mono hbA5.size)
  clear hF5 hb5 hb6 hbA5 hbA4 M3
  go_wp2_with fail
  refine (put_any' s k 90 _ hs hk).mono ?_
  rintro e w7 ⟨rfl, hb7⟩
  have hF7 : F.answers w7.tape := by rw [hb7.tape]; exact hF6
  have hbA7 := hbA6.trans (hb7.mono hbA6.size)
  go_wp2_with fail
  refine (check_no F s k 90 _ hF7 hs M4.out).mono ?_
  rintro e w8 ⟨x3, rfl, hb8⟩
  have hF8 : F.answers w8.tape := by rw [hb8.tape]; exact hF7
  have hbA8 := hbA7.trans (hb8.mono hbA7.size)
  clear hF7 hb7 hb8 hbA7 hbA6 M4
  go_wp2_with fail
  refine (put_any' s k 48 _ hs hk).mono ?_
  rintro e w9 ⟨rfl, hb9⟩
  have hF9 : F.answers w9.tape := by rw [hb9.tape]; exact hF8
  have hbA9 := hbA8.trans (hb9.mono hbA8.size)
  go_wp2_with fail
  refine (check_no F s k 48 _ hF9 hs M5.out).mono ?_
  rintro e w10 ⟨x4, rfl, hb10⟩
  have hF10 : F.answers w10.tape := by rw [hb10.tape]; exact hF9
  have hbA10 := hbA9.trans (hb10.mono hbA9.size)
  clear hF9 hb9 hb10 hbA9 hbA8 M5
  go_wp2
  all_goals (go_ret; exact ⟨rfl, hbA10⟩)

set_option maxHeartbeats 1000000 in
theorem pos_zero (F : Interp) (s : ByteArray) (k : Nat) (w : World) (hF : F.answers w.tape) (hs : s.size ≤ 65536) (hk : k < s.size) (h0 : ((k : Int) == 0) = true) (h64 : s.size ≤ 64)
     (N1 : nameB (s.data.toList.set k 45) = false) (N2 : nameB (s.data.toList.set k 95) = false) (N3 : nameB (s.data.toList.set k 97) = true) (N4 : nameB (s.data.toList.set k 90) = true) (N5 : nameB (s.data.toList.set k 48) = true) :
    Calls Tryf.prog 4 #[.string s, .int .i64 k] w fun e w' => e = .returned (.bool true) ∧ Below w.heap.size w w' := by
  have M1 : Hid (_ = _) := N1
  have M2 : Hid (_ = _) := N2
  have M3 : Hid (_ = _) := N3
  have M4 : Hid (_ = _) := N4
  have M5 : Hid (_ = _) := N5
  clear N1 N2 N3 N4 N5
  go_enter Tryf.func4, Tryf.ntmps4
  go_wp2_with fail
  refine (bytes1_ok s k w hs).mono ?_
  rintro e w0 ⟨rfl, rfl⟩
  have hbA0 : Below w0.heap.size w0 w0 := Below.refl _ _
  go_wp2_with fail
  refine (put_any' s k 45 _ hs hk).mono ?_
  rintro e w1 ⟨rfl, hb1⟩
  have hF1 : F.answers w1.tape := by rw [hb1.tape]; exact hF
  have hbA1 := hbA0.trans (hb1.mono hbA0.size)
  go_wp2_with fail
  refine (check_no F s k 45 _ hF1 hs M1.out).mono ?_
  rintro e w2 ⟨x0, rfl, hb2⟩
  have hF2 : F.answers w2.tape := by rw [hb2.tape]; exact hF1
  have hbA2 := hbA1.trans (hb2.mono hbA1.size)
  clear hF1 hb1 hb2 hbA1 M1
  go_wp2_with fail
  refine (put_any' s k 95 _ hs hk).mono ?_
  rintro e w3 ⟨rfl, hb3⟩
  have hF3 : F.answers w3.tape := by rw [hb3.tape]; exact hF2
  have hbA3 := hbA2.trans (hb3.mono hbA2.size)
  go_wp2_with fail
  refine (check_no F s k 95 _ hF3 hs M2.out).mono ?_
  rintro e w4 ⟨x1, rfl, hb4⟩
  have hF4 : F.answers w4.tape := by rw [hb4.tape]; exact hF3
  have hbA4 := hbA3.trans (hb4.mono hbA3.size)
  clear hF3 hb3 hb4 hbA3 hbA2 M2
  go_wp2_with fail
  refine (put_any' s k 97 _ hs hk).mono ?_
  rintro e w5 ⟨rfl, hb5⟩
  have hF5 : F.answers w5.tape := by rw [hb5.tape]; exact hF4
  have hbA5 := hbA4.trans (hb5.mono hbA4.size)
  go_wp2_with fail
  refine (check_yes F s k 97 _ hF5 hs M3.out).mono ?_
  rintro e w6 ⟨rfl, hb6⟩
  have hF6 : F.answers w6.tape := by rw [hb6.tape]; exact hF5
  have hbA6 := hbA5.trans (hb6.mono hbA5.size)
  clear hF5 hb5 hb6 hbA5 hbA4 M3
  go_wp2_with fail
  refine (put_any' s k 90 _ hs hk).mono ?_
  rintro e w7 ⟨rfl, hb7⟩
  have hF7 : F.answers w7.tape := by rw [hb7.tape]; exact hF6
  have hbA7 := hbA6.trans (hb7.mono hbA6.size)
  go_wp2_with fail
  refine (check_yes F s k 90 _ hF7 hs M4.out).mono ?_
  rintro e w8 ⟨rfl, hb8⟩
  have hF8 : F.answers w8.tape := by rw [hb8.tape]; exact hF7
  have hbA8 := hbA7.trans (hb8.mono hbA7.size)
  clear hF7 hb7 hb8 hbA7 hbA6 M4
  go_wp2_with fail
  refine (put_any' s k 48 _ hs hk).mono ?_
  rintro e w9 ⟨rfl, hb9⟩
  have hF9 : F.answers w9.tape := by rw [hb9.tape]; exact hF8
  have hbA9 := hbA8.trans (hb9.mono hbA8.size)
  go_wp2_with fail
  refine (check_yes F s k 48 _ hF9 hs M5.out).mono ?_
  rintro e w10 ⟨rfl, hb10⟩
  have hF10 : F.answers w10.tape := by rw [hb10.tape]; exact hF9
  have hbA10 := hbA9.trans (hb10.mono hbA9.size)
  clear hF9 hb9 hb10 hbA9 hbA8 M5
  go_wp2
  all_goals (go_ret; exact ⟨rfl, hbA10⟩)

theorem pos_any (F : Interp) (s : ByteArray) (i : Int) (w : World) (hF : F.answers w.tape) (hS : s.size ≤ maxLen) :
    Calls Tryf.prog 4 #[.string s, .int .i64 i] w fun e w' => e = .returned (.bool true) ∧ Below w.heap.size w w' := by
  by_cases h : 65536 < s.size ∨ (s.size ≤ 65536 ∧ (i < 0 ∨ (s.size : Int) ≤ i))
  · refine (pos_out s i w hS h).mono ?_
    rintro e w' ⟨he, hw⟩
    subst hw
    exact ⟨he, Below.refl _ _⟩
  · obtain ⟨k, rfl⟩ : ∃ k : Nat, i = k := ⟨i.toNat, by omega⟩
    have hs : s.size ≤ 65536 := by omega
    have hk : k < s.size := by omega
    have hl : s.data.toList.length = s.size := by simp
    obtain ⟨f1, f2, f3, f4⟩ := five s.data.toList k (by rw [hl]; exact hk)
    cases n : nameB (s.data.toList.set k 97)
    · rw [n] at f1 f2 f3
      by_cases h0 : 0 < k
      · exact pos_no F s k w hF hs hk (f3 h0).1 (f3 h0).2 n f1 f2
      · exact pos_no F s k w hF hs hk (f4 (by omega)).1 (f4 (by omega)).2 n f1 f2
    · have h64 : s.size ≤ 64 := by
        have := ((nameB_iff _).1 n).2.1
        rw [List.length_set, hl] at this; exact this
      rw [n] at f1 f2 f3
      by_cases h0 : 0 < k
      · exact pos_yes F s k w hF hs hk h0 h64 (f3 h0).1 (f3 h0).2 n f1 f2
      · exact pos_zero F s k w hF hs hk (by have : k = 0 := by omega
                                            subst this; rfl) h64 (f4 (by omega)).1 (f4 (by omega)).2 n f1 f2

end Go.Proofs.Qxb6627636aFmt
