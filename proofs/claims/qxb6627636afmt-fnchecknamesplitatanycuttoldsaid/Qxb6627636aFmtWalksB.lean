import Derived.Test.Qxb6627636aFmtWalksA
import Derived.ShutString
namespace Go.Proofs.Qxb6627636aFmt
open Go.RowKit Go.Extern.Stop Go.Stop Go.Extern

theorem bytes2_ok (a b : ByteArray) (w : World) (ha : a.size ≤ 65536) (hb : b.size ≤ 65536) :
    Calls Tryf.prog 5 #[.string a, .string b] w fun e w' => e = .returned (.bool true) ∧ w' = w := by
  go_enter Tryf.func5, Tryf.ntmps5
  go_wp2
  go_ret
  exact ⟨rfl, rfl⟩

/-- one of the two is too long: the law says nothing -/
theorem split_long (a b : ByteArray) (w : World) (hA : a.size ≤ maxLen) (hB : b.size ≤ maxLen) (h : 65536 < a.size ∨ 65536 < b.size) :
    Calls Tryf.prog 3 #[.string a, .string b] w fun e w' => e = .returned (.bool true) ∧ w' = w := by
  unfold maxLen at hA hB
  rcases h with h | h
  · go_enter Tryf.func3, Tryf.ntmps3
    go_wp2
    all_goals (go_ret; exact ⟨rfl, rfl⟩)
  · go_enter Tryf.func3, Tryf.ntmps3
    go_wp2
    all_goals (go_ret; exact ⟨rfl, rfl⟩)

theorem app_data (a b : ByteArray) : (a ++ b).data.toList = a.data.toList ++ b.data.toList := by simp
theorem clash {x y u v t : Bool} (h1 : (x && y) = u) (h2 : x = v) (h3 : y = t) (hne : (v && t) ≠ u) : False := by
  subst h2; subst h3; exact hne h1
theorem size_97 (b : ByteArray) (h : b.size ≤ 64) : ((⟨#[97]⟩ : ByteArray) ++ b).size ≤ maxLen := by
  have e : (⟨#[97]⟩ : ByteArray).size = 1 := rfl
  rw [ByteArray.size_append, e, maxLen]; omega
theorem len_data (a : ByteArray) : a.data.toList.length = a.size := by simp

set_option maxHeartbeats 1000000 in
theorem split_main (F : Interp) (a b : ByteArray) (w : World) (hF : F.answers w.tape) (ha : a.size ≤ 65536) (hb : b.size ≤ 65536) :
    Calls Tryf.prog 3 #[.string a, .string b] w fun e w' => e = .returned (.bool true) ∧ Below w.heap.size w w' := by
  by_cases hlen : a.size + b.size = 0 ∨ 64 < a.size + b.size
  · have hn : nameB (a ++ b).data.toList = false := nameB_out _ (by rw [app_data, List.length_append, len_data, len_data]; exact hlen)
    go_enter Tryf.func3, Tryf.ntmps3
    go_wp2_with fail
    refine (bytes2_ok a b w ha hb).mono ?_
    rintro e w1 ⟨rfl, rfl⟩
    go_wp2_with fail
    refine (check_any F (a ++ b) _ hF (by simp [maxLen]; omega)).mono ?_
    rintro e w2 ⟨hv, hb2⟩
    rcases hv with ⟨h, _⟩ | ⟨_, x, rfl⟩
    · rw [hn] at h; cases h
    clear hn
    go_wp2
    all_goals (go_ret; exact ⟨rfl, hb2⟩)
  · have hlo : 0 < a.size + b.size := by omega
    have hhi : a.size + b.size ≤ 64 := by omega
    clear hlen
    have hd1 : ((a.size : Int) + (b.size : Int) == 0) = false := by rw [beq_eq_false_iff_ne]; omega
    have hd2 : decide ((64 : Int) < (a.size : Int) + (b.size : Int)) = false := decide_eq_false (by omega)
    by_cases h0 : a.size = 0
    · -- a is empty: a+b is b
      have hn : nameB (a ++ b).data.toList = nameB b.data.toList := by
        rw [app_data, List.eq_nil_of_length_eq_zero (l := a.data.toList) (by rw [len_data]; exact h0), List.nil_append]
      have hd3 : ((b.size : Int) == 0) = false := by rw [beq_eq_false_iff_ne]; omega
      have hd4 : decide ((64 : Int) < (b.size : Int)) = false := decide_eq_false (by omega)
      go_enter Tryf.func3, Tryf.ntmps3
      go_wp2_with fail
      refine (bytes2_ok a b w ha hb).mono ?_
      rintro e w1 ⟨rfl, rfl⟩
      go_wp2_with fail
      refine (check_any F (a ++ b) _ hF (by simp [maxLen]; omega)).mono ?_
      rintro e w2 ⟨hv, hb2⟩
      rw [hn] at hv
      clear hn
      have hF2 : F.answers w2.tape := by rw [hb2.tape]; exact hF
      rcases hv with ⟨h1, rfl⟩ | ⟨h1, x, rfl⟩
      all_goals
        have H1 : Hid (nameB b.data.toList = _) := h1
        clear h1
        go_wp2_with fail
        refine (check_any F b _ hF2 (by simp [maxLen]; omega)).mono ?_
        rintro e w3 ⟨hv, hb3⟩
        rcases hv with ⟨h2, rfl⟩ | ⟨h2, x, rfl⟩
        all_goals
          first
          | exact absurd (H1.out.symm.trans h2) (by decide)
          | (clear H1 h2
             go_wp2
             go_ret
             exact ⟨rfl, hb2.trans (hb3.mono hb2.size)⟩)
    · have hn : nameB (a ++ b).data.toList = (nameB a.data.toList && nameB ((⟨#[97]⟩ : ByteArray) ++ b).data.toList) := by
        rw [app_data, app_data]
        exact nameB_append _ _ (by rw [len_data]; omega) (by rw [len_data, len_data]; exact hhi)
      go_enter Tryf.func3, Tryf.ntmps3
      go_wp2_with fail
      refine (bytes2_ok a b w ha hb).mono ?_
      rintro e w1 ⟨rfl, rfl⟩
      go_wp2_with fail
      refine (check_any F (a ++ b) _ hF (by simp [maxLen]; omega)).mono ?_
      rintro e w2 ⟨hv, hb2⟩
      rw [hn] at hv
      clear hn
      have hF2 : F.answers w2.tape := by rw [hb2.tape]; exact hF
      rcases hv with ⟨h1, rfl⟩ | ⟨h1, x, rfl⟩
      all_goals
        have H1 : Hid ((nameB a.data.toList && nameB ((⟨#[97]⟩ : ByteArray) ++ b).data.toList) = _) := h1
        clear h1
        go_wp2_with fail
        refine (check_any F a _ hF2 (by simp [maxLen]; omega)).mono ?_
        rintro e w3 ⟨hv, hb3⟩
        have hF3 : F.answers w3.tape := by rw [hb3.tape]; exact hF2
        have hb3' := hb2.trans (hb3.mono hb2.size)
        rcases hv with ⟨h2, rfl⟩ | ⟨h2, x, rfl⟩
        all_goals
          have H2 : Hid (nameB a.data.toList = _) := h2
          clear h2
          first
          | (-- a is refused
             have := H1.out
             rw [H2.out] at this
             first
             | exact absurd this Bool.false_ne_true
             | (clear this
                go_wp2
                go_ret
                exact ⟨rfl, hb3'⟩))
          | (go_wp2_with fail
             refine (check_any F ((⟨#[97]⟩ : ByteArray) ++ b) _ hF3 (size_97 b (by omega))).mono ?_
             rintro e w4 ⟨hv, hb4⟩
             have hb4' := hb3'.trans (hb4.mono hb3'.size)
             rcases hv with ⟨h3, rfl⟩ | ⟨h3, x, rfl⟩
             all_goals
               first
               | exact (clash H1.out H2.out h3 (by decide)).elim
               | (clear h3
                  go_wp2
                  go_ret
                  exact ⟨rfl, hb4'⟩))

end Go.Proofs.Qxb6627636aFmt
