import Derived.Test.Qxb6627636aFmtCards
import Derived.Test.Qxb6627636aFmtErrF
import Derived.Test.Qxb6627636aFmtPlain
import Derived.WalkKit
import Derived.WalkSpells
import Derived.WalkLawsBesides
namespace Go.Proofs.Qxb6627636aFmt
open Go.RowKit Go.Extern.Stop Go.Stop Go.Extern

def intOf : Value → Int | .int _ q => q | _ => 0

/-- an error of fmt.Errorf's make, no wrap -/
def IsErr (e : Ending) : Prop := ∃ a, e = .returned (.iface 32 (.pointer (some a)))

/-- what CheckName hands back: nil where b is true, an error where it is false -/
def Verdict (b : Bool) (e : Ending) : Prop := (b = true ∧ e = .returned .nilIface) ∨ (b = false ∧ IsErr e)

theorem getD_at (s : ByteArray) (k : Nat) (h : k < s.size) : s.data.toList.getD k 0 = s[k] := by
  have : k < s.data.toList.length := by simpa using h
  rw [List.getD_eq_getElem?_getD, List.getElem?_eq_getElem this]
  rfl

/-- the sum of the tests ahead of the loop and of the first k bytes -/
def okK (s : ByteArray) (k : Nat) : Bool := decide (0 < s.size) && decide (s.size ≤ 64) && allB s.data.toList k

theorem okK_zero (s : ByteArray) : okK s 0 = (decide (0 < s.size) && decide (s.size ≤ 64)) := by simp [okK, allB]
theorem okK_succ (s : ByteArray) (k : Nat) (h : k < s.size) : okK s (k + 1) = (okK s k && okI k (s[k].toNat : Int)) := by
  unfold okK; rw [allB_succ, getD_at s k h, ← Bool.and_assoc]
theorem okK_false (s : ByteArray) (k : Nat) (h : k ≤ s.size) (hf : okK s k = false) : okK s s.size = false := by
  unfold okK at hf ⊢
  cases h1 : (decide (0 < s.size) && decide (s.size ≤ 64))
  · rfl
  · rw [h1] at hf; rw [allB_false s.data.toList k s.size h (by simpa using hf)]; rfl
theorem okK_end (s : ByteArray) : okK s s.size = nameB s.data.toList := by
  unfold okK nameB
  have : s.data.toList.length = s.size := by simp
  rw [this]

theorem toList_nil (s : ByteArray) : s.toList = [] ↔ s.size = 0 := by
  rw [ByteArray.toList_eq, List.eq_nil_iff_length_eq_zero]; simp

theorem start_nil (s : ByteArray) (h : s.toList = []) : Value.bool false = Value.bool (okK s 0) := by
  have := (toList_nil s).1 h
  rw [okK_zero]; simp [this]
theorem start_some (s : ByteArray) : Value.bool (!s.toList.isEmpty && decide ((s.size : Int) ≤ 64)) = Value.bool (okK s 0) := by
  rw [okK_zero]
  congr 2
  · rw [Bool.eq_iff_iff]
    simp [toList_nil, Nat.pos_iff_ne_zero]
  · rw [decide_eq_decide]; omega

set_option maxHeartbeats 1000000 in
theorem check_any (F : Interp) (s : ByteArray) (w : World) (hF : F.answers w.tape) (hs : s.size ≤ maxLen) :
    Calls Tryf.prog 6 #[.string s] w fun e w' => Verdict (nameB s.data.toList) e ∧ Below w.heap.size w w' := by
  have hF' := answers_open hF
  unfold maxLen at hs
  go_enter Tryf.func6, Tryf.ntmps6
  go_wp2
  all_goals
    go_loop [3, 4] (fun v i => ∃ k : Nat, k ≤ s.size ∧ i = .int .i64 k ∧ v = .bool (okK s k)) (fun _ i => s.size - (intOf i).toNat)
    case atStart => exact ⟨0, Nat.zero_le _, rfl, by first | exact start_some s | exact start_nil s ‹_›⟩
    case round =>
      obtain ⟨k, hk, rfl, rfl⟩ := hrel
      cases hv : okK s k
      · have hz : nameB s.data.toList = false := by rw [← okK_end]; exact okK_false s k hk hv
        clear hv
        go_wp2
        go_ret
        exact ⟨Or.inr ⟨rfl, ⟨_, rfl⟩⟩, (((Below.refl _ w).alloc (Nat.le_refl _) _).alloc (by simp) _).drew⟩
      · by_cases hlt : k < s.size
        · have HS : Hid (okK s (k + 1) = (okK s k && okI k (s[k].toNat : Int))) := okK_succ s k hlt
          go_wp2
          all_goals
            refine ⟨⟨k + 1, by omega, by go_num, ?_⟩, by simp [intOf]; omega⟩
            rw [HS.out, hv]
            exact congrArg Value.bool (by rw [Bool.eq_iff_iff]; simp [okI]; omega)
        · have hz : nameB s.data.toList = true := by rw [← okK_end, ← hv]; congr 1; omega
          go_wp2
          go_ret
          exact ⟨Or.inl ⟨rfl, rfl⟩, Below.refl _ _⟩

end Go.Proofs.Qxb6627636aFmt
