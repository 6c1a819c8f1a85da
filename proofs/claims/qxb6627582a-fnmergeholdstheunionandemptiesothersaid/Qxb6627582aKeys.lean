import Derived.Test.Qxb6627582aPlain
import Derived.Maps.Own
import Derived.Maps.OwnSet
import Derived.DeepKeys
import Derived.DeepKeys4
namespace Go.Proofs.Qxb6627582a
open Go.RowKit
open Go.Maps (Keyed)

theorem Try.cells52 : Try.prog.cellsOf 52 = 4 := by kernel_rfl
theorem Try.cells9 : Try.prog.cellsOf 9 = 1 := by kernel_rfl
theorem Try.cells49 : Try.prog.cellsOf 49 = 1 := by kernel_rfl
theorem Try.cells50 : Try.prog.cellsOf 50 = 1 := by kernel_rfl
theorem Try.cells55 : Try.prog.cellsOf 55 = 3 := by kernel_rfl
theorem Try.cells21 : Try.prog.cellsOf 21 = 1 := by kernel_rfl
theorem Try.laidOut : laidOutB Try.prog = true := by kernel_rfl
theorem Try.row52 : 52 < Try.prog.types.size := by decide +kernel
theorem Try.wide52 : (match Try.prog.underlying 52 with | some (.array _ _) | some (.struct _) => true | _ => false) = true := by rw [Try.underlying52]
theorem Try.wide55 : (match Try.prog.underlying 55 with | some (.array _ _) | some (.struct _) => true | _ => false) = true := by rw [Try.underlying55]
theorem Try.keyed : Keyed Try.prog 52 := Keyed.of_law (deep_law_laid Try.laidOut (m := 2) (by omega) Try.row52 (by kernel_rfl) Try.wide52)
theorem Try.keyType52 : Try.prog.keyType 52 = true := by kernel_rfl
theorem Try.keyType55 : Try.prog.keyType 55 = true := by kernel_rfl

def keyN (n : Nt) : Lit := .string (keyBytes [.string n.p.data.toList, .int .i64 n.s, .string n.r.data.toList, .string n.m.data.toList])
def keyE (e : En) : Lit := .string (keyBytes [.int .i32 e.l, .int .i32 e.c, .int .i32 e.n])

theorem wf64 {s : Int} (h : -9223372036854775808 ≤ s ∧ s ≤ 9223372036854775807) : (Lit.int .i64 s).wf = true := by
  simp [Lit.wf, IntKind.min, IntKind.max, IntKind.bits, IntKind.signed]; omega

theorem wf32 {s : Int} (h : -2147483648 ≤ s ∧ s ≤ 2147483647) : (Lit.int .i32 s).wf = true := by
  simp [Lit.wf, IntKind.min, IntKind.max, IntKind.bits, IntKind.signed]; omega

theorem lits_str (d : Nat) (t : TypeId) (ht : Try.prog.underlying t = some .string) (s : ByteArray) (hs : s.size ≤ maxLen) : Try.prog.keyLits (d + 1) t [.string s] = some [.string s.data.toList] := by
  simp [Program.keyLits, ht, hs]
theorem lits_int (d : Nat) (t : TypeId) (q : IntKind) (ht : Try.prog.underlying t = some (.int q)) (s : Int) (hs : (Lit.int q s).wf = true) : Try.prog.keyLits (d + 1) t [.int q s] = some [.int q s] := by
  simp [Program.keyLits, ht, hs]

theorem lits_N (d : Nat) (n : Nt) : Try.prog.keyLits (d + 2) 52 (encN n) = some [.string n.p.data.toList, .int .i64 n.s, .string n.r.data.toList, .string n.m.data.toList] := by
  rw [show d + 2 = (d + 1) + 1 from rfl]
  simp only [Program.keyLits, Try.underlying52, Try.cells52]
  rw [if_pos ⟨rfl, by simp⟩]
  have := wf64 n.hs
  simp [Try.cells9, Try.cells49, Try.cells50, n.hp, n.hr, n.hm, this]

theorem lits_E (d : Nat) (e : En) : Try.prog.keyLits (d + 2) 55 (encE e) = some [.int .i32 e.l, .int .i32 e.c, .int .i32 e.n] := by
  have h1 := wf32 e.hl
  have h2 := wf32 e.hc
  have h3 := wf32 (s := (e.n : Int)) (by have := e.hn; omega)
  rw [show d + 2 = (d + 1) + 1 from rfl]
  simp only [Program.keyLits, Try.underlying55, Try.cells55]
  rw [if_pos ⟨rfl, by simp⟩]
  simp [Try.cells21, h1, h2, h3]

theorem types_big : ∃ d, Try.prog.types.size + 1 = d + 2 := by
  have := Try.row52
  exact ⟨Try.prog.types.size - 1, by omega⟩

theorem key_N (n : Nt) : keyOf Try.prog 52 (valN n) = some (keyN n) := by
  have hf : (valN n).formed Try.prog 52 = true := by simp [Value.formed, Try.underlying52, Try.cells52]
  unfold keyOf
  rw [Try.underlying52]
  simp only [Try.keyType52, hf, Bool.and_self, if_true]
  obtain ⟨d, hd⟩ := types_big
  rw [hd]
  show (Try.prog.keyLits (d + 2) 52 (encN n)).map _ = _
  rw [lits_N]
  rfl

theorem key_E (e : En) : keyOf Try.prog 55 (valE e) = some (keyE e) := by
  have hf : (valE e).formed Try.prog 55 = true := by simp [Value.formed, Try.underlying55, Try.cells55]
  unfold keyOf
  rw [Try.underlying55]
  simp only [Try.keyType55, hf, Bool.and_self, if_true]
  obtain ⟨d, hd⟩ := types_big
  rw [hd]
  show (Try.prog.keyLits (d + 2) 55 (encE e)).map _ = _
  rw [lits_E]
  rfl

theorem Try.keyed55 : Keyed Try.prog 55 := Keyed.of_law (deep_law_laid Try.laidOut (m := 2) (by omega) (by decide +kernel) (by kernel_rfl) Try.wide55)

theorem keyN_inj {a b : Nt} (h : keyN a = keyN b) : a = b := by
  have e := Try.keyed.inj (key_N a) (by rw [h]; exact key_N b)
  cases a; cases b
  simp at e
  simp [e]

theorem keyE_inj {a b : En} (h : keyE a = keyE b) : a = b := by
  have e := Try.keyed55.inj (key_E a) (by rw [h]; exact key_E b)
  cases a; cases b
  simp at e
  simp [e]
  omega

open Classical in
/-- '==' on notes -/
theorem eq_N (a b : Nt) (w : World) : (Op.equal 52 (valN a) (valN b)).run Try.prog w = .ok (decide (a = b)) w := by
  obtain ⟨r, hr, hi⟩ := run_equal_deep (P := Try.prog) w (m := 2) (by omega) (k := 52) (by kernel_rfl) Try.wide52 (key_N a) (key_N b)
  rw [hr]
  congr 1
  by_cases h : a = b
  · rw [decide_eq_true h, hi, h]
  · rw [decide_eq_false h]
    cases r with
    | false => rfl
    | true => exact absurd (keyN_inj (hi.mp rfl)) h

open Classical in
theorem eq_E (a b : En) (w : World) : (Op.equal 55 (valE a) (valE b)).run Try.prog w = .ok (decide (a = b)) w := by
  obtain ⟨r, hr, hi⟩ := run_equal_deep (P := Try.prog) w (m := 2) (by omega) (k := 55) (by kernel_rfl) Try.wide55 (key_E a) (key_E b)
  rw [hr]
  congr 1
  by_cases h : a = b
  · rw [decide_eq_true h, hi, h]
  · rw [decide_eq_false h]
    cases r with
    | false => rfl
    | true => exact absurd (keyE_inj (hi.mp rfl)) h

/-! the map of a set -/
abbrev D0 : Type := DataW Unit

/-- what a map's datum says of the notes -/
structure KD (D : D0) (ns : List Nt) : Prop where
  im : Maps.IsMap D
  has : ∀ n, Maps.has D (keyN n) = true ↔ n ∈ ns
  at' : ∀ (i : Nat) (n : Nt), ns[i]? = some n → ∀ z, D.atKey (keyN n) z = .lit (.int .i32 i)

theorem KD.empty : KD (.map []) [] := ⟨Maps.isMap_empty, fun n => by simp [Maps.has_eq], fun i n h => by simp at h⟩

theorem keyN_isKey (n : Nt) : WideAt.IsKeyLit (keyN n) := Try.keyed.key (key_N n)

theorem KD.put {D : D0} {ns : List Nt} (h : KD D ns) (n : Nt) (hn : n ∉ ns) : KD (D.put (keyN n) (.lit (.int .i32 ns.length))) (ns ++ [n]) := by
  refine ⟨h.im.put _ _, fun m => ?_, fun i m hm z => ?_⟩
  · by_cases e : m = n
    · subst e
      rw [Maps.has_put_same h.im (keyN_isKey m)]
      simp
    · rw [Maps.has_put_other (fun x => e (keyN_inj x)), h.has]
      simp [e]
  · by_cases e : m = n
    · subst e
      rw [Maps.atKey_put_same h.im (keyN_isKey m)]
      rw [List.getElem?_append] at hm
      split at hm
      · exact absurd (List.mem_of_getElem? hm) hn
      · have : i - ns.length = 0 := by
          rcases Nat.eq_zero_or_pos (i - ns.length) with h0 | h0
          · exact h0
          · rw [List.getElem?_eq_none (by simp; omega)] at hm; cases hm
        rw [show i = ns.length by omega]
    · rw [Maps.atKey_put_other (fun x => e (keyN_inj x))]
      rw [List.getElem?_append] at hm
      split at hm
      · exact h.at' i m hm z
      · have : m ∈ [n] := List.mem_of_getElem? hm
        simp at this
        exact absurd this e

/-- the map value of a set whose notes are ns -/
def MapOK (w : World) (mv : Value) (ns : List Nt) : Prop :=
  (mv = .map none ∧ ns = []) ∨ ∃ mb D, mv = .map (some mb) ∧ w.ownsMap Try.prog 52 (plainElem Try.prog 21) mb ns.length (D : D0) ∧ KD D ns

theorem zero21 (w : World) : (zeroValue 21).run Try.prog w = .ok (.int .i32 0) w := by kernel_rfl

/-- looking a note up, in whatever world of the same memory -/
theorem MapOK.look {w : World} {mv : Value} {ns : List Nt} (h : MapOK w mv ns) (n : Nt) :
    (n ∉ ns ∧ ∀ w' : World, w'.heap = w.heap → (Instr.lookup 42 mv (valN n) true).run Try.prog w' = .ok (.tuple #[.int .i32 0, .bool false]) w') ∨
    ∃ i : Nat, ns[i]? = some n ∧ ∀ w' : World, w'.heap = w.heap → (Instr.lookup 42 mv (valN n) true).run Try.prog w' = .ok (.tuple #[.int .i32 i, .bool true]) w' := by
  rcases h with ⟨rfl, rfl⟩ | ⟨mb, D, rfl, ho, hk⟩
  · left
    exact ⟨by simp, fun w' _ => by have := Maps.look_nil (P := Try.prog) (w := w') true Try.keyed Try.underlying42 (zero21 w') (key_N n); simpa using this⟩
  · have ho' : ∀ w' : World, w'.heap = w.heap → w'.ownsMap Try.prog 52 (plainElem Try.prog 21) mb ns.length D := fun w' e => by
      obtain ⟨es, cl, hb, h2⟩ := ho
      exact ⟨es, cl, by rw [e]; exact hb, h2⟩
    by_cases hm : n ∈ ns
    · right
      obtain ⟨i, hi⟩ := List.mem_iff_getElem?.mp hm
      refine ⟨i, hi, fun w' e => ?_⟩
      obtain ⟨v, ps, hr, hv⟩ := (ho' w' e).look_ok Try.keyed Try.underlying42 (zero21 w') (plainElem_int Try.underlying21 (by decide)) (key_N n)
      rw [(hk.has n).mpr hm] at hr
      rw [hk.at' i n hi] at hv
      obtain ⟨a, rfl, ha, _⟩ := plainElem_int_inv Try.underlying21 hv
      simp only [Prod.mk.injEq, DataW.lit.injEq, Lit.int.injEq, true_and] at ha
      rw [← ha.1] at hr
      exact hr
    · left
      refine ⟨hm, fun w' e => ?_⟩
      obtain ⟨v, ps, hr, hv⟩ := (ho' w' e).look_ok Try.keyed Try.underlying42 (zero21 w') (plainElem_int Try.underlying21 (by decide)) (key_N n)
      have hf : Maps.has D (keyN n) = false := by
        rw [Bool.eq_false_iff]
        exact fun x => hm ((hk.has n).mp x)
      rw [hf] at hr
      rw [Maps.atKey_of_not_has hf] at hv
      obtain ⟨a, rfl, ha, _⟩ := plainElem_int_inv Try.underlying21 hv
      simp only [Prod.mk.injEq, DataW.lit.injEq, Lit.int.injEq, true_and] at ha
      rw [← ha.1] at hr
      exact hr

/-- storing a new note's number -/
theorem MapOK.store {w : World} {mb : Nat} {D : D0} {ns : List Nt} (ho : w.ownsMap Try.prog 52 (plainElem Try.prog 21) mb ns.length D) (hk : KD D ns) (n : Nt) (hn : n ∉ ns) (hl : ns.length ≤ 2147483647) :
    ∃ w', (Instr.mapUpdate 42 (.map (some mb)) (valN n) (.int .i32 ns.length)).run Try.prog w = .ok () w' ∧ MapOK w' (.map (some mb)) (ns ++ [n]) ∧ w.grownBy w' (some mb) := by
  obtain ⟨w', h1, h2, h3⟩ := ho.update Try.keyed Try.underlying42 (by unfold maxLen; omega) (key_N n) (plainElem_int Try.underlying21 (wf32 (s := (ns.length : Int)) (by omega)))
  refine ⟨w', h1, .inr ⟨mb, _, rfl, ?_, hk.put n hn⟩, h3⟩
  rw [List.length_append]
  exact h2

end Go.Proofs.Qxb6627582a
