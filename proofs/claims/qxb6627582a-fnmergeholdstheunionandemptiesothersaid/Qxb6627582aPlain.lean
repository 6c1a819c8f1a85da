import Derived.Test.Qxb6627582aRows
import Derived.Sort.Walk0
import Derived.WalkKit
namespace Go.Proofs.Qxb6627582a

/-- a diagnostic as plain data -/
structure Dg where
  l : Int
  c : Int
  p : ByteArray
  s : Int
  r : ByteArray
  m : ByteArray
  hl : -2147483648 ≤ l ∧ l ≤ 2147483647
  hc : -2147483648 ≤ c ∧ c ≤ 2147483647
  hs : -9223372036854775808 ≤ s ∧ s ≤ 9223372036854775807
  hp : p.size ≤ maxLen
  hr : r.size ≤ maxLen
  hm : m.size ≤ maxLen

/-- what a diagnostic says -/
structure Nt where
  p : ByteArray
  s : Int
  r : ByteArray
  m : ByteArray
  hs : -9223372036854775808 ≤ s ∧ s ≤ 9223372036854775807
  hp : p.size ≤ maxLen
  hr : r.size ≤ maxLen
  hm : m.size ≤ maxLen

/-- an entry -/
structure En where
  l : Int
  c : Int
  n : Nat
  hl : -2147483648 ≤ l ∧ l ≤ 2147483647
  hc : -2147483648 ≤ c ∧ c ≤ 2147483647
  hn : n ≤ 2147483647

abbrev encD (d : Dg) : List Value := [.int .i32 d.l, .int .i32 d.c, .string d.p, .int .i64 d.s, .string d.r, .string d.m]
abbrev encN (d : Nt) : List Value := [.string d.p, .int .i64 d.s, .string d.r, .string d.m]
abbrev encE (e : En) : List Value := [.int .i32 e.l, .int .i32 e.c, .int .i32 e.n]
abbrev valD (d : Dg) : Value := .agg #[.int .i32 d.l, .int .i32 d.c, .string d.p, .int .i64 d.s, .string d.r, .string d.m]
abbrev valN (d : Nt) : Value := .agg #[.string d.p, .int .i64 d.s, .string d.r, .string d.m]
abbrev valE (e : En) : Value := .agg #[.int .i32 e.l, .int .i32 e.c, .int .i32 e.n]

def cmpI (a b : Int) : Int := if a < b then -1 else if b < a then 1 else 0
def cmpS (a b : ByteArray) : Int := if a.toList < b.toList then -1 else if b.toList < a.toList then 1 else 0
def orC (x y : Int) : Int := if x = 0 then y else x
def cmpD (a b : Dg) : Int := orC (cmpI a.l b.l) (orC (cmpI a.c b.c) (orC (cmpS a.p b.p) (orC (cmpI a.s b.s) (orC (cmpS a.r b.r) (cmpS a.m b.m)))))

/-- a three-way comparison that is a strict total order -/
structure Good {α : Type} (c : α → α → Int) : Prop where
  eq0 : ∀ a b, c a b = 0 ↔ a = b
  anti : ∀ a b, c a b < 0 ↔ 0 < c b a
  tr : ∀ a b d, c a b < 0 → c b d < 0 → c a d < 0

theorem good_I : Good cmpI where
  eq0 a b := by unfold cmpI; repeat' split
                all_goals omega
  anti a b := by unfold cmpI; repeat' split
                 all_goals omega
  tr a b d := by unfold cmpI; repeat' split
                 all_goals omega

theorem toList_inj {a b : ByteArray} (h : a.toList = b.toList) : a = b := by
  rw [Lib.toList_data, Lib.toList_data] at h
  cases a; cases b
  congr 1
  exact Array.toList_inj.mp h

theorem lt_asym {a b : List UInt8} (h : a < b) : ¬ b < a := List.lt_asymm h

theorem good_S : Good cmpS where
  eq0 a b := by
    unfold cmpS
    constructor
    · intro h
      split at h
      · omega
      · split at h
        · omega
        · exact toList_inj (List.le_antisymm ‹_› ‹_›)
    · rintro rfl
      have := List.lt_irrefl a.toList
      simp [this]
  anti a b := by
    unfold cmpS
    by_cases h1 : a.toList < b.toList
    · have := lt_asym h1
      simp [h1, this]
    · by_cases h2 : b.toList < a.toList <;> simp [h1, h2]
  tr a b d := by
    unfold cmpS
    by_cases h1 : a.toList < b.toList <;> by_cases h2 : b.toList < d.toList
    · have := List.lt_trans h1 h2
      simp [this]
    · simp only [h2, if_false]; intro x y; split at y <;> omega
    · simp only [h1, if_false]; intro x y; split at x <;> omega
    · simp only [h1, if_false]; intro x y; split at x <;> omega

def lexP {α β : Type} (c1 : α → α → Int) (c2 : β → β → Int) (x y : α × β) : Int := orC (c1 x.1 y.1) (c2 x.2 y.2)

theorem good_lex {α β : Type} {c1 : α → α → Int} {c2 : β → β → Int} (h1 : Good c1) (h2 : Good c2) : Good (lexP c1 c2) where
  eq0 a b := by
    have e1 := h1.eq0 a.1 b.1
    have e2 := h2.eq0 a.2 b.2
    unfold lexP orC
    rw [Prod.ext_iff]
    split
    · simp_all
    · simp_all
  anti a b := by
    have e1 := h1.eq0 a.1 b.1
    have e1' := h1.eq0 b.1 a.1
    have e2 := h2.anti a.2 b.2
    have e3 := h1.anti a.1 b.1
    unfold lexP orC
    by_cases h : a.1 = b.1
    · have hh : b.1 = a.1 := h.symm
      simp [e1.mpr h, e1'.mpr hh, e2]
    · have hh : ¬ b.1 = a.1 := fun x => h x.symm
      have k1 : ¬ c1 a.1 b.1 = 0 := fun x => h (e1.mp x)
      have k2 : ¬ c1 b.1 a.1 = 0 := fun x => hh (e1'.mp x)
      simp [k1, k2, e3]
  tr a b d := by
    unfold lexP orC
    intro x y
    by_cases hab : a.1 = b.1
    · have k1 : c1 a.1 b.1 = 0 := (h1.eq0 _ _).mpr hab
      rw [if_pos k1] at x
      rw [hab]
      by_cases hbd : c1 b.1 d.1 = 0
      · rw [if_pos hbd] at y ⊢
        exact h2.tr _ _ _ x y
      · rw [if_neg hbd] at y ⊢
        exact y
    · have k1 : ¬ c1 a.1 b.1 = 0 := fun x => hab ((h1.eq0 _ _).mp x)
      rw [if_neg k1] at x
      by_cases hbd : c1 b.1 d.1 = 0
      · rw [← (h1.eq0 _ _).mp hbd, if_neg k1]
        exact x
      · rw [if_neg hbd] at y
        have z := h1.tr _ _ _ x y
        rw [if_neg (by omega)]
        exact z

def tup (a : Dg) : Int × Int × ByteArray × Int × ByteArray × ByteArray := (a.l, a.c, a.p, a.s, a.r, a.m)

theorem good_D : Good cmpD := by
  have h := good_lex good_I (good_lex good_I (good_lex good_S (good_lex good_I (good_lex good_S good_S))))
  have e : ∀ a b, cmpD a b = lexP cmpI (lexP cmpI (lexP cmpS (lexP cmpI (lexP cmpS cmpS)))) (tup a) (tup b) := fun a b => rfl
  refine ⟨fun a b => ?_, fun a b => ?_, fun a b d => ?_⟩
  · rw [e, h.eq0]
    constructor
    · intro x
      cases a; cases b
      simp [tup] at x
      simp [x]
    · rintro rfl; rfl
  · rw [e, e, h.anti]
  · rw [e, e, e]; exact h.tr _ _ _

def leD (a b : Dg) : Bool := !decide (cmpD b a < 0)
def ltD (a b : Dg) : Prop := cmpD a b < 0

theorem leD_trans (a b c : Dg) (h1 : leD a b = true) (h2 : leD b c = true) : leD a c = true := by
  simp only [leD, Bool.not_eq_true', decide_eq_false_iff_not, Int.not_lt] at *
  have g := good_D
  by_cases e : b = a
  · rw [← e]; exact h2
  by_cases e' : c = b
  · rw [e']; exact h1
  have k1 : cmpD b a ≠ 0 := fun x => e ((g.eq0 _ _).mp x)
  have k2 : cmpD c b ≠ 0 := fun x => e' ((g.eq0 _ _).mp x)
  have j1 := (g.anti a b).mpr (by omega)
  have j2 := (g.anti b c).mpr (by omega)
  have j3 := (g.anti a c).mp (g.tr _ _ _ j1 j2)
  omega

theorem leD_total (a b : Dg) : (leD a b || leD b a) = true := by
  simp only [leD, Bool.or_eq_true, Bool.not_eq_true', decide_eq_false_iff_not, Int.not_lt]
  have := (good_D.anti a b)
  omega

abbrev SortD (xs : List Dg) : Prop := xs.Pairwise (fun a b => leD a b = true)

/-! merging -/
def mg (xs ys : List Dg) : List Dg := xs.merge ys leD

theorem mg_nil_left (ys : List Dg) : mg [] ys = ys := by simp [mg]
theorem mg_nil_right (xs : List Dg) : mg xs [] = xs := by simp [mg]
theorem mg_right (x : Dg) (xs : List Dg) (y : Dg) (ys : List Dg) (h : cmpD y x < 0) : mg (x :: xs) (y :: ys) = y :: mg (x :: xs) ys := by
  unfold mg
  rw [List.cons_merge_cons_neg]
  simp [leD, h]
theorem mg_left (x : Dg) (xs : List Dg) (y : Dg) (ys : List Dg) (h : ¬ cmpD y x < 0) : mg (x :: xs) (y :: ys) = x :: mg xs (y :: ys) := by
  unfold mg
  rw [List.cons_merge_cons_pos]
  simpa [leD] using h
theorem mg_perm (xs ys : List Dg) : (mg xs ys).Perm (xs ++ ys) := List.merge_perm_append leD
theorem mg_len (xs ys : List Dg) : (mg xs ys).length = xs.length + ys.length := by rw [(mg_perm xs ys).length_eq, List.length_append]
theorem mg_sorted {xs ys : List Dg} (hx : SortD xs) (hy : SortD ys) : SortD (mg xs ys) := List.pairwise_merge leD_trans leD_total xs ys hx hy

/-- one pass, with fuel -/
def passF (w : Nat) : Nat → List Dg → List Dg
  | 0, ys => ys
  | f + 1, ys => if ys = [] then [] else mg (ys.take w) ((ys.drop w).take w) ++ passF w f (ys.drop (2 * w))
def pass (w : Nat) (ys : List Dg) : List Dg := passF w ys.length ys

theorem drop_short {w f : Nat} {ys : List Dg} (hw : 0 < w) (hy : ys ≠ []) (h : ys.length ≤ f + 1) : (ys.drop (2 * w)).length ≤ f := by
  have := List.length_pos_iff.mpr hy
  rw [List.length_drop]
  omega
theorem passF_any {w : Nat} (hw : 0 < w) : ∀ (f g : Nat) (ys : List Dg), ys.length ≤ f → ys.length ≤ g → passF w f ys = passF w g ys
  | 0, 0, _, _, _ => rfl
  | 0, g + 1, ys, h, _ => by
    have : ys = [] := List.eq_nil_of_length_eq_zero (by omega)
    subst this
    simp [passF]
  | f + 1, 0, ys, _, h => by
    have : ys = [] := List.eq_nil_of_length_eq_zero (by omega)
    subst this
    simp [passF]
  | f + 1, g + 1, ys, h1, h2 => by
    by_cases e : ys = []
    · simp [passF, e]
    · simp only [passF, if_neg e]
      rw [passF_any hw f g _ (drop_short hw e h1) (drop_short hw e h2)]
theorem pass_nil (w : Nat) : pass w [] = [] := rfl
theorem pass_cons {w : Nat} {ys : List Dg} (hw : 0 < w) (hy : ys ≠ []) : pass w ys = mg (ys.take w) ((ys.drop w).take w) ++ pass w (ys.drop (2 * w)) := by
  have hp := List.length_pos_iff.mpr hy
  obtain ⟨k, hk⟩ : ∃ k, ys.length = k + 1 := ⟨ys.length - 1, by omega⟩
  show passF w ys.length ys = _ ++ passF w _ _
  rw [hk]
  simp only [passF, if_neg hy]
  rw [passF_any hw k _ _ (drop_short hw hy (by omega)) (Nat.le_refl _)]
/-- by the blocks of one pass -/
theorem pass_ind {w : Nat} (hw : 0 < w) {p : List Dg → Prop} (h0 : p []) (h1 : ∀ ys, ys ≠ [] → p (ys.drop (2 * w)) → p ys) : ∀ (n : Nat) (ys : List Dg), ys.length ≤ n → p ys
  | 0, ys, h => by
    have : ys = [] := List.eq_nil_of_length_eq_zero (by omega)
    rw [this]; exact h0
  | n + 1, ys, h => by
    by_cases e : ys = []
    · rw [e]; exact h0
    · exact h1 ys e (pass_ind hw h0 h1 n _ (drop_short hw e h))

theorem two_blocks (w : Nat) (ys : List Dg) : ys.take w ++ (ys.drop w).take w = ys.take (2 * w) := by
  rw [show 2 * w = w + w by omega, List.take_add]

theorem pass_perm (w : Nat) (hw : 0 < w) (ys : List Dg) : (pass w ys).Perm ys := by
  refine pass_ind (p := fun ys => (pass w ys).Perm ys) hw ?_ ?_ ys.length ys (Nat.le_refl _)
  · rw [pass_nil]
  · intro ys h ih
    rw [pass_cons hw h]
    refine ((mg_perm _ _).append ih).trans ?_
    rw [two_blocks, List.take_append_drop]

theorem pass_len (w : Nat) (hw : 0 < w) (ys : List Dg) : (pass w ys).length = ys.length := (pass_perm w hw ys).length_eq

/-- every block of width w is sorted -/
def Blk (w : Nat) (ys : List Dg) : Prop := ∀ m : Nat, SortD ((ys.drop (m * w)).take w)

theorem Blk.drop2 {w : Nat} {ys : List Dg} (h : Blk w ys) : Blk w (ys.drop (2 * w)) := fun m => by
  have := h (m + 2)
  rw [List.drop_drop]
  rw [show (m + 2) * w = 2 * w + m * w by rw [Nat.add_mul]; omega] at this
  exact this

theorem blk_one (ys : List Dg) : Blk 1 ys := fun m => by
  match h : (ys.drop (m * 1)).take 1 with
  | [] => exact List.Pairwise.nil
  | [x] => exact List.pairwise_singleton _ _
  | x :: y :: l =>
    have := congrArg List.length h
    simp at this
    omega

theorem blk_pass (w : Nat) (hw : 0 < w) (ys : List Dg) (h : Blk w ys) : Blk (2 * w) (pass w ys) := by
  revert h
  refine pass_ind (p := fun ys => Blk w ys → Blk (2 * w) (pass w ys)) hw ?_ ?_ ys.length ys (Nat.le_refl _)
  · intro _
    rw [pass_nil]
    intro m
    simp
  · intro ys hh ih h
    rw [pass_cons hw hh]
    have hs : SortD (mg (ys.take w) ((ys.drop w).take w)) := mg_sorted (by simpa using h 0) (by simpa using h 1)
    have hl : (mg (ys.take w) ((ys.drop w).take w)).length = 2 * w ∨ ys.drop (2 * w) = [] := by
      by_cases hc : 2 * w ≤ ys.length
      · left
        rw [mg_len, ← List.length_append, two_blocks, List.length_take]; omega
      · right
        exact List.drop_eq_nil_of_le (by omega)
    have hl' : (mg (ys.take w) ((ys.drop w).take w)).length ≤ 2 * w := by
      rw [mg_len, ← List.length_append, two_blocks, List.length_take]; omega
    intro m
    cases m with
    | zero =>
      rw [Nat.zero_mul, List.drop_zero]
      rcases hl with hl | hl
      · rw [← hl, List.take_left']; exact hs; rfl
      · rw [hl, pass_nil, List.append_nil, List.take_of_length_le hl']; exact hs
    | succ m =>
      rcases hl with hl | hl
      · rw [show (m + 1) * (2 * w) = 2 * w + m * (2 * w) by rw [Nat.succ_mul]; omega, ← List.drop_drop]
        rw [← hl, List.drop_left' rfl, hl]
        exact ih h.drop2 m
      · rw [hl, pass_nil, List.append_nil, List.drop_eq_nil_of_le, List.take_nil]
        · exact List.Pairwise.nil
        · rw [Nat.succ_mul]; omega

theorem Blk.all {w : Nat} {ys : List Dg} (h : Blk w ys) (hl : ys.length ≤ w) : SortD ys := by
  have := h 0
  rwa [Nat.zero_mul, List.drop_zero, List.take_of_length_le hl] at this

/-! strictly sorted lists -/
abbrev StrD (xs : List Dg) : Prop := xs.Pairwise ltD

theorem ltD_irrefl (a : Dg) : ¬ ltD a a := by
  unfold ltD
  rw [(good_D.eq0 a a).mpr rfl]
  omega

theorem strict_ext : ∀ (xs ys : List Dg), StrD xs → StrD ys → (∀ d, d ∈ xs ↔ d ∈ ys) → xs = ys
  | [], [], _, _, _ => rfl
  | [], y :: ys, _, _, h => by have := (h y).mpr (by simp); simp at this
  | x :: xs, [], _, _, h => by have := (h x).mp (by simp); simp at this
  | x :: xs, y :: ys, hx, hy, h => by
    have px := List.pairwise_cons.mp hx
    have py := List.pairwise_cons.mp hy
    have e : x = y := by
      rcases List.mem_cons.mp ((h x).mp (by simp)) with e | e
      · exact e
      · rcases List.mem_cons.mp ((h y).mpr (by simp)) with e' | e'
        · exact e'.symm
        · exact absurd (good_D.tr _ _ _ (px.1 _ e') (py.1 _ e)) (ltD_irrefl x)
    subst e
    rw [strict_ext xs ys px.2 py.2 fun d => ?_]
    constructor
    · intro hd
      rcases List.mem_cons.mp ((h d).mp (List.mem_cons_of_mem _ hd)) with e | e
      · subst e; exact absurd (px.1 _ hd) (ltD_irrefl _)
      · exact e
    · intro hd
      rcases List.mem_cons.mp ((h d).mpr (List.mem_cons_of_mem _ hd)) with e | e
      · subst e; exact absurd (py.1 _ hd) (ltD_irrefl _)
      · exact e

/-- what the second loop of zzSortedDistinct has gathered behind k rounds -/
structure Gath (ys : List Dg) (k : Nat) (out : List Dg) : Prop where
  str : StrD out
  mem : ∀ d, d ∈ out ↔ d ∈ ys.take k
  len : out.length ≤ k

theorem Gath.zero (ys : List Dg) : Gath ys 0 [] := ⟨List.Pairwise.nil, by simp, by simp⟩

theorem mem_take_succ {ys : List Dg} {k : Nat} (hk : k < ys.length) (d : Dg) : d ∈ ys.take (k + 1) ↔ d ∈ ys.take k ∨ d = ys[k] := by
  rw [List.take_succ_eq_append_getElem hk, List.mem_append, List.mem_singleton]

theorem Gath.skip {ys out : List Dg} {k : Nat} (h : Gath ys (k + 1) out) (hk : k + 1 < ys.length) (he : ys[k]'(by omega) = ys[k + 1]) : Gath ys (k + 2) out :=
  ⟨h.str, fun d => by
    rw [mem_take_succ hk, h.mem, ← he]
    constructor
    · exact Or.inl
    · rintro (h1 | rfl)
      · exact h1
      · rw [mem_take_succ (by omega)]; exact Or.inr rfl, by have := h.len; omega⟩

theorem Gath.first {ys out : List Dg} (h : Gath ys 0 out) (hk : 0 < ys.length) : Gath ys 1 (out ++ [ys[0]]) := by
  have : out = [] := by
    have := h.len
    exact List.eq_nil_of_length_eq_zero (by omega)
  subst this
  refine ⟨by simp [StrD], fun d => ?_, by simp⟩
  rw [mem_take_succ hk]; simp

theorem Gath.next {ys out : List Dg} {k : Nat} (hs : SortD ys) (h : Gath ys (k + 1) out) (hk : k + 1 < ys.length) (he : ys[k]'(by omega) ≠ ys[k + 1]) : Gath ys (k + 2) (out ++ [ys[k + 1]]) := by
  refine ⟨?_, fun d => ?_, by have := h.len; simp; omega⟩
  · refine List.pairwise_append.mpr ⟨h.str, by simp, ?_⟩
    intro a ha b hb
    obtain rfl : b = ys[k + 1] := by simpa using hb
    have ha' := (h.mem a).mp ha
    have hle : leD (ys[k]'(by omega)) ys[k + 1] = true := (List.pairwise_iff_getElem.mp hs) k (k + 1) (by omega) hk (by omega)
    have hlt : ltD (ys[k]'(by omega)) ys[k + 1] := by
      unfold ltD
      have e1 := good_D.eq0 (ys[k + 1]) (ys[k]'(by omega))
      have e2 := good_D.anti (ys[k]'(by omega)) (ys[k + 1])
      have : ¬ cmpD ys[k + 1] (ys[k]'(by omega)) = 0 := fun x => he (e1.mp x).symm
      simp only [leD, Bool.not_eq_true', decide_eq_false_iff_not, Int.not_lt] at hle
      omega
    rw [mem_take_succ (by omega)] at ha'
    rcases ha' with ha' | rfl
    · obtain ⟨i, hi, rfl⟩ := List.mem_iff_getElem.mp ha'
      rw [List.length_take] at hi
      rw [List.getElem_take]
      have l1 : leD (ys[i]'(by omega)) (ys[k]'(by omega)) = true := (List.pairwise_iff_getElem.mp hs) i k (by omega) (by omega) (by omega)
      by_cases e : ys[i]'(by omega) = ys[k]'(by omega)
      · rw [e]; exact hlt
      · refine good_D.tr _ _ _ ?_ hlt
        have e1 := good_D.eq0 (ys[k]'(by omega)) (ys[i]'(by omega))
        have e2 := good_D.anti (ys[i]'(by omega)) (ys[k]'(by omega))
        have : ¬ cmpD (ys[k]'(by omega)) (ys[i]'(by omega)) = 0 := fun x => e (e1.mp x).symm
        simp only [leD, Bool.not_eq_true', decide_eq_false_iff_not, Int.not_lt] at l1
        omega
    · exact hlt
  · rw [mem_take_succ hk, ← h.mem]
    simp

end Go.Proofs.Qxb6627582a
