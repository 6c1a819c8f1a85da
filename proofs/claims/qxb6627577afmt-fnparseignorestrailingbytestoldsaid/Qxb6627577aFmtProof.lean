/-
  THE CARD 'Rows.FnParseIgnoresTrailingBytesToldSaid', proved: the frame after the guide's worked told rows over slices (Tag); the walks: Qxb6627577aFmtWalksE, F.
-/
import Derived.Test.Qxb6627577aFmtWalksF
import Derived.ProofKit
import Derived.ChangeSlices
import Derived.ChangeSame
import Derived.JoinedOf
import Derived.Carry
import Derived.Stop.JoinedAt
import Derived.Stop.JoinedTold
import Derived.SevenToldRow
namespace Go.Proofs.Qxb6627577aFmt
open Go.ChangeShapes Go.WideShapes Go.ChangeAt Go.RowKit
open Go.Extern.Stop Go.Stop Go.Extern

theorem Tryf.own : ownKnob Tryf.prog.godebug = none := by kernel_rfl
theorem Tryf.laidOut : laidOutB Tryf.pinned.checked.prog = true := by kernel_rfl
theorem Tryf.stops : Tryf.pinned.checked.prog.stops = ["fmt.errorf"] := by kernel_rfl
theorem Tryf.stopKnobs : Tryf.pinned.checked.prog.stopKnobs = [] := by kernel_rfl
theorem Tryf.quiet (os : Os) : Stop.quiet Tryf.pinned.checked.prog os := by
  intro k hk
  rw [Tryf.stopKnobs] at hk
  cases hk

/-- what is known of a slice of bytes that came in: nil, or an address and its numbers -/
def Sl (w : World) (ao : Option Addr) (n c : Nat) (bs : List Int) : Prop :=
  bs.length = n ∧ (∀ j, 0 ≤ bs.getD j 0 ∧ bs.getD j 0 ≤ 255) ∧ n ≤ maxLen ∧ ((ao = none ∧ n = 0 ∧ c = 0) ∨ ∃ a, ao = some a ∧ Came w a bs)

theorem Came.two {w : World} {a : Addr} {bs : List Int} (h : Came w a bs) : Came2 w (some a) bs := by
  intro j hj
  obtain ⟨b, off, spot⟩ := a
  have h0 := h j hj
  have hspot : spot = none := by simpa [Addr.add] using World.cell?_spot (h 0 (by omega))
  subst hspot
  refine ⟨b, off, rfl, ?_⟩
  have e : (⟨b, off, none⟩ : Addr).add j = ⟨b, off + j, none⟩ := by unfold Addr.add; split <;> simp_all
  rw [← e]
  exact h0

theorem law_any (F : Interp) (ao bo : Option Addr) (n m c d : Nat) (bs ex : List Int) (w : World) (hF : F.answers w.tape) (ha : Sl w ao n c bs) (hb : Sl w bo m d ex) :
    Calls Tryf.prog 3 #[.slice ao n c, .slice bo m d] w fun e w' => e = .returned (.bool true) ∧ Below w.heap.size w w' := by
  obtain ⟨rfl, bd1, hm1, ha⟩ := ha
  obtain ⟨rfl, bd2, hm2, hb⟩ := hb
  by_cases hlong : 1048576 < bs.length + ex.length
  · refine (law_long ao bo bs.length ex.length c d w hm1 hm2 hlong).mono ?_
    rintro e w' ⟨he, hw⟩
    subst hw
    exact ⟨he, Below.refl _ _⟩
  · have hC : Came2 w bo ex := by
      rcases hb with ⟨_, h0, _⟩ | ⟨b, rfl, h⟩
      · intro j hj; omega
      · exact h.two
    rcases ha with ⟨rfl, h0, rfl⟩ | ⟨a, rfl, h⟩
    · rw [h0]
      exact law_nil F bo ex d w hF (by omega) hC bd2
    · refine law_some F a bo bs ex c d w hF (by omega) h hC (fun j => ?_)
      rcases Nat.lt_or_ge j bs.length with hj | hj
      · rw [app_l bs ex j hj]; exact bd1 j
      · obtain ⟨k, rfl⟩ : ∃ k, j = bs.length + k := ⟨j - bs.length, by omega⟩
        rw [app_r bs ex k]; exact bd2 k

/-- a slice argument, opened -/
theorem open_sl {H : Type} {enc : TypeId × Value → H} {W : World} {a0 : Option Addr} {len cap : Nat} {d : DataW H} {p : List MemPlace}
    (h : DataW.Trod enc Tryf.prog W 0 (fun _ => true) true 22 (.slice a0 len cap) d p) : ∃ bs, Sl W a0 len cap bs := by
  obtain ⟨fuel, hf⟩ := h
  rcases open_ints Tryf.underlying22 Tryf.underlying5 Tryf.cells5 hf with ⟨hcs, hx⟩ | ⟨a, len', cap', zs, hcs, _, hl, hm, hz, hx, hcell, hwz⟩
  · simp [Value.cells] at hcs
    obtain ⟨rfl, rfl, rfl⟩ := hcs
    exact ⟨[], rfl, fun j => by simp, Nat.zero_le _, Or.inl ⟨rfl, rfl, rfl⟩⟩
  · simp [Value.cells] at hcs
    obtain ⟨rfl, rfl, rfl⟩ := hcs
    simp only [if_true] at hz
    have hlen : (zs.take len).length = len := by rw [List.length_take]; omega
    refine ⟨zs.take len, hlen, fun j => ?_, Nat.le_trans hl hm, Or.inr ⟨a, rfl, fun j hj => ?_⟩⟩
    · rcases Nat.lt_or_ge j (zs.take len).length with hj | hj
      · rw [List.getD_eq_getElem?_getD, List.getElem?_eq_getElem hj]
        have := hwz _ (List.mem_of_mem_take (List.getElem_mem hj))
        simp [Lit.wf, IntKind.min, IntKind.max, IntKind.signed, IntKind.bits] at this
        simp only [Option.getD_some]
        simp only [List.getElem_take] at this ⊢
        omega
      · rw [List.getD_eq_getElem?_getD, List.getElem?_eq_none hj]; decide
    · rw [hcell j (by omega)]
      congr 2
      rw [List.getD_eq_getElem?_getD, List.getD_eq_getElem?_getD, List.getElem?_take_of_lt (by omega)]

set_option maxRecDepth 100000 in
theorem parse_lifted (os : Os) (started : os.Started) (H : Type) (enc : TypeId × Value → H) :
    ReturnsInTold none {} Tryf.checked os 3 .any Input.okWide ((OpenSpec.ofChange Rows.fnParseIgnoresTrailingBytesSpec).preRow enc Tryf.prog Tryf.f3 [] false []) (fun F => ((OpenSpec.ofChange Rows.fnParseIgnoresTrailingBytesSpec).at F).post enc Tryf.prog Tryf.f3 false true false false) (aloneAtReturn Tryf.prog) nothingAlways := by
  refine returnsInTold_of_row (C := Tryf.checked) (s := OpenSpec.ofChange Rows.fnParseIgnoresTrailingBytesSpec) (by kernel_rfl) Tryf.own started (by kernel_rfl) Tryf.func3
    (OpenSpec.witness_stopped (enc := enc) (C := Tryf.checked) false ⟨#[], #[.slice none 0 0, .slice none 0 0], []⟩ 8 (by kernel_rfl) (by kernel_rfl) (by kernel_rfl) (by kernel_rfl)) ?_
  intro F W base args ds gs before _ hF hval0 hW _ _ _ _ _
  have hval : ∀ (j : Nat) t v, Tryf.f3.params[j]? = some t → args[j]? = some v → Value.okWide Tryf.prog W .any base t v := hval0
  have hW' := hW
  obtain ⟨p, q, hA0, hV, rfl, _, _⟩ := hW
  have hA : DataW.TrodAll enc Tryf.prog W 0 (fun _ => true) true Tryf.f3.params.toList args.toList ds p := hA0
  rw [Tryf.params3] at hA hval
  obtain ⟨v0, v1, d0, d1, p0, p1, rfl, rfl, rfl, h0, h1⟩ := trodAll_two hA
  obtain ⟨rfl, rfl⟩ := trodVars_none hV
  obtain ⟨a0, n0, c0, rfl⟩ := okWide_slice Tryf.underlying22 (hval 0 22 v0 rfl rfl)
  obtain ⟨a1, n1, c1, rfl⟩ := okWide_slice Tryf.underlying22 (hval 1 22 v1 rfl rfl)
  clear hA0 hval0
  simp only [List.append_nil] at hW'
  have hlt0 : ∀ x ∈ p0, x.block < W.heap.size := fun x hx => hW'.lt x (List.mem_append_left _ hx)
  have hlt1 : ∀ x ∈ p1, x.block < W.heap.size := fun x hx => hW'.lt x (List.mem_append_right _ hx)
  obtain ⟨bs, hs0⟩ := open_sl h0
  obtain ⟨ex, hs1⟩ := open_sl h1
  refine (law_any F.told a0 a1 n0 n1 c0 c1 bs ex W hF hs0 hs1).mono fun e W' ⟨he, hn⟩ => ?_
  subst he
  refine ⟨_, rfl, _, _, _, [], p0 ++ p1, [], hW', trodAll_mk1 (shut_bool Tryf.underlying4 _), ?_, rfl, hn.frame _, fun h => by cases h⟩
  exact trodAll_mk2 (Below.trod Tryf.laidOut (by kernel_rfl) (of_decide_eq_true (by kernel_rfl)) h0 hn hlt0) (Below.trod Tryf.laidOut (by kernel_rfl) (of_decide_eq_true (by kernel_rfl)) h1 hn hlt1)

theorem parse_proved : Rows.FnParseIgnoresTrailingBytesToldSaid :=
  Claim7.holds_of_told_any 3 Tryf.f3 "fmt.errorf" [] [] _ _ _ (by kernel_rfl) rfl rfl rfl Tryf.laidOut (by kernel_rfl) rfl ⟨rfl, rfl, rfl, rfl, rfl, rfl, rfl⟩ rfl rfl (by kernel_rfl) (by kernel_rfl) Tryf.func3 (by kernel_rfl)
    (of_decide_eq_true (by kernel_rfl)) (of_decide_eq_true (by kernel_rfl)) Tryf.stops.symm rfl Tryf.stopKnobs.symm (by kernel_rfl)
    (by kernel_rfl) (by kernel_rfl) (by kernel_rfl) (by kernel_rfl) (by kernel_rfl) (by kernel_rfl) (by kernel_rfl) (by kernel_rfl) (by kernel_rfl) rfl (by kernel_rfl) rfl rfl
    rfl rfl
    rfl (by kernel_rfl) (by kernel_rfl) (by kernel_rfl) (by decide) (by kernel_rfl)
    (OpenClaim.moreEntering_of (by kernel_rfl) (by kernel_rfl) (by kernel_rfl) (by kernel_rfl) (by kernel_rfl) (by kernel_rfl) (by kernel_rfl) (by kernel_rfl) (by kernel_rfl) (by kernel_rfl))
    ⟨_, WideRow.started_initial, Tryf.quiet _⟩
    (fun os started _ H enc _ => parse_lifted os started H enc)

end Go.Proofs.Qxb6627577aFmt
