/-
  THE TOLD CARD of 'FnNetIDStringOrdersLikeValue', proved. fmt's text is told by the authors' own function.
-/
import Derived.Test.Qxb6608518aFmtLaw
import Derived.Test.Qxb6608518aFmtCards
import Derived.ProofKit
import Derived.ChangeSame
import Derived.Laws.IdiomArrays
import Derived.Stop.JoinedAt
import Derived.Stop.Texts
import Derived.Stop.JoinedTold
import Derived.SevenToldRow
namespace Go.Proofs.Qxb6608518aFmt
open Go.ChangeShapes Go.WideShapes Go.ChangeAt Go.RowKit Go.Kit
open Go.Extern.Stop Go.Stop Go.Extern

theorem own : ownKnob Tryf.prog.godebug = none := by kernel_rfl
theorem laidOut : laidOutB Tryf.pinned.checked.prog = true := by kernel_rfl
theorem stopsAre : Tryf.pinned.checked.prog.stops = Rows.fnNetIDStringOrdersLikeValueRow.stops := by kernel_rfl
theorem stopKnobs : Tryf.pinned.checked.prog.stopKnobs = [] := by kernel_rfl
theorem quietAll (os : Os) : Stop.quiet Tryf.pinned.checked.prog os := by
  intro k hk
  rw [stopKnobs] at hk
  cases hk
theorem cells22 : Tryf.prog.cellsOf 22 = 3 := by kernel_rfl
theorem cells5 : Tryf.prog.cellsOf 5 = 1 := by kernel_rfl
theorem list3 {α : Type} (l : List α) (h : (⟨l⟩ : Array α).size = 3) : ∃ a b c, l = [a, b, c] := by
  match l, h with
  | [a, b, c], _ => exact ⟨a, b, c, rfl⟩
theorem byteNat {x : Int} (h : (Lit.int .u8 x).wf = true) : ∃ n : Nat, x = n ∧ n < 256 := by
  simp [Lit.wf, IntKind.min, IntKind.max, IntKind.signed, IntKind.bits] at h
  exact ⟨x.toNat, by omega, by omega⟩

section
variable {H : Type} {enc : TypeId × Value → H} {W : World} {v : Value} {d : DataW H} {p : List MemPlace}
/-- AN ARRAY BY VALUE, opened. -/
theorem opened3 {base : Nat} (hv : Value.okWide Tryf.prog W .any base 22 v) (h : DataW.Trod enc Tryf.prog W 0 (fun _ => true) true 22 v d p) :
    ∃ A B C : Nat, v = .agg #[.int .u8 A, .int .u8 B, .int .u8 C] ∧ d = .agg [.lit (.int .u8 A), .lit (.int .u8 B), .lit (.int .u8 C)] ∧ p = [] ∧ A < 256 ∧ B < 256 ∧ C < 256 ∧
      ∀ (W' : World) (sp : Nat → Bool), DataW.Trod enc Tryf.prog W' 0 sp true 22 (.agg #[.int .u8 A, .int .u8 B, .int .u8 C]) (.agg [.lit (.int .u8 A), .lit (.int .u8 B), .lit (.int .u8 C)]) [] := by
  obtain ⟨cs, rfl, hsz, _⟩ : ∃ cs, v = .agg cs ∧ cs.size = Tryf.prog.cellsOf 22 ∧ Row.okWide Tryf.prog W .any base 22 cs := by
    simpa [Value.okWide, Tryf.underlying22] using hv
  rw [cells22] at hsz
  obtain ⟨l⟩ := cs
  obtain ⟨c0, c1, c2, rfl⟩ := list3 l hsz
  obtain ⟨fuel, hf⟩ := h
  obtain ⟨y0, y1, y2, m, hx, hy0, hy1, hy2⟩ := trod_array3 Tryf.underlying22 cells5 hf
  obtain ⟨x0, e0, rfl, w0⟩ := DataW.trod_int Tryf.underlying5 hy0
  obtain ⟨x1, e1, rfl, w1⟩ := DataW.trod_int Tryf.underlying5 hy1
  obtain ⟨x2, e2, rfl, w2⟩ := DataW.trod_int Tryf.underlying5 hy2
  simp at e0 e1 e2
  subst e0 e1 e2
  simp only [Prod.mk.injEq] at hx
  obtain ⟨rfl, rfl⟩ := hx
  obtain ⟨A, rfl, hA⟩ := byteNat w0
  obtain ⟨B, rfl, hB⟩ := byteNat w1
  obtain ⟨C, rfl, hC⟩ := byteNat w2
  exact ⟨A, B, C, rfl, rfl, rfl, hA, hB, hC, fun W' sp => ⟨2, by simp [DataW.trod, Value.cells, Tryf.underlying22, Tryf.underlying5, cells22, cells5, w0, w1, w2, show List.range 3 = [0, 1, 2] from rfl]⟩⟩
end

theorem byteWf (n : Nat) (h : n < 256) : (Lit.int .u8 (n : Int)).wf = true := by
  simp [Lit.wf, IntKind.min, IntKind.max, IntKind.signed, IntKind.bits]; omega
theorem toldText (F : Interp) (A B C : Nat) (hA : A < 256) (hB : B < 256) (hC : C < 256) : FmtStop.textOf (F.told "fmt.Sprintf" (reading [(A : Int), (B : Int), (C : Int)]) 0) = ⟨((nib A B C).map D).toArray⟩ := by
  have ht := told_string F (x_text [(A : Int), (B : Int), (C : Int)] (by
    intro x hx
    simp only [List.mem_cons, List.not_mem_nil, or_false] at hx
    rcases hx with rfl | rfl | rfl
    · exact byteWf _ hA
    · exact byteWf _ hB
    · exact byteWf _ hC) (by simp)) (by rw [text_nib A B C hA hB hC]; simp [nib])
  rw [← textOf_list, text_nib A B C hA hB hC] at ht
  apply ByteArray.ext
  apply Array.toList_inj.1
  exact ht

set_option maxRecDepth 100000 in
theorem law_lifted (os : Os) (started : os.Started) (H : Type) (enc : TypeId × Value → H) :
    ReturnsInTold none {} Tryf.checked os 4 .any Input.okWide ((OpenSpec.ofChange Rows.fnNetIDStringOrdersLikeValueSpec).preRow enc Tryf.prog Tryf.f4 [] false [])
      (fun F => ((OpenSpec.ofChange Rows.fnNetIDStringOrdersLikeValueSpec).at F).post enc Tryf.prog Tryf.f4 false true false false) (aloneAtReturn Tryf.prog) nothingAlways := by
  refine returnsInTold_of_row (C := Tryf.checked) (s := OpenSpec.ofChange Rows.fnNetIDStringOrdersLikeValueSpec) (by kernel_rfl) own started (by kernel_rfl) Tryf.func4
    (OpenSpec.witness_stopped (enc := enc) (C := Tryf.checked) false ⟨#[], #[.agg #[.int .u8 1, .int .u8 2, .int .u8 3], .agg #[.int .u8 1, .int .u8 2, .int .u8 4]], []⟩ 8 (by kernel_rfl) (by kernel_rfl) (by kernel_rfl) (by kernel_rfl)) ?_
  intro F W base args ds gs before _ hF hval0 hW _ _ _ _ _
  have hval : ∀ (j : Nat) t v, Tryf.f4.params[j]? = some t → args[j]? = some v → Value.okWide Tryf.prog W .any base t v := hval0
  have hW' := hW
  obtain ⟨p, q, hA0, hV, rfl, _, _⟩ := hW
  have hA : DataW.TrodAll enc Tryf.prog W 0 (fun _ => true) true Tryf.f4.params.toList args.toList ds p := hA0
  rw [Tryf.params4] at hA hval
  obtain ⟨v0, v1, d0, d1, p0, p1, rfl, rfl, rfl, h0, h1⟩ := trodAll_two hA
  obtain ⟨rfl, rfl⟩ := trodVars_none hV
  obtain ⟨A0, A1, A2, rfl, rfl, rfl, a0, a1, a2, ra⟩ := opened3 (hval 0 22 v0 rfl rfl) h0
  obtain ⟨B0, B1, B2, rfl, rfl, rfl, b0, b1, b2, rb⟩ := opened3 (hval 1 22 v1 rfl rfl) h1
  refine (law_calls F.told A0 A1 A2 B0 B1 B2 W hF a0 a1 a2 b0 b1 b2 (toldText F A0 A1 A2 a0 a1 a2) (toldText F B0 B1 B2 b0 b1 b2)).mono ?_
  rintro e W' ⟨rfl, hb⟩
  refine ⟨_, rfl, _, _, _, [], [] ++ [], [], hW', ?_, ?_, ?_, hb.frame _, fun h => by cases h⟩
  · exact trodAll_mk1 (shut_bool Tryf.underlying4 true)
  · exact trodAll_mk2 (ra _ _) (rb _ _)
  · exact rfl

/-- THE CARD. -/
theorem fnNetIDStringOrdersLikeValue_told : Rows.FnNetIDStringOrdersLikeValueToldSaid :=
  Claim7.holds_of_told_any 4 Tryf.f4 "fmt.Sprintf" [] [] _ _ _ (by kernel_rfl) rfl rfl rfl laidOut (by kernel_rfl) rfl ⟨rfl, rfl, rfl, rfl, rfl, rfl, rfl⟩ rfl rfl (by kernel_rfl) (by kernel_rfl) Tryf.func4 (by kernel_rfl)
    (of_decide_eq_true (by kernel_rfl)) (of_decide_eq_true (by kernel_rfl)) stopsAre.symm rfl stopKnobs.symm (by kernel_rfl)
    (by kernel_rfl) (by kernel_rfl) (by kernel_rfl) (by kernel_rfl) (by kernel_rfl) (by kernel_rfl) (by kernel_rfl) (by kernel_rfl) (by kernel_rfl) rfl (by kernel_rfl) rfl rfl
    rfl rfl
    rfl (by kernel_rfl) (by kernel_rfl) (by kernel_rfl) (by decide) (by kernel_rfl)
    (OpenClaim.moreEntering_of (by kernel_rfl) (by kernel_rfl) (by kernel_rfl) (by kernel_rfl) (by kernel_rfl) (by kernel_rfl) (by kernel_rfl) (by kernel_rfl) (by kernel_rfl) (by kernel_rfl))
    ⟨_, WideRow.started_initial, quietAll _⟩
    (fun os started _ H enc _ => law_lifted os started H enc)
end Go.Proofs.Qxb6608518aFmt
