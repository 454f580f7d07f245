/-
  THE TOLD AND TIED CARD of 'FnReadArgumentLooksNoFurtherThanItTakes', proved. fmt's text is told by a function of the authors' own (the law's answer does not hang on it).
-/
import Derived.Test.Qxb6605748aFmtLaw
import Derived.Test.Qxb6605748aFmtTie
import Derived.Test.Qxb6605748aFmtCards
import Derived.ProofKit
import Derived.SliceStrings
import Derived.Carry
import Derived.Stop.JoinedAt
import Derived.Stop.JoinedTold
import Derived.Stop.Texts
import Derived.Stop.LaidErr
import Derived.Deep.DeepLaidRun
import Derived.SevenToldRow
namespace Go.Proofs.Qxb6605748aFmt
open Go.ChangeShapes Go.WideShapes Go.ChangeAt Go.RowKit Go.Kit
open Go.Extern.Stop Go.Stop Go.Extern

/-! ### Closed facts -/
theorem own : ownKnob Tryf.prog.godebug = none := by kernel_rfl
theorem laidOut : laidOutB Tryf.pinned.checked.prog = true := by kernel_rfl
theorem stopsAre : Tryf.pinned.checked.prog.stops = Rows.fnReadArgumentLooksNoFurtherThanItTakesRow.stops := by kernel_rfl
theorem stopKnobs : Tryf.pinned.checked.prog.stopKnobs = [] := by kernel_rfl
theorem quietAll (os : Os) : Stop.quiet Tryf.pinned.checked.prog os := by
  intro k hk
  rw [stopKnobs] at hk
  cases hk
theorem gS : Tryf.prog.globalNamed "strconv.ErrSyntax" = some 0 := by kernel_rfl
theorem gR : Tryf.prog.globalNamed "strconv.ErrRange" = some 1 := by kernel_rfl
theorem gT0 : (Tryf.prog.globals[0]?).map (·.type) = some 29 := by kernel_rfl
theorem gT1 : (Tryf.prog.globals[1]?).map (·.type) = some 29 := by kernel_rfl
theorem cells80 : Tryf.prog.cellsOf 80 = 1 := by kernel_rfl
theorem cells9 : Tryf.prog.cellsOf 9 = 1 := by kernel_rfl
theorem cells3 : Tryf.prog.cellsOf 3 = 1 := by kernel_rfl
theorem star : "*" ++ "errors.errorString" = "*errors.errorString" := by decide
theorem row78 (u : TypeId) (h : Tryf.prog.typeName? 3 u = some "*errors.errorString") : u = 78 :=
  typeName_ptr_named (nm := "errors.errorString") (by rw [star]; kernel_rfl) (by kernel_rfl) (by decide) u (by rw [star]; exact h)

/-! ### A start that fits -/
def objs : Array Obj := #[.cells #[.string ⟨#[105, 110, 118, 97, 108, 105, 100, 32, 115, 121, 110, 116, 97, 120]⟩] 80, .cells #[.string ⟨#[118, 97, 108, 117, 101, 32, 111, 117, 116, 32, 111, 102, 32, 114, 97, 110, 103, 101]⟩] 80]
def laidHeap (h : Array Obj) (n : Nat) : Array Obj :=
  ((((h.modify 0 fun | .cells _ t frozen => .cells #[.iface 78 (.pointer (some ⟨n, 0, none⟩))] t frozen | o => o).modify 1 fun | .cells _ t frozen => .cells #[.iface 78 (.pointer (some ⟨n + 1, 0, none⟩))] t frozen | o => o).modify 2 fun
    | .cells _ t frozen => .cells #[.int .u64 1, .int .u64 10, .int .u64 100, .int .u64 1000, .int .u64 10000, .int .u64 100000, .int .u64 1000000, .int .u64 10000000, .int .u64 100000000, .int .u64 1000000000, .int .u64 10000000000, .int .u64 100000000000, .int .u64 1000000000000, .int .u64 10000000000000, .int .u64 100000000000000, .int .u64 1000000000000000, .int .u64 10000000000000000, .int .u64 100000000000000000, .int .u64 1000000000000000000, .int .u64 10000000000000000000] t frozen | o => o).modify 3 fun
    | .cells _ t frozen => .cells #[.int .u8 0, .int .u8 1, .int .u8 28, .int .u8 2, .int .u8 29, .int .u8 14, .int .u8 24, .int .u8 3, .int .u8 30, .int .u8 22, .int .u8 20, .int .u8 15, .int .u8 25, .int .u8 17, .int .u8 4, .int .u8 8, .int .u8 31, .int .u8 27, .int .u8 13, .int .u8 23, .int .u8 21, .int .u8 19, .int .u8 16, .int .u8 7, .int .u8 26, .int .u8 12, .int .u8 18, .int .u8 6, .int .u8 11, .int .u8 5, .int .u8 10, .int .u8 9] t frozen | o => o).modify 4 fun
    | .cells _ t frozen => .cells #[.int .u8 0, .int .u8 1, .int .u8 56, .int .u8 2, .int .u8 57, .int .u8 49, .int .u8 28, .int .u8 3, .int .u8 61, .int .u8 58, .int .u8 42, .int .u8 50, .int .u8 38, .int .u8 29, .int .u8 17, .int .u8 4, .int .u8 62, .int .u8 47, .int .u8 59, .int .u8 36, .int .u8 45, .int .u8 43, .int .u8 51, .int .u8 22, .int .u8 53, .int .u8 39, .int .u8 33, .int .u8 30, .int .u8 24, .int .u8 18, .int .u8 12, .int .u8 5, .int .u8 63, .int .u8 55, .int .u8 48, .int .u8 27, .int .u8 60, .int .u8 41, .int .u8 37, .int .u8 16, .int .u8 46, .int .u8 35, .int .u8 44, .int .u8 21, .int .u8 52, .int .u8 32, .int .u8 23, .int .u8 11, .int .u8 54, .int .u8 26, .int .u8 40, .int .u8 15, .int .u8 34, .int .u8 20, .int .u8 31, .int .u8 10, .int .u8 25, .int .u8 14, .int .u8 19, .int .u8 9, .int .u8 13, .int .u8 8, .int .u8 7, .int .u8 6] t frozen | o => o
theorem laid_met (os : Os) (args : Array Value) : laidMet Tryf.prog Rows.fnReadArgumentLooksNoFurtherThanItTakesRow.laid
    (({ (World.holding Tryf.prog os ⟨objs, #[], []⟩) with heap := laidHeap (World.holding Tryf.prog os ⟨objs, #[], []⟩).heap (World.holding Tryf.prog default ⟨#[], #[], []⟩).heap.size } : World).forCall (fun _ _ => 0) ⟨#[], args, []⟩).memory :=
  laidMet_of_run3 8 (by kernel_rfl) (by kernel_rfl) (by kernel_rfl)

/-! ### The arguments, opened -/
section
variable {H : Type} {enc : TypeId × Value → H} {W : World} {v : Value} {d : DataW H} {p : List MemPlace}
theorem opened_ints {base : Nat} (hv : Value.okWide Tryf.prog W .any base 22 v) (h : DataW.Trod enc Tryf.prog W 0 (fun _ => true) true 22 v d p) :
    ∃ (ao : Option Addr) (b off n c : Nat) (K : Nat → Int), v = .slice ao n c ∧ (0 < n → ao = some ⟨b, off, none⟩) ∧ Ints W b off n K ∧ n ≤ maxLen := by
  obtain ⟨ao, n, c, rfl⟩ := okWide_slice Tryf.underlying22 hv
  obtain ⟨f, hf⟩ := h
  rcases open_ints Tryf.underlying22 Tryf.underlying3 cells3 hf with ⟨hcs, _⟩ | ⟨a, len, cap, zs, hcs, _, hl, hm, hz, _, hcell, _⟩
  · simp [Value.cells] at hcs
    obtain ⟨rfl, rfl, rfl⟩ := hcs
    exact ⟨none, 0, 0, 0, 0, fun _ => 0, rfl, fun h => absurd h (by omega), fun j hj => by omega, Nat.zero_le _⟩
  · simp [Value.cells] at hcs
    obtain ⟨rfl, rfl, rfl⟩ := hcs
    simp only [if_true] at hz
    by_cases h0 : 0 < n
    · obtain ⟨b, off, spot⟩ := a
      have hspot : spot = none := by simpa [Addr.add] using World.cell?_spot (hcell 0 (by omega))
      subst hspot
      exact ⟨_, b, off, n, c, fun j => zs.getD j 0, rfl, fun _ => rfl, fun j hj => by rw [← add_plain]; exact hcell j (by omega), by omega⟩
    · exact ⟨_, 0, 0, n, c, fun _ => 0, rfl, fun h => absurd h h0, fun j hj => by omega, by omega⟩
theorem opened_strings {base : Nat} (hv : Value.okWide Tryf.prog W .any base 23 v) (h : DataW.Trod enc Tryf.prog W 0 (fun _ => true) true 23 v d p) :
    ∃ (ao : Option Addr) (b off n c : Nat) (S : Nat → ByteArray), v = .slice ao n c ∧ (0 < n → ao = some ⟨b, off, none⟩) ∧ Strs W b off n S ∧ n ≤ maxLen ∧ ∀ j, j < n → (S j).size ≤ maxLen := by
  obtain ⟨ao, n, c, rfl⟩ := okWide_slice Tryf.underlying23 hv
  obtain ⟨f, hf⟩ := h
  rcases open_strings Tryf.underlying23 Tryf.underlying9 cells9 hf with ⟨hcs, _⟩ | ⟨a, len, cap, zs, hcs, _, hl, hm, hz, _, hcell, hmax⟩
  · simp [Value.cells] at hcs
    obtain ⟨rfl, rfl, rfl⟩ := hcs
    exact ⟨none, 0, 0, 0, 0, fun _ => ByteArray.empty, rfl, fun h => absurd h (by omega), fun j hj => by omega, Nat.zero_le _, fun j hj => by omega⟩
  · simp [Value.cells] at hcs
    obtain ⟨rfl, rfl, rfl⟩ := hcs
    simp only [if_true] at hz
    by_cases h0 : 0 < n
    · obtain ⟨b, off, spot⟩ := a
      have hspot : spot = none := by simpa [Addr.add] using World.cell?_spot (hcell 0 (by omega))
      subst hspot
      refine ⟨_, b, off, n, c, fun j => zs.getD j ByteArray.empty, rfl, fun _ => rfl, fun j hj => by rw [← add_plain]; exact hcell j (by omega), by omega, fun j hj => ?_⟩
      have hj' : j < zs.length := by omega
      simp only [List.getD_eq_getElem?_getD, List.getElem?_eq_getElem hj', Option.getD_some]
      exact hmax _ (List.getElem_mem hj')
    · exact ⟨_, 0, 0, n, c, fun _ => ByteArray.empty, rfl, fun h => absurd h h0, fun j hj => by omega, by omega, fun j hj => by omega⟩
end

set_option maxRecDepth 100000 in
theorem law_lifted (os : Os) (started : os.Started) (H : Type) (enc : TypeId × Value → H) :
    ReturnsInTold none {} Tryf.checked os 3 .any Input.okWide ((OpenSpec.ofChange Rows.fnReadArgumentLooksNoFurtherThanItTakesSpec).preRow enc Tryf.prog Tryf.f3 [] false Rows.fnReadArgumentLooksNoFurtherThanItTakesRow.laid)
      (fun F => ((OpenSpec.ofChange Rows.fnReadArgumentLooksNoFurtherThanItTakesSpec).at F).post enc Tryf.prog Tryf.f3 false true false false) (aloneAtReturn Tryf.prog) nothingAlways := by
  refine returnsInTold_of_row (C := Tryf.checked) (s := OpenSpec.ofChange Rows.fnReadArgumentLooksNoFurtherThanItTakesSpec) (by kernel_rfl) own started (by kernel_rfl) Tryf.func3
    (OpenSpec.witness_stopped_at (enc := enc) (C := Tryf.checked) false ({ (World.holding Tryf.prog os ⟨objs, #[], []⟩) with heap := laidHeap (World.holding Tryf.prog os ⟨objs, #[], []⟩).heap (World.holding Tryf.prog default ⟨#[], #[], []⟩).heap.size } : World) #[.slice none 0 0, .slice none 0 0, .slice none 0 0, .slice none 0 0, .int .i64 0] rfl (by kernel_rfl) (by kernel_rfl) (by kernel_rfl)
      (OpenSpec.preRow_of_B rfl 8 (by kernel_rfl) (by kernel_rfl) (laid_met os _))) ?_
  intro F W base args ds gs before _ hF hval0 hW _ _ _ hL0 _
  have hval : ∀ (j : Nat) t v, Tryf.f3.params[j]? = some t → args[j]? = some v → Value.okWide Tryf.prog W .any base t v := hval0
  have hW' := hW
  have hlt : ∀ x ∈ before, x.block < W.heap.size := fun x hx => by simpa using hW.lt x hx
  obtain ⟨p, q, hA0, hV0, rfl, hfz, hnd⟩ := hW
  have hA : DataW.TrodAll enc Tryf.prog W 0 (fun _ => true) true Tryf.f3.params.toList args.toList ds p := hA0
  rw [Tryf.params3] at hA hval
  have hV : DataW.TrodVars enc Tryf.prog W (fun _ => true) [] gs q := hV0
  obtain ⟨rfl, rfl⟩ : gs = [] ∧ q = [] := by cases gs <;> simp_all [DataW.TrodVars]
  obtain ⟨l⟩ := args
  simp only at hA hval
  obtain ⟨v0, l0, d0, e0, p0, q0, rfl, rfl, rfl, h0, hA⟩ := trodAll_cons hA
  obtain ⟨v1, l1, d1, e1, p1, q1, rfl, rfl, rfl, h1, hA⟩ := trodAll_cons hA
  obtain ⟨v2, l2, d2, e2, p2, q2, rfl, rfl, rfl, h2, hA⟩ := trodAll_cons hA
  obtain ⟨v3, l3, d3, e3, p3, q3, rfl, rfl, rfl, h3, hA⟩ := trodAll_cons hA
  obtain ⟨v4, l4, d4, e4, p4, q4, rfl, rfl, rfl, h4, hA⟩ := trodAll_cons hA
  obtain ⟨rfl, rfl, rfl⟩ := trodAll_nil hA
  obtain ⟨a0, b0, o0, n0, c0, K, rfl, ha0, hK, m0⟩ := opened_ints (hval 0 22 v0 rfl rfl) h0
  obtain ⟨a1, b1, o1, n1, c1, S, rfl, ha1, hS, m1, hs⟩ := opened_strings (hval 1 23 v1 rfl rfl) h1
  obtain ⟨a2, b2, o2, n2, c2, P, rfl, ha2, hP, m2⟩ := opened_ints (hval 2 22 v2 rfl rfl) h2
  obtain ⟨a3, b3, o3, n3, c3, E, rfl, ha3, hE, m3⟩ := opened_ints (hval 3 22 v3 rfl rfl) h3
  have h4' := h4
  obtain ⟨x, rfl, rfl, rfl, wx⟩ := open_int Tryf.underlying3 (hval 4 3 v4 rfl rfl) h4
  have hL : laidMet Tryf.prog [("math/bits.deBruijn32tab", Rows.laid_math_bits_deBruijn32tab), ("math/bits.deBruijn64tab", Rows.laid_math_bits_deBruijn64tab), ("internal/strconv.uint64pow10", Rows.laid_internal_strconv_uint64pow10),
    ("strconv.ErrRange", .iface "*errors.errorString" (.ptr (.agg [.lit (.string [118, 97, 108, 117, 101, 32, 111, 117, 116, 32, 111, 102, 32, 114, 97, 110, 103, 101])]))), ("strconv.ErrSyntax", .iface "*errors.errorString" (.ptr (.agg [.lit (.string [105, 110, 118, 97, 108, 105, 100, 32, 115, 121, 110, 116, 97, 120])])))] W := hL0
  obtain ⟨ar, sr, hvr, _⟩ := laid_sentinel (laidMet.tail (laidMet.tail (laidMet.tail hL))) gR gT1 Tryf.underlying29 row78 Tryf.underlying78 Tryf.underlying80 rfl rfl Tryf.underlying9 cells80 cells9
  obtain ⟨az, ss, hvs, _⟩ := laid_sentinel (laidMet.tail (laidMet.tail (laidMet.tail (laidMet.tail hL)))) gS gT0 Tryf.underlying29 row78 Tryf.underlying78 Tryf.underlying80 rfl rfl Tryf.underlying9 cells80 cells9
  have hg0 : W.cell? ⟨0, 0, none⟩ = some (.iface 78 (.pointer (some az))) := by simpa using World.var?_cell gS hvs 0
  have hg1 : W.cell? ⟨1, 0, none⟩ = some (.iface 78 (.pointer (some ar))) := by simpa using World.var?_cell gR hvr 0
  refine (law_calls F.told a0 a1 a2 a3 b0 o0 n0 c0 b1 o1 n1 c1 b2 o2 n2 c2 b3 o3 n3 c3 x K P E S W hF ha0 ha1 ha2 ha3 hK hS hP hE hs m0 m1 m2 m3 _ _ _ _ hg0 hg1).mono ?_
  rintro e W' ⟨rfl, hb⟩
  refine ⟨_, rfl, _, _, _, [], p0 ++ (p1 ++ (p2 ++ (p3 ++ []))), [], hW', ?_, ?_, ?_, hb.frame _, fun h => by cases h⟩
  · exact trodAll_mk1 (shut_bool Tryf.underlying4 true)
  · refine ⟨_, _, (Below.trod laidOut (by kernel_rfl) (of_decide_eq_true (by kernel_rfl)) h0 hb fun y hy => hlt y (by simp [hy])), ?_, rfl⟩
    refine ⟨_, _, (Below.trod laidOut (by kernel_rfl) (of_decide_eq_true (by kernel_rfl)) h1 hb fun y hy => hlt y (by simp [hy])), ?_, rfl⟩
    refine ⟨_, _, (Below.trod laidOut (by kernel_rfl) (of_decide_eq_true (by kernel_rfl)) h2 hb fun y hy => hlt y (by simp [hy])), ?_, rfl⟩
    refine ⟨_, _, (Below.trod laidOut (by kernel_rfl) (of_decide_eq_true (by kernel_rfl)) h3 hb fun y hy => hlt y (by simp [hy])), ?_, rfl⟩
    exact trodAll_mk1 (shut_int Tryf.underlying3 wx)
  · exact rfl

/-- THE CARD. -/
theorem fnReadArgumentLooksNoFurtherThanItTakes_told : Rows.FnReadArgumentLooksNoFurtherThanItTakesToldSaid :=
  Claim7.holds_of_told_tied_any_at .later 3 Tryf.f3 "fmt.Sprintf" [] [] _ _ _ _ _ (by kernel_rfl) rfl rfl rfl laidOut (by kernel_rfl) rfl ⟨rfl, rfl, rfl, rfl, rfl, rfl, rfl⟩ rfl rfl (by kernel_rfl) (by kernel_rfl) Tryf.func3 (by kernel_rfl)
    (of_decide_eq_true (by kernel_rfl)) (of_decide_eq_true (by kernel_rfl)) stopsAre.symm rfl stopKnobs.symm (by kernel_rfl)
    (by kernel_rfl) (by kernel_rfl) (by kernel_rfl) (by kernel_rfl) (by kernel_rfl) (by kernel_rfl) (by kernel_rfl) (by kernel_rfl) (by kernel_rfl) rfl (by kernel_rfl) rfl rfl
    rfl rfl
    rfl (by kernel_rfl) (by kernel_rfl) (by kernel_rfl) (by decide) (by kernel_rfl) fnReadArgumentLooksNoFurtherThanItTakes_row_tie
    (OpenClaim.moreEntering_of (by kernel_rfl) (by kernel_rfl) (by kernel_rfl) (by kernel_rfl) (by kernel_rfl) (by kernel_rfl) (by kernel_rfl) (by kernel_rfl) (by kernel_rfl) (by kernel_rfl))
    ⟨_, WideRow.started_initial, quietAll _⟩
    (fun os started _ H enc _ => law_lifted os started H enc)

end Go.Proofs.Qxb6605748aFmt
