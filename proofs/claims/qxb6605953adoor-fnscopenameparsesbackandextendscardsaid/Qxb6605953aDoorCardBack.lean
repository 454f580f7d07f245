/-
  THE TIED CARD of 'FnScopeNameParsesBackAndExtends', proved.
-/
import Derived.Test.Qxb6605953aDoorBack
import Derived.Test.Qxb6605953aDoorTie
import Derived.Test.Qxb6605953aDoorCards
import Derived.ProofKit
import Derived.ChangeSame
import Derived.ChangeVars
import Derived.JoinedOf
import Derived.RowKit
import Derived.RowKitTokens
import Derived.Carry
import Derived.LaidLaws
import Derived.LaidHandle
import Derived.Stop.Joined
import Derived.Lib.LaidTab
import Derived.Stop.LaidErr
import Derived.Deep.DeepLaidRun
import Derived.SevenTiedAt
namespace Go.Proofs.Qxb6605953aDoor
open Go.ChangeShapes Go.WideShapes Go.ChangeAt Go.RowKit Go.Stop

theorem own : ownKnob Tryd.prog.godebug = none := by kernel_rfl
theorem laidOut : laidOutB Tryd.prog = true := by kernel_rfl
theorem gT0 : (Tryd.prog.globals[0]?).map (·.type) = some 58 := by kernel_rfl

/-! ### A start that fits -/
def laidHeap (h : Array Obj) : Array Obj :=
  ((h.modify 0 fun
    | .cells _ t frozen => .cells #[.int .u64 1, .int .u64 10, .int .u64 100, .int .u64 1000, .int .u64 10000, .int .u64 100000, .int .u64 1000000, .int .u64 10000000, .int .u64 100000000, .int .u64 1000000000, .int .u64 10000000000, .int .u64 100000000000, .int .u64 1000000000000, .int .u64 10000000000000, .int .u64 100000000000000, .int .u64 1000000000000000, .int .u64 10000000000000000, .int .u64 100000000000000000, .int .u64 1000000000000000000, .int .u64 10000000000000000000] t frozen | o => o).modify 2 fun
    | .cells _ t frozen => .cells #[.int .u8 0, .int .u8 1, .int .u8 28, .int .u8 2, .int .u8 29, .int .u8 14, .int .u8 24, .int .u8 3, .int .u8 30, .int .u8 22, .int .u8 20, .int .u8 15, .int .u8 25, .int .u8 17, .int .u8 4, .int .u8 8, .int .u8 31, .int .u8 27, .int .u8 13, .int .u8 23, .int .u8 21, .int .u8 19, .int .u8 16, .int .u8 7, .int .u8 26, .int .u8 12, .int .u8 18, .int .u8 6, .int .u8 11, .int .u8 5, .int .u8 10, .int .u8 9] t frozen | o => o).modify 3 fun
    | .cells _ t frozen => .cells #[.int .u8 0, .int .u8 1, .int .u8 56, .int .u8 2, .int .u8 57, .int .u8 49, .int .u8 28, .int .u8 3, .int .u8 61, .int .u8 58, .int .u8 42, .int .u8 50, .int .u8 38, .int .u8 29, .int .u8 17, .int .u8 4, .int .u8 62, .int .u8 47, .int .u8 59, .int .u8 36, .int .u8 45, .int .u8 43, .int .u8 51, .int .u8 22, .int .u8 53, .int .u8 39, .int .u8 33, .int .u8 30, .int .u8 24, .int .u8 18, .int .u8 12, .int .u8 5, .int .u8 63, .int .u8 55, .int .u8 48, .int .u8 27, .int .u8 60, .int .u8 41, .int .u8 37, .int .u8 16, .int .u8 46, .int .u8 35, .int .u8 44, .int .u8 21, .int .u8 52, .int .u8 32, .int .u8 23, .int .u8 11, .int .u8 54, .int .u8 26, .int .u8 40, .int .u8 15, .int .u8 34, .int .u8 20, .int .u8 31, .int .u8 10, .int .u8 25, .int .u8 14, .int .u8 19, .int .u8 9, .int .u8 13, .int .u8 8, .int .u8 7, .int .u8 6] t frozen | o => o
theorem laid_met (os : Os) (args : Array Value) : laidMet Tryd.prog Rows.fnScopeNameParsesBackAndExtendsRow.laid (({ (World.holding Tryd.prog os ⟨#[], #[], []⟩) with heap := laidHeap (World.holding Tryd.prog os ⟨#[], #[], []⟩).heap } : World).forCall (fun _ _ => 0) ⟨#[], args, []⟩).memory :=
  laidMet_of_run3 8 (by kernel_rfl) (by kernel_rfl) (by kernel_rfl)
theorem laid_metH (os : Os) (args : Array Value) : laidMetH Tryd.prog Rows.fnScopeNameParsesBackAndExtendsRow.laid (({ (World.holding Tryd.prog os ⟨#[], #[], []⟩) with heap := laidHeap (World.holding Tryd.prog os ⟨#[], #[], []⟩).heap } : World).forCall (fun _ _ => 0) ⟨#[], args, []⟩).memory :=
  laidMetH_of_parts (laid_met os args) (by kernel_rfl)

theorem inR {x : Int} (h : (Lit.int .i64 x).wf = true) : InR x := by
  simp [Lit.wf, IntKind.min, IntKind.max, IntKind.signed, IntKind.bits] at h
  exact ⟨by omega, by omega⟩

set_option maxRecDepth 100000 in
theorem law_lifted (os : Os) (started : os.Started) (H : Type) (enc : TypeId × Value → H) :
    ReturnsInHanded {} Tryd.checked os 4 .any (fun w args => (Rows.fnScopeNameParsesBackAndExtendsSpec.pre enc Tryd.prog Tryd.f4 [] false w args ∧ laidMetH Tryd.prog Rows.fnScopeNameParsesBackAndExtendsRow.laid w) ∧ sizedMet enc Tryd.prog Tryd.f4 (OpenSpec.ofChange Rows.fnScopeNameParsesBackAndExtendsSpec) false w args)
      (Rows.fnScopeNameParsesBackAndExtendsSpec.post enc Tryd.prog Tryd.f4 false true false false) := by
  refine returnsInHanded_of_change_and (C := Tryd.checked) (X := fun w _ => laidMetH Tryd.prog Rows.fnScopeNameParsesBackAndExtendsRow.laid w) (fun _ _ _ hh h => h.of_heap hh) own started (by kernel_rfl) Tryd.func4
    (ChangeSpec.witness_at (enc := enc) (C := Tryd.checked) (os := os) (X := fun w _ => laidMetH Tryd.prog Rows.fnScopeNameParsesBackAndExtendsRow.laid w) false ({ (World.holding Tryd.prog os ⟨#[], #[], []⟩) with heap := laidHeap (World.holding Tryd.prog os ⟨#[], #[], []⟩).heap } : World) #[.int .i64 0, .int .i64 0, .int .i64 0, .int .i64 0, .int .i64 0] 8 rfl (by kernel_rfl) (by kernel_rfl) (by kernel_rfl) (by kernel_rfl) (by kernel_rfl) (laid_metH os _)) ?_
  intro W base args ds gs before hval0 hW _ _ hL0 _
  have hval : ∀ (j : Nat) t v, Tryd.f4.params[j]? = some t → args[j]? = some v → Value.okWide Tryd.prog W .any base t v := hval0
  have hW' := hW
  obtain ⟨p, q, hA0, hV0, rfl, hfz, hnd⟩ := hW
  have hA : DataW.TrodAll enc Tryd.prog W 0 (fun _ => true) true Tryd.f4.params.toList args.toList ds p := hA0
  have hV : DataW.TrodVars enc Tryd.prog W (fun _ => true) [] gs q := hV0
  rw [Tryd.params4] at hA hval
  obtain ⟨rfl, rfl⟩ : gs = [] ∧ q = [] := by cases gs <;> simp_all [DataW.TrodVars]
  obtain ⟨li⟩ := args
  simp only at hA hval
  obtain ⟨v0, l0, d0, e0, p0, q0, rfl, rfl, rfl, h0, hA⟩ := trodAll_cons hA
  obtain ⟨v1, l1, d1, e1, p1, q1, rfl, rfl, rfl, h1, hA⟩ := trodAll_cons hA
  obtain ⟨v2, l2, d2, e2, p2, q2, rfl, rfl, rfl, h2, hA⟩ := trodAll_cons hA
  obtain ⟨v3, l3, d3, e3, p3, q3, rfl, rfl, rfl, h3, hA⟩ := trodAll_cons hA
  obtain ⟨v4, l4, d4, e4, p4, q4, rfl, rfl, rfl, h4, hA⟩ := trodAll_cons hA
  obtain ⟨rfl, rfl, rfl⟩ := trodAll_nil hA
  obtain ⟨x0, rfl, rfl, rfl, w0⟩ := open_int Tryd.underlying3 (hval 0 3 v0 rfl rfl) h0
  obtain ⟨x1, rfl, rfl, rfl, w1⟩ := open_int Tryd.underlying3 (hval 1 3 v1 rfl rfl) h1
  obtain ⟨x2, rfl, rfl, rfl, w2⟩ := open_int Tryd.underlying3 (hval 2 3 v2 rfl rfl) h2
  obtain ⟨x3, rfl, rfl, rfl, w3⟩ := open_int Tryd.underlying3 (hval 3 3 v3 rfl rfl) h3
  obtain ⟨x4, rfl, rfl, rfl, w4⟩ := open_int Tryd.underlying3 (hval 4 3 v4 rfl rfl) h4
  have hL : laidMet Tryd.prog [("math/bits.deBruijn32tab", Rows.laid_math_bits_deBruijn32tab), ("math/bits.deBruijn64tab", Rows.laid_math_bits_deBruijn64tab), ("internal/strconv.uint64pow10", Lib.tabData .u64 Lib.pow10Tab)] W := hL0
  have htab : Tab W := Lib.tabIs_of_head gP gT0 Tryd.underlying58 Tryd.underlying48 (by kernel_rfl) (by kernel_rfl) (laidMet.tail (laidMet.tail hL))
  refine (back_calls x0 x1 x2 x3 x4 W (inR w0) (inR w1) (inR w2) (inR w3) htab).mono ?_
  rintro e W' ⟨rfl, hb⟩
  refine ⟨_, rfl, _, _, _, [], [] ++ ([] ++ ([] ++ ([] ++ []))), [], hW', ?_, ?_, ?_, hb.frame _, fun h => by cases h⟩
  · exact trodAll_mk1 (shut_bool Tryd.underlying4 true)
  · exact ⟨_, _, shut_int Tryd.underlying3 w0, ⟨_, _, shut_int Tryd.underlying3 w1, ⟨_, _, shut_int Tryd.underlying3 w2, ⟨_, _, shut_int Tryd.underlying3 w3, trodAll_mk1 (shut_int Tryd.underlying3 w4), rfl⟩, rfl⟩, rfl⟩, rfl⟩
  · exact rfl

theorem row_holds : Rows.FnScopeNameParsesBackAndExtendsSaid :=
  OpenClaim.holds_of_wide 4 Tryd.f4 rfl rfl rfl rfl rfl rfl rfl ⟨rfl, rfl, rfl, rfl, rfl⟩ rfl rfl rfl rfl rfl (by kernel_rfl) Tryd.func4 (by kernel_rfl)
    (of_decide_eq_true (by kernel_rfl)) (by unfold Func.isWrapper; rw [if_neg (of_decide_eq_false (by kernel_rfl))]; exact ⟨rfl, rfl⟩)
    (fun os started H enc _ => law_lifted os started H enc)

theorem fnScopeNameParsesBackAndExtends_card : Rows.FnScopeNameParsesBackAndExtendsCardSaid :=
  Claim7.holds_tied_plain_at .later [] [.data, .data, .data] true (true, "18d92d7799ab07cbafd54093fff6a9c22ab80deb70beca1ca1902ff9e33b2773") false
    row_holds (fun _ h => by cases h) (by kernel_rfl) (fun _ h => by cases h) fnScopeNameParsesBackAndExtends_row_tie rfl ⟨rfl, rfl⟩ (by kernel_rfl) rfl
    (fun f fn hf hfn => by
      obtain rfl : f = 4 := Option.some.inj ((show Tryd.prog.funcNamed Rows.fnScopeNameParsesBackAndExtendsRow.func = some 4 by kernel_rfl).symm.trans hf) |>.symm
      obtain rfl : fn = Tryd.f4 := (Option.some.inj (Tryd.func4.symm.trans hfn)).symm
      exact ⟨by kernel_rfl, fun j t ht => by
        rw [Tryd.params4] at ht
        have h3 : t = 3 := by
          match j, ht with
          | 0, ht => simpa using ht.symm
          | 1, ht => simpa using ht.symm
          | 2, ht => simpa using ht.symm
          | 3, ht => simpa using ht.symm
          | 4, ht => simpa using ht.symm
          | _ + 5, ht => simp at ht
        subst h3
        exact (show Tryd.prog.wantsStandIn 3 = false by kernel_rfl)⟩)
    (by kernel_rfl)
end Go.Proofs.Qxb6605953aDoor
