/-
  THE TOLD AND TIED CARD of 'FnWrongMagicWrapsGivenSentinel', proved. fmt's text is told by a function of the authors' own (the law's answer does not hang on it).
-/
import Derived.Test.Qxb6605873aFmtLaw
import Derived.Test.Qxb6605873aFmtTie
import Derived.Test.Qxb6605873aFmtCards
import Derived.ProofKit
import Derived.Stop.JoinedAt
import Derived.Stop.JoinedTold
import Derived.Stop.Texts
import Derived.Stop.LaidErr
import Derived.Stop.LaidTwo
import Derived.SevenToldRow
namespace Go.Proofs.Qxb6605873aFmt
open Go.ChangeShapes Go.WideShapes Go.ChangeAt Go.RowKit Go.Kit
open Go.ChangeMaps (open_string shut_string)
open Go.Extern.Stop Go.Stop Go.Extern

/-- THREE SENTINELS OF ONE TYPE ON THE LIST: what 'laid' gives, with what '==' and errors.Is want besides. -/
theorem laid_sentinels3 {P : Program} {n0 n1 n2 nm : String} {text0 text1 text2 : List UInt8} {r : List (String × DataW Unit)} {W : World} {g0 g1 g2 : Nat} {ti tp te ts : TypeId} {ms : Array (String × TypeId)} {f : Field}
    (h : laidMet P ((n0, .iface nm (.ptr (.agg [.lit (.string text0)]))) :: (n1, .iface nm (.ptr (.agg [.lit (.string text1)]))) :: (n2, .iface nm (.ptr (.agg [.lit (.string text2)]))) :: r) W)
    (hg0 : P.globalNamed n0 = some g0) (ht0 : (P.globals[g0]?).map (·.type) = some ti) (hg1 : P.globalNamed n1 = some g1) (ht1 : (P.globals[g1]?).map (·.type) = some ti) (hg2 : P.globalNamed n2 = some g2) (ht2 : (P.globals[g2]?).map (·.type) = some ti)
    (hi : P.underlying ti = some (.interface ms)) (hrow : ∀ u, P.typeName? 3 u = some nm → u = tp)
    (hp : P.underlying tp = some (.pointer te)) (he : P.underlying te = some (.struct #[f])) (hft : f.type = ts) (hfo : f.offset = 0) (hs : P.underlying ts = some .string) (hc : P.cellsOf te = 1) (hcs : P.cellsOf ts = 1) :
    ∃ (a0 a1 a2 : Addr) (s0 s1 s2 : ByteArray) (c0 c1 c2 : Array Value) (t0 t1 t2 : TypeId),
      W.var? P n0 = some #[.iface tp (.pointer (some a0))] ∧ W.var? P n1 = some #[.iface tp (.pointer (some a1))] ∧ W.var? P n2 = some #[.iface tp (.pointer (some a2))] ∧
      W.cell? a0 = some (.string s0) ∧ W.cell? a1 = some (.string s1) ∧ W.cell? a2 = some (.string s2) ∧ a0 ≠ a1 ∧ a0 ≠ a2 ∧ a1 ≠ a2 ∧
      W.heap[a0.block]? = some (.cells c0 t0 (0, 0)) ∧ W.heap[a1.block]? = some (.cells c1 t1 (0, 0)) ∧ W.heap[a2.block]? = some (.cells c2 t2 (0, 0)) := by
  obtain ⟨ps, ⟨g0', t0', cs0, f0, p0, q0, hg0', ht0', hv0, hd0, ⟨g1', t1', cs1, f1, p1, q1, hg1', ht1', hv1, hd1, ⟨g2', t2', cs2, f2, p2, q2, hg2', ht2', hv2, hd2, _, e2⟩, e1⟩, e0⟩, hnd, hrows⟩ := h
  obtain rfl := Option.some.inj (hg0.symm.trans hg0')
  obtain rfl := Option.some.inj (hg1.symm.trans hg1')
  obtain rfl := Option.some.inj (hg2.symm.trans hg2')
  obtain rfl := Option.some.inj (ht0.symm.trans ht0')
  obtain rfl := Option.some.inj (ht1.symm.trans ht1')
  obtain rfl := Option.some.inj (ht2.symm.trans ht2')
  subst e2
  subst e1
  subst e0
  obtain ⟨l0⟩ := cs0
  obtain ⟨l1⟩ := cs1
  obtain ⟨l2⟩ := cs2
  have ok0 : ∀ u v, l0 = [.iface u v] → Value.okWide P W .any 0 u v := fun u v e => by
    subst e
    exact (hrows g0 0 (by simp [MemPlace.row])).2 u v (by simpa using World.var?_cell hg0' hv0 0)
  have ok1 : ∀ u v, l1 = [.iface u v] → Value.okWide P W .any 0 u v := fun u v e => by
    subst e
    exact (hrows g1 0 (by simp [MemPlace.row])).2 u v (by simpa using World.var?_cell hg1' hv1 0)
  have ok2 : ∀ u v, l2 = [.iface u v] → Value.okWide P W .any 0 u v := fun u v e => by
    subst e
    exact (hrows g2 0 (by simp [MemPlace.row])).2 u v (by simpa using World.var?_cell hg2' hv2 0)
  obtain ⟨a0, s0, rfl, hc0, hs0, hz0, rfl⟩ := errorString_of_trod hi hrow hp he hft hfo hs hc hcs hd0 ok0
  obtain ⟨a1, s1, rfl, hc1, hs1, hz1, rfl⟩ := errorString_of_trod hi hrow hp he hft hfo hs hc hcs hd1 ok1
  obtain ⟨a2, s2, rfl, hc2, hs2, hz2, rfl⟩ := errorString_of_trod hi hrow hp he hft hfo hs hc hcs hd2 ok2
  obtain ⟨c0, t0, hb0⟩ := (hrows a0.block a0.off (by simp [MemPlace.row])).1
  obtain ⟨c1, t1, hb1⟩ := (hrows a1.block a1.off (by simp [MemPlace.row])).1
  obtain ⟨c2, t2, hb2⟩ := (hrows a2.block a2.off (by simp [MemPlace.row])).1
  refine ⟨a0, a1, a2, s0, s1, s2, c0, c1, c2, t0, t1, t2, hv0, hv1, hv2, hc0, hc1, hc2, ?_, ?_, ?_, hb0, hb1, hb2⟩
  · rintro rfl
    simp [MemPlace.row] at hnd
  · rintro rfl
    simp [MemPlace.row] at hnd
  · rintro rfl
    simp [MemPlace.row] at hnd

theorem vars_read3 {H : Type} (enc : TypeId × Value → H) {P : Program} {W : World} {n0 n1 n2 : String} {g0 g1 g2 : Nat} {t : TypeId} {ms : Array (String × TypeId)} {x0 x1 x2 : Value}
    (hi : P.underlying t = some (.interface ms))
    (hg0 : P.globalNamed n0 = some g0) (ht0 : (P.globals[g0]?).map (·.type) = some t) (h0 : W.var? P n0 = some #[x0]) (i0 : IsIface x0)
    (hg1 : P.globalNamed n1 = some g1) (ht1 : (P.globals[g1]?).map (·.type) = some t) (h1 : W.var? P n1 = some #[x1]) (i1 : IsIface x1)
    (hg2 : P.globalNamed n2 = some g2) (ht2 : (P.globals[g2]?).map (·.type) = some t) (h2 : W.var? P n2 = some #[x2]) (i2 : IsIface x2) (sp : Nat → Bool) :
    DataW.TrodVars enc P W sp [n0, n1, n2] [tok enc x0, tok enc x1, tok enc x2] [.cell g0 0, .cell g1 0, .cell g2 0] :=
  ⟨g0, t, #[x0], 1, [], [.cell g1 0, .cell g2 0], hg0, ht0, h0, trod_held hi i0 0, ⟨g1, t, #[x1], 1, [], [.cell g2 0], hg1, ht1, h1, trod_held hi i1 0, ⟨g2, t, #[x2], 1, [], [], hg2, ht2, h2, trod_held hi i2 0, rfl, rfl⟩, rfl⟩, rfl⟩

/-! ### Closed facts -/
abbrev vN : String := Rows.fnWrongMagicWrapsGivenSentinelSpec.vars.getD 0 ""
abbrev vD : String := Rows.fnWrongMagicWrapsGivenSentinelSpec.vars.getD 1 ""
abbrev vU : String := Rows.fnWrongMagicWrapsGivenSentinelSpec.vars.getD 2 ""
theorem own : ownKnob Tryf.prog.godebug = none := by kernel_rfl
theorem laidOut : laidOutB Tryf.pinned.checked.prog = true := by kernel_rfl
theorem stopsAre : Tryf.pinned.checked.prog.stops = Rows.fnWrongMagicWrapsGivenSentinelRow.stops := by kernel_rfl
theorem stopKnobs : Tryf.pinned.checked.prog.stopKnobs = [] := by kernel_rfl
theorem quietAll (os : Os) : Stop.quiet Tryf.pinned.checked.prog os := by
  intro k hk
  rw [stopKnobs] at hk
  cases hk
theorem gN : Tryf.prog.globalNamed vN = some 0 := by kernel_rfl
theorem gD : Tryf.prog.globalNamed vD = some 1 := by kernel_rfl
theorem gU : Tryf.prog.globalNamed vU = some 2 := by kernel_rfl
theorem gT0 : (Tryf.prog.globals[0]?).map (·.type) = some 26 := by kernel_rfl
theorem gT1 : (Tryf.prog.globals[1]?).map (·.type) = some 26 := by kernel_rfl
theorem gT2 : (Tryf.prog.globals[2]?).map (·.type) = some 26 := by kernel_rfl
theorem cells53 : Tryf.prog.cellsOf 53 = 1 := by kernel_rfl
theorem cells9 : Tryf.prog.cellsOf 9 = 1 := by kernel_rfl
theorem star : "*" ++ "errors.errorString" = "*errors.errorString" := by decide
theorem row51 (u : TypeId) (h : Tryf.prog.typeName? 3 u = some "*errors.errorString") : u = 51 :=
  typeName_ptr_named (nm := "errors.errorString") (by rw [star]; kernel_rfl) (by kernel_rfl) (by decide) u (by rw [star]; exact h)

/-! ### A start that fits -/
theorem laid_met (os : Os) (args : Array Value) : laidMet Tryf.prog Rows.fnWrongMagicWrapsGivenSentinelRow.laid
    (({ (World.holding Tryf.prog os ⟨#[.cells #[.string ⟨#[110, 111, 116, 32, 97, 32, 112, 97, 99, 107, 102, 105, 108, 101]⟩] 53, .cells #[.string ⟨#[100, 97, 109, 97, 103, 101, 100]⟩] 53, .cells #[.string ⟨#[117, 110, 115, 117, 112, 112, 111, 114, 116, 101, 100]⟩] 53], #[], []⟩) with heap := ((((World.holding Tryf.prog os ⟨#[.cells #[.string ⟨#[110, 111, 116, 32, 97, 32, 112, 97, 99, 107, 102, 105, 108, 101]⟩] 53, .cells #[.string ⟨#[100, 97, 109, 97, 103, 101, 100]⟩] 53, .cells #[.string ⟨#[117, 110, 115, 117, 112, 112, 111, 114, 116, 101, 100]⟩] 53], #[], []⟩).heap.modify 0 fun | .cells _ t frozen => .cells #[.iface 51 (.pointer (some ⟨(World.holding Tryf.prog default ⟨#[], #[], []⟩).heap.size, 0, none⟩))] t frozen | o => o).modify 1 fun | .cells _ t frozen => .cells #[.iface 51 (.pointer (some ⟨(World.holding Tryf.prog default ⟨#[], #[], []⟩).heap.size + 1, 0, none⟩))] t frozen | o => o).modify 2 fun | .cells _ t frozen => .cells #[.iface 51 (.pointer (some ⟨(World.holding Tryf.prog default ⟨#[], #[], []⟩).heap.size + 2, 0, none⟩))] t frozen | o => o) } : World).forCall (fun _ _ => 0) ⟨#[], args, []⟩).memory :=
  laidMet_of_run (ps := [.cell 0 0, .cell ((World.holding Tryf.prog default ⟨#[], #[], []⟩).heap.size) 0, .cell 1 0, .cell (((World.holding Tryf.prog default ⟨#[], #[], []⟩).heap.size) + 1) 0, .cell 2 0, .cell (((World.holding Tryf.prog default ⟨#[], #[], []⟩).heap.size) + 2) 0]) 8 (by kernel_rfl) (by kernel_rfl) (by kernel_rfl)

theorem var_drewN {W : World} {n : String} {cs : Array Value} (k : Nat) (h : W.var? Tryf.prog n = some cs) : (W.drewN k).var? Tryf.prog n = some cs := h

set_option maxRecDepth 100000 in
theorem law_lifted (os : Os) (started : os.Started) (H : Type) (enc : TypeId × Value → H) :
    ReturnsInTold none {} Tryf.checked os 3 .any Input.okWide ((OpenSpec.ofChange Rows.fnWrongMagicWrapsGivenSentinelSpec).preRow enc Tryf.prog Tryf.f3 [] false Rows.fnWrongMagicWrapsGivenSentinelRow.laid)
      (fun F => ((OpenSpec.ofChange Rows.fnWrongMagicWrapsGivenSentinelSpec).at F).post enc Tryf.prog Tryf.f3 false true false false) (aloneAtReturn Tryf.prog) nothingAlways := by
  refine returnsInTold_of_row (C := Tryf.checked) (s := OpenSpec.ofChange Rows.fnWrongMagicWrapsGivenSentinelSpec) (by kernel_rfl) own started (by kernel_rfl) Tryf.func3
    (OpenSpec.witness_stopped_at (enc := enc) (C := Tryf.checked) false ({ (World.holding Tryf.prog os ⟨#[.cells #[.string ⟨#[110, 111, 116, 32, 97, 32, 112, 97, 99, 107, 102, 105, 108, 101]⟩] 53, .cells #[.string ⟨#[100, 97, 109, 97, 103, 101, 100]⟩] 53, .cells #[.string ⟨#[117, 110, 115, 117, 112, 112, 111, 114, 116, 101, 100]⟩] 53], #[], []⟩) with heap := ((((World.holding Tryf.prog os ⟨#[.cells #[.string ⟨#[110, 111, 116, 32, 97, 32, 112, 97, 99, 107, 102, 105, 108, 101]⟩] 53, .cells #[.string ⟨#[100, 97, 109, 97, 103, 101, 100]⟩] 53, .cells #[.string ⟨#[117, 110, 115, 117, 112, 112, 111, 114, 116, 101, 100]⟩] 53], #[], []⟩).heap.modify 0 fun | .cells _ t frozen => .cells #[.iface 51 (.pointer (some ⟨(World.holding Tryf.prog default ⟨#[], #[], []⟩).heap.size, 0, none⟩))] t frozen | o => o).modify 1 fun | .cells _ t frozen => .cells #[.iface 51 (.pointer (some ⟨(World.holding Tryf.prog default ⟨#[], #[], []⟩).heap.size + 1, 0, none⟩))] t frozen | o => o).modify 2 fun | .cells _ t frozen => .cells #[.iface 51 (.pointer (some ⟨(World.holding Tryf.prog default ⟨#[], #[], []⟩).heap.size + 2, 0, none⟩))] t frozen | o => o) } : World) #[.int .u8 0, .string ⟨#[]⟩] rfl (by kernel_rfl) (by kernel_rfl) (by kernel_rfl)
      (OpenSpec.preRow_of_B rfl 8 (by kernel_rfl) (by kernel_rfl) (laid_met os _))) ?_
  intro F W base args ds gs before _ hF hval0 hW _ _ _ hL0 _
  have hval : ∀ (j : Nat) t v, Tryf.f3.params[j]? = some t → args[j]? = some v → Value.okWide Tryf.prog W .any base t v := hval0
  have hW' := hW
  obtain ⟨p, q, hA0, hV0, rfl, hfz, hnd⟩ := hW
  have hA : DataW.TrodAll enc Tryf.prog W 0 (fun _ => true) true Tryf.f3.params.toList args.toList ds p := hA0
  have hV : DataW.TrodVars enc Tryf.prog W (fun _ => true) [vN, vD, vU] gs q := hV0
  rw [Tryf.params3] at hA hval
  obtain ⟨v0, v1, d0, d1, p0, p1, rfl, rfl, rfl, h0, h1⟩ := trodAll_two hA
  obtain ⟨x, rfl, rfl, rfl, wx⟩ := open_int Tryf.underlying5 (hval 0 5 v0 rfl rfl) h0
  obtain ⟨m, rfl, rfl, rfl, hm⟩ := open_string Tryf.underlying9 (hval 1 9 v1 rfl rfl) h1
  have hL : laidMet Tryf.prog [(vN, .iface "*errors.errorString" (.ptr (.agg [.lit (.string [110, 111, 116, 32, 97, 32, 112, 97, 99, 107, 102, 105, 108, 101])]))),
    (vD, .iface "*errors.errorString" (.ptr (.agg [.lit (.string [100, 97, 109, 97, 103, 101, 100])]))), (vU, .iface "*errors.errorString" (.ptr (.agg [.lit (.string [117, 110, 115, 117, 112, 112, 111, 114, 116, 101, 100])])))] W := hL0
  obtain ⟨a0, a1, a2, s0, s1, s2, c0, c1, c2, t0, t1, t2, hv0, hv1, hv2, hc0, hc1, hc2, n01, n02, n12, hb0, hb1, hb2⟩ :=
    laid_sentinels3 hL gN gT0 gD gT1 gU gT2 Tryf.underlying26 row51 Tryf.underlying51 Tryf.underlying53 rfl rfl Tryf.underlying9 cells53 cells9
  have vr : ∀ {X : World}, X.var? Tryf.prog vN = some #[.iface 51 (.pointer (some a0))] → X.var? Tryf.prog vD = some #[.iface 51 (.pointer (some a1))] → X.var? Tryf.prog vU = some #[.iface 51 (.pointer (some a2))] → ∀ sp : Nat → Bool,
      DataW.TrodVars enc Tryf.prog X sp [vN, vD, vU] [tok enc (.iface 51 (.pointer (some a0))), tok enc (.iface 51 (.pointer (some a1))), tok enc (.iface 51 (.pointer (some a2)))] [.cell 0 0, .cell 1 0, .cell 2 0] :=
    fun x0 x1 x2 sp => vars_read3 enc Tryf.underlying26 gN gT0 x0 trivial gD gT1 x1 trivial gU gT2 x2 trivial sp
  obtain ⟨rfl, rfl⟩ := hV.unique (vr hv0 hv1 hv2 _)
  clear hA0 hV0 hval0 hL0
  have hg0 : W.cell? ⟨0, 0, none⟩ = some (.iface 51 (.pointer (some a0))) := by simpa using World.var?_cell gN hv0 0
  have hg1 : W.cell? ⟨1, 0, none⟩ = some (.iface 51 (.pointer (some a1))) := by simpa using World.var?_cell gD hv1 0
  have hg2 : W.cell? ⟨2, 0, none⟩ = some (.iface 51 (.pointer (some a2))) := by simpa using World.var?_cell gU hv2 0
  have hx : 0 ≤ x ∧ x ≤ 255 := by
    have := wx
    simp [Lit.wf, IntKind.min, IntKind.max, IntKind.signed, IntKind.bits] at this
    omega
  refine (law_calls F.told s0 s1 s2 m W a0 a1 a2 c0 c1 c2 t0 t1 t2 x hx.1 hx.2 hm hF ⟨hg0, hg1, hg2, hb0, hb1, hb2, n01, n02, n12⟩ hc0 hc1 hc2).mono ?_
  rintro e W' ⟨rfl, rfl | ⟨a, s, n, rfl⟩⟩
  · refine ⟨_, rfl, _, _, _, [], [], [.cell 0 0, .cell 1 0, .cell 2 0], hW', ?_, ?_, ?_, World.keptBut_refl _ _, fun h => by cases h⟩
    · exact trodAll_mk1 (shut_bool Tryf.underlying4 true)
    · exact trodAll_mk2 (shut_int Tryf.underlying5 wx) (shut_string Tryf.underlying9 hm)
    · exact vr hv0 hv1 hv2 _
  · have hx : W.Extends (wrapWorld F.told a s m W) := (((World.Extends.refl W).alloc _).alloc _).drew
    refine ⟨_, rfl, _, _, _, [], [], [.cell 0 0, .cell 1 0, .cell 2 0], hW', ?_, ?_, ?_, World.keptBut_mono (fun _ h => h.elim) (World.keptBut_none_iff.2 ⟨hx.os, hx.output, hx.block⟩), fun h => by cases h⟩
    · exact trodAll_mk1 (shut_bool Tryf.underlying4 true)
    · exact trodAll_mk2 (shut_int Tryf.underlying5 wx) (shut_string Tryf.underlying9 hm)
    · exact vr (var_drewN n (var?_drew (var?_alloc (var?_alloc hv0)))) (var_drewN n (var?_drew (var?_alloc (var?_alloc hv1)))) (var_drewN n (var?_drew (var?_alloc (var?_alloc hv2)))) _

/-- THE CARD. -/
theorem fnWrongMagicWrapsGivenSentinel_told : Rows.FnWrongMagicWrapsGivenSentinelToldSaid :=
  Claim7.holds_of_told_tied_any_at .later 3 Tryf.f3 "fmt.errorf" [] [] _ _ _ _ _ (by kernel_rfl) rfl rfl rfl laidOut (by kernel_rfl) rfl ⟨rfl, rfl, rfl, rfl, rfl, rfl, rfl⟩ rfl rfl (by kernel_rfl) (by kernel_rfl) Tryf.func3 (by kernel_rfl)
    (of_decide_eq_true (by kernel_rfl)) (of_decide_eq_true (by kernel_rfl)) stopsAre.symm rfl stopKnobs.symm (by kernel_rfl)
    (by kernel_rfl) (by kernel_rfl) (by kernel_rfl) (by kernel_rfl) (by kernel_rfl) (by kernel_rfl) (by kernel_rfl) (by kernel_rfl) (by kernel_rfl) rfl (by kernel_rfl) rfl rfl
    rfl rfl
    rfl (by kernel_rfl) (by kernel_rfl) (by kernel_rfl) (by decide) (by kernel_rfl) fnWrongMagicWrapsGivenSentinel_row_tie
    (OpenClaim.moreEntering_of (by kernel_rfl) (by kernel_rfl) (by kernel_rfl) (by kernel_rfl) (by kernel_rfl) (by kernel_rfl) (by kernel_rfl) (by kernel_rfl) (by kernel_rfl) (by kernel_rfl))
    ⟨_, WideRow.started_initial, quietAll _⟩
    (fun os started _ H enc _ => law_lifted os started H enc)

end Go.Proofs.Qxb6605873aFmt
