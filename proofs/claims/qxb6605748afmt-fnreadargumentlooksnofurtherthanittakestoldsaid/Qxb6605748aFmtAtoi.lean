/-
  strconv.Atoi (19) by the shelf's contracts, laid at this dump (the laying as the kit's lay-shelf and lay-plain print it), in one statement.
-/
import Derived.Shelf.LaysC
import Derived.Shelf.Strconv.AtoiAll
import Derived.Lib.AtoiAll
import Derived.Test.Qxb6605748aFmtRows
namespace Go.Proofs.Qxb6605748aFmt
open Go.Shelf Go.RowKit
def laysC172_ren : Go.Shelf.Ren := ⟨fun | 172 => 19 | 244 => 23 | 245 => 24 | 247 => 25 | 279 => 26 | 280 => 27 | 281 => 28 | 282 => 29 | 287 => 30 | 316 => 31 | 171 => 33 | 205 => 32 | 321 => 34 | 322 => 35 | 243 => 36 | 246 => 37 | 283 => 38 | 284 => 39 | 285 => 40 | 286 => 41 | 129 => 43 | 317 => 42 | 318 => 44 | 319 => 45 | 320 => 46 | 337 => 47 | 338 => 48 | n => n, fun | 9 => 9 | 3 => 3 | 75 => 29 | 76 => 50 | 4 => 4 | 5 => 5 | 167 => 59 | 37 => 60 | 0 => 0 | 85 => 61 | 2 => 2 | 168 => 63 | 53 => 66 | 175 => 67 | 46 => 69 | 210 => 72 | 127 => 77 | 145 => 80 | 143 => 78 | 21 => 21 | 171 => 82 | 173 => 85 | 212 => 89 | 51 => 90 | 20 => 20 | 213 => 91 | 232 => 95 | 233 => 96 | 80 => 47 | n => n, fun | 15 => 0 | 16 => 1 | 17 => 2 | 18 => 3 | 19 => 4 | n => n⟩
theorem laysC172 : Go.Proofs.LaysC.n172 Tryf.prog laysC172_ren := {
  mixed := by kernel_rfl
  f129 := Tryf.func43.trans (congrArg some (by kernel_rfl))
  f171 := Tryf.func33.trans (congrArg some (by kernel_rfl))
  f172 := Tryf.func19.trans (congrArg some (by kernel_rfl))
  f205 := Tryf.func32.trans (congrArg some (by kernel_rfl))
  f243 := Tryf.func36.trans (congrArg some (by kernel_rfl))
  f244 := Tryf.func23.trans (congrArg some (by kernel_rfl))
  f245 := Tryf.func24.trans (congrArg some (by kernel_rfl))
  f246 := Tryf.func37.trans (congrArg some (by kernel_rfl))
  f247 := Tryf.func25.trans (congrArg some (by kernel_rfl))
  f279 := Tryf.func26.trans (congrArg some (by kernel_rfl))
  f280 := Tryf.func27.trans (congrArg some (by kernel_rfl))
  f281 := Tryf.func28.trans (congrArg some (by kernel_rfl))
  f282 := Tryf.func29.trans (congrArg some (by kernel_rfl))
  f283 := Tryf.func38.trans (congrArg some (by kernel_rfl))
  f284 := Tryf.func39.trans (congrArg some (by kernel_rfl))
  f285 := Tryf.func40.trans (congrArg some (by kernel_rfl))
  f286 := Tryf.func41.trans (congrArg some (by kernel_rfl))
  f287 := Tryf.func30.trans (congrArg some (by kernel_rfl))
  f316 := Tryf.func31.trans (congrArg some (by kernel_rfl))
  f317 := Tryf.func42.trans (congrArg some (by kernel_rfl))
  f318 := Tryf.func44.trans (congrArg some (by kernel_rfl))
  f319 := Tryf.func45.trans (congrArg some (by kernel_rfl))
  f320 := Tryf.func46.trans (congrArg some (by kernel_rfl))
  f321 := Tryf.func34.trans (congrArg some (by kernel_rfl))
  f322 := Tryf.func35.trans (congrArg some (by kernel_rfl))
  f337 := Tryf.func47.trans (congrArg some (by kernel_rfl))
  f338 := Tryf.func48.trans (congrArg some (by kernel_rfl))
  t0 := Tryf.underlying0
  a0 := Tryf.isAgg0
  z0 := Tryf.sizeOf0
  v0 := Tryf.zeroValue0
  t2 := Tryf.underlying2
  a2 := Tryf.isAgg2
  z2 := Tryf.sizeOf2
  v2 := Tryf.zeroValue2
  t3 := Tryf.underlying3
  a3 := Tryf.isAgg3
  z3 := Tryf.sizeOf3
  v3 := Tryf.zeroValue3
  t4 := Tryf.underlying4
  a4 := Tryf.isAgg4
  z4 := Tryf.sizeOf4
  v4 := Tryf.zeroValue4
  t5 := Tryf.underlying5
  a5 := Tryf.isAgg5
  z5 := Tryf.sizeOf5
  v5 := Tryf.zeroValue5
  t9 := Tryf.underlying9
  a9 := Tryf.isAgg9
  z9 := Tryf.sizeOf9
  v9 := Tryf.zeroValue9
  t20 := Tryf.underlying20
  a20 := Tryf.isAgg20
  z20 := Tryf.sizeOf20
  v20 := Tryf.zeroValue20
  t21 := Tryf.underlying21
  a21 := Tryf.isAgg21
  z21 := Tryf.sizeOf21
  v21 := Tryf.zeroValue21
  t37 := Tryf.underlying60
  a37 := Tryf.isAgg60
  z37 := Tryf.sizeOf60
  v37 := Tryf.zeroValue60
  t46 := Tryf.underlying69
  a46 := Tryf.isAgg69
  z46 := Tryf.sizeOf69
  v46 := Tryf.zeroValue69
  t51 := Tryf.underlying90
  a51 := Tryf.isAgg90
  z51 := Tryf.sizeOf90
  v51 := Tryf.zeroValue90
  t53 := Tryf.underlying66
  a53 := Tryf.isAgg66
  z53 := Tryf.sizeOf66
  v53 := Tryf.zeroValue66
  t75 := Tryf.underlying29
  a75 := Tryf.isAgg29
  z75 := Tryf.sizeOf29
  v75 := Tryf.zeroValue29
  t76 := Tryf.underlying50
  a76 := Tryf.isAgg50
  z76 := Tryf.sizeOf50
  v76 := Tryf.zeroValue50
  t85 := Tryf.underlying61
  a85 := Tryf.isAgg61
  z85 := Tryf.sizeOf61
  v85 := Tryf.zeroValue61
  t127 := Tryf.underlying77
  a127 := Tryf.isAgg77
  z127 := Tryf.sizeOf77
  v127 := Tryf.zeroValue77
  t143 := Tryf.underlying78
  a143 := Tryf.isAgg78
  z143 := Tryf.sizeOf78
  v143 := Tryf.zeroValue78
  t145 := Tryf.underlying80
  a145 := Tryf.isAgg80
  z145 := Tryf.sizeOf80
  v145 := Tryf.zeroValue80
  t167 := Tryf.underlying59
  a167 := Tryf.isAgg59
  z167 := Tryf.sizeOf59
  v167 := Tryf.zeroValue59
  t168 := Tryf.underlying63
  a168 := Tryf.isAgg63
  z168 := Tryf.sizeOf63
  v168 := Tryf.zeroValue63
  t171 := Tryf.underlying82
  a171 := Tryf.isAgg82
  z171 := Tryf.sizeOf82
  v171 := Tryf.zeroValue82
  t173 := Tryf.underlying85
  a173 := Tryf.isAgg85
  z173 := Tryf.sizeOf85
  v173 := Tryf.zeroValue85
  t175 := Tryf.underlying67
  a175 := Tryf.isAgg67
  z175 := Tryf.sizeOf67
  v175 := Tryf.zeroValue67
  t210 := Tryf.underlying72
  a210 := Tryf.isAgg72
  z210 := Tryf.sizeOf72
  v210 := Tryf.zeroValue72
  t212 := Tryf.underlying89
  a212 := Tryf.isAgg89
  z212 := Tryf.sizeOf89
  v212 := Tryf.zeroValue89
  t213 := Tryf.underlying91
  a213 := Tryf.isAgg91
  z213 := Tryf.sizeOf91
  t232 := Tryf.underlying95
  a232 := Tryf.isAgg95
  z232 := Tryf.sizeOf95
  v232 := Tryf.zeroValue95
  t233 := Tryf.underlying96
  a233 := Tryf.isAgg96
  z233 := Tryf.sizeOf96
  v233 := Tryf.zeroValue96
  g15 := by kernel_rfl
  g16 := by kernel_rfl
  g17 := by kernel_rfl
  g18 := by kernel_rfl
  g19 := by kernel_rfl
  t80 := Tryf.underlying47
  a80 := Tryf.isAgg47
  z80 := Tryf.sizeOf47
  v80 := Tryf.zeroValue47
  i0 := by kernel_rfl
  i2 := by kernel_rfl
  i3 := by kernel_rfl
  i4 := by kernel_rfl
  i5 := by kernel_rfl
  i9 := by kernel_rfl
  i20 := by kernel_rfl
  i21 := by kernel_rfl
  i37 := by kernel_rfl
  i46 := by kernel_rfl
  i51 := by kernel_rfl
  i53 := by kernel_rfl
  i75 := by kernel_rfl
  i76 := by kernel_rfl
  i80 := by kernel_rfl
  i85 := by kernel_rfl
  i127 := by kernel_rfl
  i143 := by kernel_rfl
  i145 := by kernel_rfl
  i167 := by kernel_rfl
  i168 := by kernel_rfl
  i171 := by kernel_rfl
  i173 := by kernel_rfl
  i175 := by kernel_rfl
  i210 := by kernel_rfl
  i212 := by kernel_rfl
  i232 := by kernel_rfl
  i233 := by kernel_rfl
  m15 := by kernel_rfl
  m16 := by kernel_rfl
  m17 := by kernel_rfl
  m18 := by kernel_rfl
  m19 := by kernel_rfl
  c0 := by kernel_rfl
  c2 := by kernel_rfl
  c3 := by kernel_rfl
  c4 := by kernel_rfl
  c5 := by kernel_rfl
  c9 := by kernel_rfl
  c20 := by kernel_rfl
  c21 := by kernel_rfl
  c37 := by kernel_rfl
  c46 := by kernel_rfl
  c51 := by kernel_rfl
  c53 := by kernel_rfl
  c75 := by kernel_rfl
  c76 := by kernel_rfl
  c80 := by kernel_rfl
  c85 := by kernel_rfl
  c127 := by kernel_rfl
  c143 := by kernel_rfl
  c145 := by kernel_rfl
  c167 := by kernel_rfl
  c168 := by kernel_rfl
  c171 := by kernel_rfl
  c173 := by kernel_rfl
  c175 := by kernel_rfl
  c210 := by kernel_rfl
  c212 := by kernel_rfl
  c213 := by kernel_rfl
  c232 := by kernel_rfl
  c233 := by kernel_rfl }

/-- The number that a text spells, if it spells an int. -/
def numOf (s : ByteArray) : Option Int :=
  match Lib.atoiAll s.data.toList with
  | .ok v => some v
  | _ => none

/-- What strconv.Atoi leaves. -/
def AtoiBack (s : ByteArray) (w : World) (e : Ending) (w' : World) : Prop :=
  ∃ (v : Int) (ev : Value), e = .returned (.tuple #[.int .i64 v, ev]) ∧ Below w.heap.size w w' ∧ ((numOf s = some v ∧ ev = .nilIface) ∨ (numOf s = none ∧ ∃ p, ev = .iface 63 p))

theorem atoi_calls (s : ByteArray) (w : World) (hs : s.size ≤ 2097152) (u0 u1 : TypeId) (x0 x1 : Value) (h0 : w.cell? ⟨0, 0, none⟩ = some (.iface u0 x0)) (h1 : w.cell? ⟨1, 0, none⟩ = some (.iface u1 x1)) :
    Calls Tryf.prog 19 #[.string s] w (AtoiBack s w) := by
  cases h : Lib.atoiAll s.data.toList with
  | ok v =>
    refine Calls.mono (Any.strconv_Atoi_ok laysC172 s (by omega) v h w) ?_
    rintro e w' ⟨rfl, hw⟩
    refine ⟨v, .nilIface, rfl, ?_, Or.inl ⟨by simp [numOf, h], rfl⟩⟩
    rcases hw with rfl | ⟨t, rfl⟩
    · exact Below.refl _ _
    · exact Lib.bytesWorld_below _ _ _
  | range =>
    refine Calls.mono (Any.strconv_Atoi_range laysC172 s (by omega) h _ w h1 (Or.inr ⟨_, _, rfl⟩)) ?_
    rintro e w' ⟨N, rfl, _, _, hb⟩
    exact ⟨_, _, rfl, hb, Or.inr ⟨by simp [numOf, h], _, rfl⟩⟩
  | _ =>
    refine Calls.mono (Any.strconv_Atoi_syntax laysC172 s (by omega) h _ w h0 (Or.inr ⟨_, _, rfl⟩)) ?_
    rintro e w' ⟨N, rfl, _, _, hb⟩
    exact ⟨_, _, rfl, hb, Or.inr ⟨by simp [numOf, h], _, rfl⟩⟩
end Go.Proofs.Qxb6605748aFmt
