/-
  strings.Join (11) and strconv.Itoa (10) by the shelf's contracts, laid at this dump (the layings as the kit's lay-shelf and lay-plain print them).
-/
import Derived.Shelf.Strings.OnBuilder
import Derived.Shelf.LaysM
import Derived.Shelf.Strconv.Itoa3
import Derived.Test.Qxb6605953aDoorRows
namespace Go.Proofs.Qxb6605953aDoor
open Go.Shelf
def lays156_ren : Go.Shelf.Ren := ⟨fun | 156 => 11 | 165 => 13 | 166 => 14 | 169 => 15 | 240 => 17 | 241 => 18 | 276 => 23 | 277 => 24 | n => n, fun | 31 => 33 | 9 => 9 | 3 => 3 | 4 => 4 | 0 => 0 | 20 => 20 | 72 => 39 | 76 => 43 | 70 => 37 | 37 => 36 | 75 => 42 | 127 => 47 | 164 => 53 | 5 => 5 | 80 => 45 | n => n, fun | n => n⟩
theorem lays156 : Go.Proofs.Lays.n156 Tryd.prog lays156_ren := {
  mixed := by kernel_rfl
  f156 := Tryd.func11.trans (congrArg some (by kernel_rfl))
  f165 := Tryd.func13.trans (congrArg some (by kernel_rfl))
  f166 := Tryd.func14.trans (congrArg some (by kernel_rfl))
  f169 := Tryd.func15.trans (congrArg some (by kernel_rfl))
  f240 := Tryd.func17.trans (congrArg some (by kernel_rfl))
  f241 := Tryd.func18.trans (congrArg some (by kernel_rfl))
  f276 := Tryd.func23.trans (congrArg some (by kernel_rfl))
  f277 := Tryd.func24.trans (congrArg some (by kernel_rfl))
  t0 := Tryd.underlying0
  a0 := Tryd.isAgg0
  z0 := Tryd.sizeOf0
  v0 := Tryd.zeroValue0
  t3 := Tryd.underlying3
  a3 := Tryd.isAgg3
  z3 := Tryd.sizeOf3
  v3 := Tryd.zeroValue3
  t4 := Tryd.underlying4
  a4 := Tryd.isAgg4
  z4 := Tryd.sizeOf4
  v4 := Tryd.zeroValue4
  t9 := Tryd.underlying9
  a9 := Tryd.isAgg9
  z9 := Tryd.sizeOf9
  v9 := Tryd.zeroValue9
  t20 := Tryd.underlying20
  a20 := Tryd.isAgg20
  z20 := Tryd.sizeOf20
  v20 := Tryd.zeroValue20
  t31 := Tryd.underlying33
  a31 := Tryd.isAgg33
  z31 := Tryd.sizeOf33
  v31 := Tryd.zeroValue33
  t37 := Tryd.underlying36
  a37 := Tryd.isAgg36
  z37 := Tryd.sizeOf36
  v37 := Tryd.zeroValue36
  t70 := Tryd.underlying37
  a70 := Tryd.isAgg37
  z70 := Tryd.sizeOf37
  v70 := Tryd.zeroValue37
  t72 := Tryd.underlying39
  a72 := Tryd.isAgg39
  z72 := Tryd.sizeOf39
  v72 := Tryd.zeroValue39
  t75 := Tryd.underlying42
  a75 := Tryd.isAgg42
  z75 := Tryd.sizeOf42
  v75 := Tryd.zeroValue42
  t76 := Tryd.underlying43
  a76 := Tryd.isAgg43
  z76 := Tryd.sizeOf43
  v76 := Tryd.zeroValue43
  t127 := Tryd.underlying47
  a127 := Tryd.isAgg47
  z127 := Tryd.sizeOf47
  v127 := Tryd.zeroValue47
  t164 := Tryd.underlying53
  a164 := Tryd.isAgg53
  z164 := Tryd.sizeOf53
  v164 := Tryd.zeroValue53 }
theorem Builder_Extra_156 : Builder.Extra Tryd.prog lays156_ren := {
  sizeBuilder := by kernel_rfl
  liesBuilder := by kernel_rfl
  t5 := Tryd.underlying5
  a5 := Tryd.isAgg5
  z5 := Tryd.sizeOf5
  v5 := Tryd.zeroValue5
  infoByte := by kernel_rfl
  cellsByte := by kernel_rfl
  sizeByte := by kernel_rfl
  neB5 := by decide }
open Go.RowKit in
/-- No element: the empty string; the world is as it was. (Whatever the slice's address and capacity: a nil slice too.) (LAID: no walk: one application.) -/
theorem strings_Join_none (a : Option Addr) (c : Nat) (sep : ByteArray) (w : World) :
    Calls Tryd.prog 11 #[.slice a 0 c, .string sep] w fun e w' => e = .returned (.string ⟨#[]⟩) ∧ w' = w := Any.strings_Join_none lays156 Builder_Extra_156 a c sep w
open Go.RowKit in
/-- strings.Join: "Join concatenates the elements of its first argument to create a single string. The separator string sep is placed between elements in the resulting string.": HOWEVER MANY ELEMENTS. Below the heap's end the world is as it was. (LAID: no walk: one application.) -/
theorem strings_Join (bk o c : Nat) (xs : List ByteArray) (sep : ByteArray) (w : World) (hcells : ∀ (j : Nat) x, xs[j]? = some x → w.cell? ⟨bk, o + j, none⟩ = some (.string x)) (hbk : bk < w.heap.size) (hN : xs.length ≤ 140737488355328) (hcap : xs.length ≤ c) (hlen : (Lib.join (xs.map (·.data.toList)) sep.data.toList).length ≤ 140737488355328) :
    Calls Tryd.prog 11 #[.slice (some ⟨bk, o, none⟩) xs.length c, .string sep] w fun e w' => e = .returned (.string ⟨(Lib.join (xs.map (·.data.toList)) sep.data.toList).toArray⟩) ∧ Below w.heap.size w w' := Any.strings_Join lays156 Builder_Extra_156 bk o c xs sep w hcells hbk hN hcap hlen
def laysM171_ren : Go.Shelf.Ren := ⟨fun | 171 => 10 | 243 => 12 | 246 => 16 | 283 => 19 | 284 => 20 | 285 => 21 | 286 => 22 | 129 => 26 | 317 => 25 | 318 => 27 | 319 => 28 | 320 => 29 | 337 => 30 | 338 => 31 | n => n, fun | 3 => 3 | 9 => 9 | 2 => 2 | 4 => 4 | 171 => 35 | 0 => 0 | 53 => 48 | 37 => 36 | 5 => 5 | 173 => 51 | 212 => 58 | 51 => 59 | 20 => 20 | 213 => 60 | 46 => 31 | 232 => 64 | 233 => 65 | n => n, fun | 17 => 0 | 18 => 2 | 19 => 3 | n => n⟩
theorem laysM171 : Go.Proofs.LaysM.n171 Tryd.prog laysM171_ren := {
  mixed := by kernel_rfl
  f129 := Tryd.func26.trans (congrArg some (by kernel_rfl))
  f171 := Tryd.func10.trans (congrArg some (by kernel_rfl))
  f243 := Tryd.func12.trans (congrArg some (by kernel_rfl))
  f246 := Tryd.func16.trans (congrArg some (by kernel_rfl))
  f283 := Tryd.func19.trans (congrArg some (by kernel_rfl))
  f284 := Tryd.func20.trans (congrArg some (by kernel_rfl))
  f285 := Tryd.func21.trans (congrArg some (by kernel_rfl))
  f286 := Tryd.func22.trans (congrArg some (by kernel_rfl))
  f317 := Tryd.func25.trans (congrArg some (by kernel_rfl))
  f318 := Tryd.func27.trans (congrArg some (by kernel_rfl))
  f319 := Tryd.func28.trans (congrArg some (by kernel_rfl))
  f320 := Tryd.func29.trans (congrArg some (by kernel_rfl))
  f337 := Tryd.func30.trans (congrArg some (by kernel_rfl))
  f338 := Tryd.func31.trans (congrArg some (by kernel_rfl))
  t0 := Tryd.underlying0
  a0 := Tryd.isAgg0
  z0 := Tryd.sizeOf0
  v0 := Tryd.zeroValue0
  t2 := Tryd.underlying2
  a2 := Tryd.isAgg2
  z2 := Tryd.sizeOf2
  v2 := Tryd.zeroValue2
  t3 := Tryd.underlying3
  a3 := Tryd.isAgg3
  z3 := Tryd.sizeOf3
  v3 := Tryd.zeroValue3
  t4 := Tryd.underlying4
  a4 := Tryd.isAgg4
  z4 := Tryd.sizeOf4
  v4 := Tryd.zeroValue4
  t5 := Tryd.underlying5
  a5 := Tryd.isAgg5
  z5 := Tryd.sizeOf5
  v5 := Tryd.zeroValue5
  t9 := Tryd.underlying9
  a9 := Tryd.isAgg9
  z9 := Tryd.sizeOf9
  v9 := Tryd.zeroValue9
  t20 := Tryd.underlying20
  a20 := Tryd.isAgg20
  z20 := Tryd.sizeOf20
  v20 := Tryd.zeroValue20
  t37 := Tryd.underlying36
  a37 := Tryd.isAgg36
  z37 := Tryd.sizeOf36
  v37 := Tryd.zeroValue36
  t46 := Tryd.underlying31
  a46 := Tryd.isAgg31
  z46 := Tryd.sizeOf31
  v46 := Tryd.zeroValue31
  t51 := Tryd.underlying59
  a51 := Tryd.isAgg59
  z51 := Tryd.sizeOf59
  v51 := Tryd.zeroValue59
  t53 := Tryd.underlying48
  a53 := Tryd.isAgg48
  z53 := Tryd.sizeOf48
  v53 := Tryd.zeroValue48
  t171 := Tryd.underlying35
  a171 := Tryd.isAgg35
  z171 := Tryd.sizeOf35
  v171 := Tryd.zeroValue35
  t173 := Tryd.underlying51
  a173 := Tryd.isAgg51
  z173 := Tryd.sizeOf51
  v173 := Tryd.zeroValue51
  t212 := Tryd.underlying58
  a212 := Tryd.isAgg58
  z212 := Tryd.sizeOf58
  v212 := Tryd.zeroValue58
  t213 := Tryd.underlying60
  a213 := Tryd.isAgg60
  z213 := Tryd.sizeOf60
  t232 := Tryd.underlying64
  a232 := Tryd.isAgg64
  z232 := Tryd.sizeOf64
  v232 := Tryd.zeroValue64
  t233 := Tryd.underlying65
  a233 := Tryd.isAgg65
  z233 := Tryd.sizeOf65
  v233 := Tryd.zeroValue65
  g17 := by kernel_rfl
  g18 := by kernel_rfl
  g19 := by kernel_rfl
  i0 := by kernel_rfl
  i2 := by kernel_rfl
  i3 := by kernel_rfl
  i4 := by kernel_rfl
  i5 := by kernel_rfl
  i9 := by kernel_rfl
  i20 := by kernel_rfl
  i37 := by kernel_rfl
  i46 := by kernel_rfl
  i51 := by kernel_rfl
  i53 := by kernel_rfl
  i171 := by kernel_rfl
  i173 := by kernel_rfl
  i212 := by kernel_rfl
  i232 := by kernel_rfl
  i233 := by kernel_rfl
  m17 := by kernel_rfl
  m18 := by kernel_rfl
  m19 := by kernel_rfl }
open Go.RowKit Go.Sort Go.Lib in
/-- strconv.Itoa: "Itoa is equivalent to FormatInt(int64(i), 10).": i's DECIMAL NUMERAL ('Lib.itoa': a '-' where i is negative, then the digits), FOR EVERY int. The world behind the call: the world before it, new blocks behind the heap (the library's 'var a [24]byte'), draws. (LAID: no walk: one application.) -/
theorem strconv_Itoa (n : Int) (h0 : -9223372036854775808 ≤ n) (h1 : n ≤ 9223372036854775807) (w : World) (htab : Lib.TabIs Tryd.prog w "internal/strconv.uint64pow10" .u64 Lib.pow10Tab) :
    Calls Tryd.prog 10 #[.int .i64 n] w fun e w' => e = .returned (.string ⟨(Lib.itoa n).toArray⟩) ∧ ∃ k os, w' = grow (w.drewN k) os := Any.strconv_Itoa laysM171 n h0 h1 w htab
end Go.Proofs.Qxb6605953aDoor
