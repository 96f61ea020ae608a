/-
  THE SHELF's CONTRACTS OF strconv.ParseInt, strconv.FormatInt, strings.HasPrefix AT THIS DUMP, IN PLAIN WORDS (the kit's lay-shelf.mjs and lay-plain.mjs; the three layings that are used).
-/
import Derived.Shelf.LaysM
import Derived.Shelf.LaysC
import Derived.Shelf.Strconv.Itoa4
import Derived.Shelf.Strconv.ParseIntPublic10
import Derived.Shelf.Strings.Prefix
import Derived.Lib.AppendIntMem
import Derived.Lib.AtoiErrMem
import Derived.Test.Qxb6608882aDoorRows
namespace Go.Proofs
open Go.Shelf
def Tryd.laysM173_ren : Go.Shelf.Ren := ⟨fun | 173 => 21 | 246 => 25 | 283 => 32 | 284 => 33 | 285 => 34 | 286 => 35 | 129 => 48 | 317 => 47 | 318 => 49 | 319 => 50 | 320 => 51 | 337 => 59 | 338 => 60 | n => n, fun | 2 => 2 | 3 => 3 | 9 => 9 | 4 => 4 | 171 => 60 | 0 => 0 | 53 => 52 | 37 => 42 | 5 => 5 | 173 => 63 | 212 => 80 | 51 => 81 | 20 => 20 | 213 => 82 | 46 => 55 | 232 => 99 | 233 => 100 | n => n, fun | 17 => 2 | 18 => 6 | 19 => 7 | n => n⟩
theorem Tryd.laysM173 : Go.Proofs.LaysM.n173 Tryd.prog Tryd.laysM173_ren := {
  mixed := by kernel_rfl
  f129 := Tryd.func48.trans (congrArg some (by kernel_rfl))
  f173 := Tryd.func21.trans (congrArg some (by kernel_rfl))
  f246 := Tryd.func25.trans (congrArg some (by kernel_rfl))
  f283 := Tryd.func32.trans (congrArg some (by kernel_rfl))
  f284 := Tryd.func33.trans (congrArg some (by kernel_rfl))
  f285 := Tryd.func34.trans (congrArg some (by kernel_rfl))
  f286 := Tryd.func35.trans (congrArg some (by kernel_rfl))
  f317 := Tryd.func47.trans (congrArg some (by kernel_rfl))
  f318 := Tryd.func49.trans (congrArg some (by kernel_rfl))
  f319 := Tryd.func50.trans (congrArg some (by kernel_rfl))
  f320 := Tryd.func51.trans (congrArg some (by kernel_rfl))
  f337 := Tryd.func59.trans (congrArg some (by kernel_rfl))
  f338 := Tryd.func60.trans (congrArg some (by kernel_rfl))
  t0 := Tryd.underlying0
  a0 := Tryd.isAgg0
  z0 := Tryd.sizeOf0
  v0 := Tryd.zeroValue0
  t2 := Tryd.underlying2
  a2 := Tryd.isAgg2
  z2 := Tryd.sizeOf2
  v2 := Tryd.zeroValue2
  t3 := Tryd.underlying3
  a3 := Tryd.isAgg3
  z3 := Tryd.sizeOf3
  v3 := Tryd.zeroValue3
  t4 := Tryd.underlying4
  a4 := Tryd.isAgg4
  z4 := Tryd.sizeOf4
  v4 := Tryd.zeroValue4
  t5 := Tryd.underlying5
  a5 := Tryd.isAgg5
  z5 := Tryd.sizeOf5
  v5 := Tryd.zeroValue5
  t9 := Tryd.underlying9
  a9 := Tryd.isAgg9
  z9 := Tryd.sizeOf9
  v9 := Tryd.zeroValue9
  t20 := Tryd.underlying20
  a20 := Tryd.isAgg20
  z20 := Tryd.sizeOf20
  v20 := Tryd.zeroValue20
  t37 := Tryd.underlying42
  a37 := Tryd.isAgg42
  z37 := Tryd.sizeOf42
  v37 := Tryd.zeroValue42
  t46 := Tryd.underlying55
  a46 := Tryd.isAgg55
  z46 := Tryd.sizeOf55
  v46 := Tryd.zeroValue55
  t51 := Tryd.underlying81
  a51 := Tryd.isAgg81
  z51 := Tryd.sizeOf81
  v51 := Tryd.zeroValue81
  t53 := Tryd.underlying52
  a53 := Tryd.isAgg52
  z53 := Tryd.sizeOf52
  v53 := Tryd.zeroValue52
  t171 := Tryd.underlying60
  a171 := Tryd.isAgg60
  z171 := Tryd.sizeOf60
  v171 := Tryd.zeroValue60
  t173 := Tryd.underlying63
  a173 := Tryd.isAgg63
  z173 := Tryd.sizeOf63
  v173 := Tryd.zeroValue63
  t212 := Tryd.underlying80
  a212 := Tryd.isAgg80
  z212 := Tryd.sizeOf80
  v212 := Tryd.zeroValue80
  t213 := Tryd.underlying82
  a213 := Tryd.isAgg82
  z213 := Tryd.sizeOf82
  t232 := Tryd.underlying99
  a232 := Tryd.isAgg99
  z232 := Tryd.sizeOf99
  v232 := Tryd.zeroValue99
  t233 := Tryd.underlying100
  a233 := Tryd.isAgg100
  z233 := Tryd.sizeOf100
  v233 := Tryd.zeroValue100
  g17 := by kernel_rfl
  g18 := by kernel_rfl
  g19 := by kernel_rfl
  i0 := by kernel_rfl
  i2 := by kernel_rfl
  i3 := by kernel_rfl
  i4 := by kernel_rfl
  i5 := by kernel_rfl
  i9 := by kernel_rfl
  i20 := by kernel_rfl
  i37 := by kernel_rfl
  i46 := by kernel_rfl
  i51 := by kernel_rfl
  i53 := by kernel_rfl
  i171 := by kernel_rfl
  i173 := by kernel_rfl
  i212 := by kernel_rfl
  i232 := by kernel_rfl
  i233 := by kernel_rfl
  m17 := by kernel_rfl
  m18 := by kernel_rfl
  m19 := by kernel_rfl }
def Tryd.laysC174_ren : Go.Shelf.Ren := ⟨fun | 174 => 20 | 247 => 23 | 245 => 24 | 287 => 27 | 279 => 28 | 280 => 29 | 281 => 30 | 282 => 31 | 321 => 42 | 322 => 43 | 316 => 44 | 171 => 46 | 205 => 45 | 243 => 58 | 246 => 25 | 283 => 32 | 284 => 33 | 285 => 34 | 286 => 35 | 129 => 48 | 317 => 47 | 318 => 49 | 319 => 50 | 320 => 51 | 337 => 59 | 338 => 60 | n => n, fun | 9 => 9 | 3 => 3 | 2 => 2 | 75 => 44 | 85 => 45 | 4 => 4 | 167 => 51 | 5 => 5 | 53 => 52 | 175 => 53 | 46 => 55 | 168 => 56 | 37 => 42 | 0 => 0 | 210 => 76 | 21 => 21 | 127 => 87 | 145 => 90 | 143 => 88 | 171 => 60 | 173 => 63 | 212 => 80 | 51 => 81 | 20 => 20 | 213 => 82 | 232 => 99 | 233 => 100 | 80 => 35 | n => n, fun | 15 => 0 | 16 => 1 | 17 => 2 | 18 => 6 | 19 => 7 | n => n⟩
theorem Tryd.laysC174 : Go.Proofs.LaysC.n174 Tryd.prog Tryd.laysC174_ren := {
  mixed := by kernel_rfl
  f129 := Tryd.func48.trans (congrArg some (by kernel_rfl))
  f171 := Tryd.func46.trans (congrArg some (by kernel_rfl))
  f174 := Tryd.func20.trans (congrArg some (by kernel_rfl))
  f205 := Tryd.func45.trans (congrArg some (by kernel_rfl))
  f243 := Tryd.func58.trans (congrArg some (by kernel_rfl))
  f245 := Tryd.func24.trans (congrArg some (by kernel_rfl))
  f246 := Tryd.func25.trans (congrArg some (by kernel_rfl))
  f247 := Tryd.func23.trans (congrArg some (by kernel_rfl))
  f279 := Tryd.func28.trans (congrArg some (by kernel_rfl))
  f280 := Tryd.func29.trans (congrArg some (by kernel_rfl))
  f281 := Tryd.func30.trans (congrArg some (by kernel_rfl))
  f282 := Tryd.func31.trans (congrArg some (by kernel_rfl))
  f283 := Tryd.func32.trans (congrArg some (by kernel_rfl))
  f284 := Tryd.func33.trans (congrArg some (by kernel_rfl))
  f285 := Tryd.func34.trans (congrArg some (by kernel_rfl))
  f286 := Tryd.func35.trans (congrArg some (by kernel_rfl))
  f287 := Tryd.func27.trans (congrArg some (by kernel_rfl))
  f316 := Tryd.func44.trans (congrArg some (by kernel_rfl))
  f317 := Tryd.func47.trans (congrArg some (by kernel_rfl))
  f318 := Tryd.func49.trans (congrArg some (by kernel_rfl))
  f319 := Tryd.func50.trans (congrArg some (by kernel_rfl))
  f320 := Tryd.func51.trans (congrArg some (by kernel_rfl))
  f321 := Tryd.func42.trans (congrArg some (by kernel_rfl))
  f322 := Tryd.func43.trans (congrArg some (by kernel_rfl))
  f337 := Tryd.func59.trans (congrArg some (by kernel_rfl))
  f338 := Tryd.func60.trans (congrArg some (by kernel_rfl))
  t0 := Tryd.underlying0
  a0 := Tryd.isAgg0
  z0 := Tryd.sizeOf0
  v0 := Tryd.zeroValue0
  t2 := Tryd.underlying2
  a2 := Tryd.isAgg2
  z2 := Tryd.sizeOf2
  v2 := Tryd.zeroValue2
  t3 := Tryd.underlying3
  a3 := Tryd.isAgg3
  z3 := Tryd.sizeOf3
  v3 := Tryd.zeroValue3
  t4 := Tryd.underlying4
  a4 := Tryd.isAgg4
  z4 := Tryd.sizeOf4
  v4 := Tryd.zeroValue4
  t5 := Tryd.underlying5
  a5 := Tryd.isAgg5
  z5 := Tryd.sizeOf5
  v5 := Tryd.zeroValue5
  t9 := Tryd.underlying9
  a9 := Tryd.isAgg9
  z9 := Tryd.sizeOf9
  v9 := Tryd.zeroValue9
  t20 := Tryd.underlying20
  a20 := Tryd.isAgg20
  z20 := Tryd.sizeOf20
  v20 := Tryd.zeroValue20
  t21 := Tryd.underlying21
  a21 := Tryd.isAgg21
  z21 := Tryd.sizeOf21
  v21 := Tryd.zeroValue21
  t37 := Tryd.underlying42
  a37 := Tryd.isAgg42
  z37 := Tryd.sizeOf42
  v37 := Tryd.zeroValue42
  t46 := Tryd.underlying55
  a46 := Tryd.isAgg55
  z46 := Tryd.sizeOf55
  v46 := Tryd.zeroValue55
  t51 := Tryd.underlying81
  a51 := Tryd.isAgg81
  z51 := Tryd.sizeOf81
  v51 := Tryd.zeroValue81
  t53 := Tryd.underlying52
  a53 := Tryd.isAgg52
  z53 := Tryd.sizeOf52
  v53 := Tryd.zeroValue52
  t75 := Tryd.underlying44
  a75 := Tryd.isAgg44
  z75 := Tryd.sizeOf44
  v75 := Tryd.zeroValue44
  t85 := Tryd.underlying45
  a85 := Tryd.isAgg45
  z85 := Tryd.sizeOf45
  v85 := Tryd.zeroValue45
  t127 := Tryd.underlying87
  a127 := Tryd.isAgg87
  z127 := Tryd.sizeOf87
  v127 := Tryd.zeroValue87
  t143 := Tryd.underlying88
  a143 := Tryd.isAgg88
  z143 := Tryd.sizeOf88
  v143 := Tryd.zeroValue88
  t145 := Tryd.underlying90
  a145 := Tryd.isAgg90
  z145 := Tryd.sizeOf90
  v145 := Tryd.zeroValue90
  t167 := Tryd.underlying51
  a167 := Tryd.isAgg51
  z167 := Tryd.sizeOf51
  v167 := Tryd.zeroValue51
  t168 := Tryd.underlying56
  a168 := Tryd.isAgg56
  z168 := Tryd.sizeOf56
  v168 := Tryd.zeroValue56
  t171 := Tryd.underlying60
  a171 := Tryd.isAgg60
  z171 := Tryd.sizeOf60
  v171 := Tryd.zeroValue60
  t173 := Tryd.underlying63
  a173 := Tryd.isAgg63
  z173 := Tryd.sizeOf63
  v173 := Tryd.zeroValue63
  t175 := Tryd.underlying53
  a175 := Tryd.isAgg53
  z175 := Tryd.sizeOf53
  v175 := Tryd.zeroValue53
  t210 := Tryd.underlying76
  a210 := Tryd.isAgg76
  z210 := Tryd.sizeOf76
  v210 := Tryd.zeroValue76
  t212 := Tryd.underlying80
  a212 := Tryd.isAgg80
  z212 := Tryd.sizeOf80
  v212 := Tryd.zeroValue80
  t213 := Tryd.underlying82
  a213 := Tryd.isAgg82
  z213 := Tryd.sizeOf82
  t232 := Tryd.underlying99
  a232 := Tryd.isAgg99
  z232 := Tryd.sizeOf99
  v232 := Tryd.zeroValue99
  t233 := Tryd.underlying100
  a233 := Tryd.isAgg100
  z233 := Tryd.sizeOf100
  v233 := Tryd.zeroValue100
  g15 := by kernel_rfl
  g16 := by kernel_rfl
  g17 := by kernel_rfl
  g18 := by kernel_rfl
  g19 := by kernel_rfl
  t80 := Tryd.underlying35
  a80 := Tryd.isAgg35
  z80 := Tryd.sizeOf35
  v80 := Tryd.zeroValue35
  i0 := by kernel_rfl
  i2 := by kernel_rfl
  i3 := by kernel_rfl
  i4 := by kernel_rfl
  i5 := by kernel_rfl
  i9 := by kernel_rfl
  i20 := by kernel_rfl
  i21 := by kernel_rfl
  i37 := by kernel_rfl
  i46 := by kernel_rfl
  i51 := by kernel_rfl
  i53 := by kernel_rfl
  i75 := by kernel_rfl
  i80 := by kernel_rfl
  i85 := by kernel_rfl
  i127 := by kernel_rfl
  i143 := by kernel_rfl
  i145 := by kernel_rfl
  i167 := by kernel_rfl
  i168 := by kernel_rfl
  i171 := by kernel_rfl
  i173 := by kernel_rfl
  i175 := by kernel_rfl
  i210 := by kernel_rfl
  i212 := by kernel_rfl
  i232 := by kernel_rfl
  i233 := by kernel_rfl
  m15 := by kernel_rfl
  m16 := by kernel_rfl
  m17 := by kernel_rfl
  m18 := by kernel_rfl
  m19 := by kernel_rfl
  c0 := by kernel_rfl
  c2 := by kernel_rfl
  c3 := by kernel_rfl
  c4 := by kernel_rfl
  c5 := by kernel_rfl
  c9 := by kernel_rfl
  c20 := by kernel_rfl
  c21 := by kernel_rfl
  c37 := by kernel_rfl
  c46 := by kernel_rfl
  c51 := by kernel_rfl
  c53 := by kernel_rfl
  c75 := by kernel_rfl
  c80 := by kernel_rfl
  c85 := by kernel_rfl
  c127 := by kernel_rfl
  c143 := by kernel_rfl
  c145 := by kernel_rfl
  c167 := by kernel_rfl
  c168 := by kernel_rfl
  c171 := by kernel_rfl
  c173 := by kernel_rfl
  c175 := by kernel_rfl
  c210 := by kernel_rfl
  c212 := by kernel_rfl
  c213 := by kernel_rfl
  c232 := by kernel_rfl
  c233 := by kernel_rfl }
def Tryd.lays99_ren : Go.Shelf.Ren := ⟨fun | 99 => 16 | 206 => 19 | n => n, fun | 9 => 9 | 4 => 4 | 3 => 3 | n => n, fun | n => n⟩
theorem Tryd.lays99 : Go.Proofs.Lays.n99 Tryd.prog Tryd.lays99_ren := {
  mixed := by kernel_rfl
  f99 := Tryd.func16.trans (congrArg some (by kernel_rfl))
  f206 := Tryd.func19.trans (congrArg some (by kernel_rfl))
  t3 := Tryd.underlying3
  a3 := Tryd.isAgg3
  z3 := Tryd.sizeOf3
  v3 := Tryd.zeroValue3
  t4 := Tryd.underlying4
  a4 := Tryd.isAgg4
  z4 := Tryd.sizeOf4
  v4 := Tryd.zeroValue4
  t9 := Tryd.underlying9
  a9 := Tryd.isAgg9
  z9 := Tryd.sizeOf9
  v9 := Tryd.zeroValue9 }
namespace Qxb6608882aDoor
open Go.RowKit Go.Sort Go.Lib
/-- The table's name, as the given row names it. -/
def tabName : String := Rows.fnQuotesExactlyRow.named.getD 2 ""
/-- strconv.FormatInt at base 10: the decimal numeral. -/
theorem format_any (n : Int) (h0 : -9223372036854775808 ≤ n) (h1 : n ≤ 9223372036854775807) (w : World) (htab : Lib.TabIs Tryd.prog w tabName .u64 Lib.pow10Tab) :
    Calls Tryd.prog 21 #[.int .i64 n, .int .i64 10] w fun e w' => e = .returned (.string ⟨(Lib.itoa n).toArray⟩) ∧ ∃ k os, w' = grow (w.drewN k) os := Any.strconv_FormatInt_10 Tryd.laysM173 n h0 h1 w htab
theorem prefix_any (s p : ByteArray) (w : World) :
    Calls Tryd.prog 16 #[.string s, .string p] w fun e w' => e = .returned (.bool (Lib.hasPrefix s.data.toList p.data.toList)) ∧ w' = w := Any.strings_HasPrefix Tryd.lays99 s p w
/-- An error's variable. -/
def IsErr (w : World) (g : Nat) : Prop := ∃ ev, w.cell? ⟨g, 0, none⟩ = some ev ∧ (ev = .nilIface ∨ ∃ te pe, ev = .iface te pe)
/-- strconv.ParseInt at base 10, size 64: the number and nil, or an error. -/
theorem parse_any (s : ByteArray) (hlim : s.size ≤ 281474976710656) (w : World) (e0 : IsErr w 0) (e1 : IsErr w 1) :
    Calls Tryd.prog 20 #[.string s, .int .i64 10, .int .i64 64] w fun e w' => Below w.heap.size w w' ∧
      ((∃ v, Lib.parseIntB 64 s.data.toList = .ok v ∧ e = .returned (.tuple #[.int .i64 v, .nilIface])) ∨
       ((∀ v, Lib.parseIntB 64 s.data.toList ≠ .ok v) ∧ ∃ n N, e = .returned (.tuple #[.int .i64 n, .iface 56 (.pointer (some ⟨N, 0, none⟩))]))) := by
  obtain ⟨v0, h0, k0⟩ := e0
  obtain ⟨v1, h1, k1⟩ := e1
  cases h : Lib.parseIntB 64 s.data.toList
  · refine (Any.strconv_ParseInt_10_at64_ok Tryd.laysC174 s (by omega) _ h w).mono ?_
    rintro e w' ⟨rfl, hw⟩
    refine ⟨?_, Or.inl ⟨_, rfl, rfl⟩⟩
    rcases hw with rfl | ⟨t, rfl⟩
    · exact Below.refl _ _
    · exact Lib.bytesWorld_below _ _ _
  · refine (Any.strconv_ParseInt_10_at64_syntax Tryd.laysC174 s hlim h v0 w h0 k0).mono ?_
    rintro e w' ⟨N, rfl, _, _, hb⟩
    exact ⟨hb, Or.inr ⟨(fun v e => by cases e), _, _, rfl⟩⟩
  · refine (Any.strconv_ParseInt_10_at64_range Tryd.laysC174 s hlim h v1 w h1 k1).mono ?_
    rintro e w' ⟨N, rfl, _, _, hb⟩
    exact ⟨hb, Or.inr ⟨(fun v e => by cases e), _, _, rfl⟩⟩
end Qxb6608882aDoor
end Go.Proofs
