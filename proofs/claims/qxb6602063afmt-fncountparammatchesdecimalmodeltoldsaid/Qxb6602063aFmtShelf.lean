/-
  The shelf's contract for strconv.ParseInt at this dump (the laying as the kit's tools print it), and the one form that the walk uses.
-/
import Derived.Shelf.LaysC
import Derived.Shelf.Strconv.ErrVarParseInt
import Derived.Test.Qxb6602063aFmtProg
namespace Go.Proofs
open Go.Shelf
def Tryf.laysC174_ren : Go.Shelf.Ren := ⟨fun | 174 => 8 | 247 => 10 | 245 => 11 | 287 => 14 | 279 => 15 | 280 => 16 | 281 => 17 | 282 => 18 | 321 => 19 | 322 => 20 | 316 => 21 | 171 => 22 | 205 => 13 | 243 => 23 | 246 => 24 | 283 => 25 | 284 => 26 | 285 => 27 | 286 => 28 | 129 => 30 | 317 => 29 | 318 => 31 | 319 => 32 | 320 => 33 | 337 => 34 | 338 => 35 | n => n, fun | 9 => 9 | 3 => 3 | 2 => 2 | 75 => 24 | 85 => 25 | 4 => 4 | 167 => 35 | 5 => 5 | 53 => 36 | 175 => 37 | 46 => 39 | 168 => 40 | 37 => 47 | 0 => 0 | 210 => 51 | 21 => 21 | 127 => 53 | 145 => 45 | 143 => 43 | 171 => 55 | 173 => 58 | 212 => 62 | 51 => 63 | 20 => 20 | 213 => 64 | 232 => 68 | 233 => 69 | 80 => 71 | n => n, fun | 15 => 0 | 16 => 1 | 17 => 2 | 18 => 3 | 19 => 4 | n => n⟩
theorem Tryf.laysC174 : Go.Proofs.LaysC.n174 Tryf.prog Tryf.laysC174_ren := {
  mixed := by kernel_rfl
  f129 := Tryf.func30.trans (congrArg some (by kernel_rfl))
  f171 := Tryf.func22.trans (congrArg some (by kernel_rfl))
  f174 := Tryf.func8.trans (congrArg some (by kernel_rfl))
  f205 := Tryf.func13.trans (congrArg some (by kernel_rfl))
  f243 := Tryf.func23.trans (congrArg some (by kernel_rfl))
  f245 := Tryf.func11.trans (congrArg some (by kernel_rfl))
  f246 := Tryf.func24.trans (congrArg some (by kernel_rfl))
  f247 := Tryf.func10.trans (congrArg some (by kernel_rfl))
  f279 := Tryf.func15.trans (congrArg some (by kernel_rfl))
  f280 := Tryf.func16.trans (congrArg some (by kernel_rfl))
  f281 := Tryf.func17.trans (congrArg some (by kernel_rfl))
  f282 := Tryf.func18.trans (congrArg some (by kernel_rfl))
  f283 := Tryf.func25.trans (congrArg some (by kernel_rfl))
  f284 := Tryf.func26.trans (congrArg some (by kernel_rfl))
  f285 := Tryf.func27.trans (congrArg some (by kernel_rfl))
  f286 := Tryf.func28.trans (congrArg some (by kernel_rfl))
  f287 := Tryf.func14.trans (congrArg some (by kernel_rfl))
  f316 := Tryf.func21.trans (congrArg some (by kernel_rfl))
  f317 := Tryf.func29.trans (congrArg some (by kernel_rfl))
  f318 := Tryf.func31.trans (congrArg some (by kernel_rfl))
  f319 := Tryf.func32.trans (congrArg some (by kernel_rfl))
  f320 := Tryf.func33.trans (congrArg some (by kernel_rfl))
  f321 := Tryf.func19.trans (congrArg some (by kernel_rfl))
  f322 := Tryf.func20.trans (congrArg some (by kernel_rfl))
  f337 := Tryf.func34.trans (congrArg some (by kernel_rfl))
  f338 := Tryf.func35.trans (congrArg some (by kernel_rfl))
  t0 := Tryf.underlying0
  a0 := Tryf.isAgg0
  z0 := Tryf.sizeOf0
  v0 := Tryf.zeroValue0
  t2 := Tryf.underlying2
  a2 := Tryf.isAgg2
  z2 := Tryf.sizeOf2
  v2 := Tryf.zeroValue2
  t3 := Tryf.underlying3
  a3 := Tryf.isAgg3
  z3 := Tryf.sizeOf3
  v3 := Tryf.zeroValue3
  t4 := Tryf.underlying4
  a4 := Tryf.isAgg4
  z4 := Tryf.sizeOf4
  v4 := Tryf.zeroValue4
  t5 := Tryf.underlying5
  a5 := Tryf.isAgg5
  z5 := Tryf.sizeOf5
  v5 := Tryf.zeroValue5
  t9 := Tryf.underlying9
  a9 := Tryf.isAgg9
  z9 := Tryf.sizeOf9
  v9 := Tryf.zeroValue9
  t20 := Tryf.underlying20
  a20 := Tryf.isAgg20
  z20 := Tryf.sizeOf20
  v20 := Tryf.zeroValue20
  t21 := Tryf.underlying21
  a21 := Tryf.isAgg21
  z21 := Tryf.sizeOf21
  v21 := Tryf.zeroValue21
  t37 := Tryf.underlying47
  a37 := Tryf.isAgg47
  z37 := Tryf.sizeOf47
  v37 := Tryf.zeroValue47
  t46 := Tryf.underlying39
  a46 := Tryf.isAgg39
  z46 := Tryf.sizeOf39
  v46 := Tryf.zeroValue39
  t51 := Tryf.underlying63
  a51 := Tryf.isAgg63
  z51 := Tryf.sizeOf63
  v51 := Tryf.zeroValue63
  t53 := Tryf.underlying36
  a53 := Tryf.isAgg36
  z53 := Tryf.sizeOf36
  v53 := Tryf.zeroValue36
  t75 := Tryf.underlying24
  a75 := Tryf.isAgg24
  z75 := Tryf.sizeOf24
  v75 := Tryf.zeroValue24
  t85 := Tryf.underlying25
  a85 := Tryf.isAgg25
  z85 := Tryf.sizeOf25
  v85 := Tryf.zeroValue25
  t127 := Tryf.underlying53
  a127 := Tryf.isAgg53
  z127 := Tryf.sizeOf53
  v127 := Tryf.zeroValue53
  t143 := Tryf.underlying43
  a143 := Tryf.isAgg43
  z143 := Tryf.sizeOf43
  v143 := Tryf.zeroValue43
  t145 := Tryf.underlying45
  a145 := Tryf.isAgg45
  z145 := Tryf.sizeOf45
  v145 := Tryf.zeroValue45
  t167 := Tryf.underlying35
  a167 := Tryf.isAgg35
  z167 := Tryf.sizeOf35
  v167 := Tryf.zeroValue35
  t168 := Tryf.underlying40
  a168 := Tryf.isAgg40
  z168 := Tryf.sizeOf40
  v168 := Tryf.zeroValue40
  t171 := Tryf.underlying55
  a171 := Tryf.isAgg55
  z171 := Tryf.sizeOf55
  v171 := Tryf.zeroValue55
  t173 := Tryf.underlying58
  a173 := Tryf.isAgg58
  z173 := Tryf.sizeOf58
  v173 := Tryf.zeroValue58
  t175 := Tryf.underlying37
  a175 := Tryf.isAgg37
  z175 := Tryf.sizeOf37
  v175 := Tryf.zeroValue37
  t210 := Tryf.underlying51
  a210 := Tryf.isAgg51
  z210 := Tryf.sizeOf51
  v210 := Tryf.zeroValue51
  t212 := Tryf.underlying62
  a212 := Tryf.isAgg62
  z212 := Tryf.sizeOf62
  v212 := Tryf.zeroValue62
  t213 := Tryf.underlying64
  a213 := Tryf.isAgg64
  z213 := Tryf.sizeOf64
  t232 := Tryf.underlying68
  a232 := Tryf.isAgg68
  z232 := Tryf.sizeOf68
  v232 := Tryf.zeroValue68
  t233 := Tryf.underlying69
  a233 := Tryf.isAgg69
  z233 := Tryf.sizeOf69
  v233 := Tryf.zeroValue69
  g15 := by kernel_rfl
  g16 := by kernel_rfl
  g17 := by kernel_rfl
  g18 := by kernel_rfl
  g19 := by kernel_rfl
  t80 := Tryf.underlying71
  a80 := Tryf.isAgg71
  z80 := Tryf.sizeOf71
  v80 := Tryf.zeroValue71
  i0 := by kernel_rfl
  i2 := by kernel_rfl
  i3 := by kernel_rfl
  i4 := by kernel_rfl
  i5 := by kernel_rfl
  i9 := by kernel_rfl
  i20 := by kernel_rfl
  i21 := by kernel_rfl
  i37 := by kernel_rfl
  i46 := by kernel_rfl
  i51 := by kernel_rfl
  i53 := by kernel_rfl
  i75 := by kernel_rfl
  i80 := by kernel_rfl
  i85 := by kernel_rfl
  i127 := by kernel_rfl
  i143 := by kernel_rfl
  i145 := by kernel_rfl
  i167 := by kernel_rfl
  i168 := by kernel_rfl
  i171 := by kernel_rfl
  i173 := by kernel_rfl
  i175 := by kernel_rfl
  i210 := by kernel_rfl
  i212 := by kernel_rfl
  i232 := by kernel_rfl
  i233 := by kernel_rfl
  m15 := by kernel_rfl
  m16 := by kernel_rfl
  m17 := by kernel_rfl
  m18 := by kernel_rfl
  m19 := by kernel_rfl
  c0 := by kernel_rfl
  c2 := by kernel_rfl
  c3 := by kernel_rfl
  c4 := by kernel_rfl
  c5 := by kernel_rfl
  c9 := by kernel_rfl
  c20 := by kernel_rfl
  c21 := by kernel_rfl
  c37 := by kernel_rfl
  c46 := by kernel_rfl
  c51 := by kernel_rfl
  c53 := by kernel_rfl
  c75 := by kernel_rfl
  c80 := by kernel_rfl
  c85 := by kernel_rfl
  c127 := by kernel_rfl
  c143 := by kernel_rfl
  c145 := by kernel_rfl
  c167 := by kernel_rfl
  c168 := by kernel_rfl
  c171 := by kernel_rfl
  c173 := by kernel_rfl
  c175 := by kernel_rfl
  c210 := by kernel_rfl
  c212 := by kernel_rfl
  c213 := by kernel_rfl
  c232 := by kernel_rfl
  c233 := by kernel_rfl }
open Go.RowKit in
/-- strconv.ParseInt(s, 10, 64) at every string: the value and nil; or some number and a *strconv.NumError in new memory. Nothing old has turned. -/
theorem Tryf.parseInt (s : ByteArray) (hlim : s.size ≤ 281474976710656) (t0 t1 : TypeId) (p0 p1 : Value) (w : World)
    (hv0 : w.var? Tryf.prog "strconv.ErrSyntax" = some #[.iface t0 p0]) (hv1 : w.var? Tryf.prog "strconv.ErrRange" = some #[.iface t1 p1]) :
    Calls Tryf.prog 8 #[.string s, .int .i64 10, .int .i64 64] w fun e w' => Below w.heap.size w w' ∧
      ((∃ v, Lib.parseIntB 64 s.data.toList = .ok v ∧ e = .returned (.tuple #[.int .i64 v, .nilIface])) ∨
       ((∀ v, Lib.parseIntB 64 s.data.toList ≠ .ok v) ∧ ∃ n N, e = .returned (.tuple #[.int .i64 n, .iface 40 (.pointer (some ⟨N, 0, none⟩))]))) := by
  cases h : Lib.parseIntB 64 s.data.toList
  · refine (Any.strconv_ParseInt_10_at64_ok Tryf.laysC174 s (by omega) _ h w).mono ?_
    rintro e w' ⟨rfl, hw⟩
    refine ⟨?_, Or.inl ⟨_, rfl, rfl⟩⟩
    rcases hw with rfl | ⟨t, rfl⟩
    · exact Below.refl _ _
    · exact Lib.bytesWorld_below w 5 t
  · refine (Any.strconv_ParseInt_10_at64_syntax_var Tryf.laysC174 s hlim h t0 p0 w hv0).mono ?_
    rintro e w' ⟨N, rfl, _, _, hb⟩
    exact ⟨hb, Or.inr ⟨(fun v hv => by cases hv), _, N, rfl⟩⟩
  · refine (Any.strconv_ParseInt_10_at64_range_var Tryf.laysC174 s hlim h t1 p1 w hv1).mono ?_
    rintro e w' ⟨N, rfl, _, _, hb⟩
    exact ⟨hb, Or.inr ⟨(fun v hv => by cases hv), _, N, rfl⟩⟩
end Go.Proofs
