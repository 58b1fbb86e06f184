/-
  SEAT b6625877aD: the shelf's contract of strconv.ParseUint(s, 10, 32), laid at this dump (by the kit's lay-shelf and lay-plain, in plain words), and the walks of '(entry).id' and 'ZZEntryID' over it.
-/
import Derived.Ground.MpProg
import Derived.Shelf.Pu.ParseUintPublic10
import Derived.Shelf.Pu.ErrVarParseUint
import Derived.WalkSmall
import Derived.Test.Qxb6625877aDoorSmall
namespace Go.Proofs.Qxb6625877aDoor
open Go.Shelf Go.RowKit
def Tryd.laysPu14_ren : Go.Shelf.Ren := ⟨fun | 14 => 10 | 16 => 11 | 17 => 12 | 19 => 13 | 20 => 14 | 21 => 15 | 22 => 16 | 23 => 17 | 24 => 18 | 25 => 19 | 27 => 21 | 26 => 20 | 28 => 22 | 29 => 23 | 30 => 24 | 31 => 25 | 32 => 26 | 33 => 27 | 35 => 29 | 34 => 28 | 36 => 30 | 37 => 31 | 38 => 32 | 39 => 33 | 40 => 34 | n => n, fun | 9 => 9 | 3 => 3 | 22 => 29 | 24 => 33 | 25 => 34 | 4 => 4 | 34 => 37 | 5 => 5 | 36 => 39 | 37 => 28 | 0 => 0 | 39 => 41 | 21 => 21 | 44 => 46 | 47 => 49 | 50 => 52 | 48 => 50 | 2 => 2 | 52 => 54 | 55 => 57 | 59 => 61 | 60 => 24 | 20 => 20 | 61 => 62 | 65 => 66 | 66 => 67 | 67 => 70 | n => n, fun | 0 => 0 | 1 => 1 | 2 => 2 | 3 => 3 | 4 => 4 | n => n⟩
theorem Tryd.laysPu14 : Go.Proofs.LaysPu.n14 Tryd.prog Tryd.laysPu14_ren := {
  mixed := by kernel_rfl
  f14 := Tryd.func10.trans (congrArg some (by kernel_rfl))
  f16 := Tryd.func11.trans (congrArg some (by kernel_rfl))
  f17 := Tryd.func12.trans (congrArg some (by kernel_rfl))
  f19 := Tryd.func13.trans (congrArg some (by kernel_rfl))
  f20 := Tryd.func14.trans (congrArg some (by kernel_rfl))
  f21 := Tryd.func15.trans (congrArg some (by kernel_rfl))
  f22 := Tryd.func16.trans (congrArg some (by kernel_rfl))
  f23 := Tryd.func17.trans (congrArg some (by kernel_rfl))
  f24 := Tryd.func18.trans (congrArg some (by kernel_rfl))
  f25 := Tryd.func19.trans (congrArg some (by kernel_rfl))
  f26 := Tryd.func20.trans (congrArg some (by kernel_rfl))
  f27 := Tryd.func21.trans (congrArg some (by kernel_rfl))
  f28 := Tryd.func22.trans (congrArg some (by kernel_rfl))
  f29 := Tryd.func23.trans (congrArg some (by kernel_rfl))
  f30 := Tryd.func24.trans (congrArg some (by kernel_rfl))
  f31 := Tryd.func25.trans (congrArg some (by kernel_rfl))
  f32 := Tryd.func26.trans (congrArg some (by kernel_rfl))
  f33 := Tryd.func27.trans (congrArg some (by kernel_rfl))
  f34 := Tryd.func28.trans (congrArg some (by kernel_rfl))
  f35 := Tryd.func29.trans (congrArg some (by kernel_rfl))
  f36 := Tryd.func30.trans (congrArg some (by kernel_rfl))
  f37 := Tryd.func31.trans (congrArg some (by kernel_rfl))
  f38 := Tryd.func32.trans (congrArg some (by kernel_rfl))
  f39 := Tryd.func33.trans (congrArg some (by kernel_rfl))
  f40 := Tryd.func34.trans (congrArg some (by kernel_rfl))
  t0 := Tryd.underlying0
  a0 := Tryd.isAgg0
  z0 := Tryd.sizeOf0
  v0 := Tryd.zeroValue0
  i0 := by kernel_rfl
  t2 := Tryd.underlying2
  a2 := Tryd.isAgg2
  z2 := Tryd.sizeOf2
  v2 := Tryd.zeroValue2
  i2 := by kernel_rfl
  t3 := Tryd.underlying3
  a3 := Tryd.isAgg3
  z3 := Tryd.sizeOf3
  v3 := Tryd.zeroValue3
  i3 := by kernel_rfl
  t4 := Tryd.underlying4
  a4 := Tryd.isAgg4
  z4 := Tryd.sizeOf4
  v4 := Tryd.zeroValue4
  i4 := by kernel_rfl
  t5 := Tryd.underlying5
  a5 := Tryd.isAgg5
  z5 := Tryd.sizeOf5
  v5 := Tryd.zeroValue5
  i5 := by kernel_rfl
  t9 := Tryd.underlying9
  a9 := Tryd.isAgg9
  z9 := Tryd.sizeOf9
  v9 := Tryd.zeroValue9
  i9 := by kernel_rfl
  t20 := Tryd.underlying20
  a20 := Tryd.isAgg20
  z20 := Tryd.sizeOf20
  v20 := Tryd.zeroValue20
  i20 := by kernel_rfl
  t21 := Tryd.underlying21
  a21 := Tryd.isAgg21
  z21 := Tryd.sizeOf21
  v21 := Tryd.zeroValue21
  i21 := by kernel_rfl
  t22 := Tryd.underlying29
  a22 := Tryd.isAgg29
  z22 := Tryd.sizeOf29
  v22 := Tryd.zeroValue29
  i22 := by kernel_rfl
  t24 := Tryd.underlying33
  a24 := Tryd.isAgg33
  z24 := Tryd.sizeOf33
  v24 := Tryd.zeroValue33
  i24 := by kernel_rfl
  t25 := Tryd.underlying34
  a25 := Tryd.isAgg34
  z25 := Tryd.sizeOf34
  v25 := Tryd.zeroValue34
  i25 := by kernel_rfl
  t34 := Tryd.underlying37
  a34 := Tryd.isAgg37
  z34 := Tryd.sizeOf37
  v34 := Tryd.zeroValue37
  i34 := by kernel_rfl
  c34 := by kernel_rfl
  t36 := Tryd.underlying39
  a36 := Tryd.isAgg39
  z36 := Tryd.sizeOf39
  v36 := Tryd.zeroValue39
  i36 := by kernel_rfl
  t37 := Tryd.underlying28
  a37 := Tryd.isAgg28
  z37 := Tryd.sizeOf28
  v37 := Tryd.zeroValue28
  i37 := by kernel_rfl
  t39 := Tryd.underlying41
  a39 := Tryd.isAgg41
  z39 := Tryd.sizeOf41
  v39 := Tryd.zeroValue41
  i39 := by kernel_rfl
  t44 := Tryd.underlying46
  a44 := Tryd.isAgg46
  z44 := Tryd.sizeOf46
  v44 := Tryd.zeroValue46
  i44 := by kernel_rfl
  t47 := Tryd.underlying49
  a47 := Tryd.isAgg49
  z47 := Tryd.sizeOf49
  v47 := Tryd.zeroValue49
  i47 := by kernel_rfl
  t48 := Tryd.underlying50
  a48 := Tryd.isAgg50
  z48 := Tryd.sizeOf50
  v48 := Tryd.zeroValue50
  i48 := by kernel_rfl
  t50 := Tryd.underlying52
  a50 := Tryd.isAgg52
  z50 := Tryd.sizeOf52
  v50 := Tryd.zeroValue52
  i50 := by kernel_rfl
  t52 := Tryd.underlying54
  a52 := Tryd.isAgg54
  z52 := Tryd.sizeOf54
  v52 := Tryd.zeroValue54
  i52 := by kernel_rfl
  t55 := Tryd.underlying57
  a55 := Tryd.isAgg57
  z55 := Tryd.sizeOf57
  v55 := Tryd.zeroValue57
  i55 := by kernel_rfl
  t59 := Tryd.underlying61
  a59 := Tryd.isAgg61
  z59 := Tryd.sizeOf61
  v59 := Tryd.zeroValue61
  i59 := by kernel_rfl
  t60 := Tryd.underlying24
  a60 := Tryd.isAgg24
  z60 := Tryd.sizeOf24
  v60 := Tryd.zeroValue24
  i60 := by kernel_rfl
  t61 := Tryd.underlying62
  a61 := Tryd.isAgg62
  z61 := Tryd.sizeOf62
  t65 := Tryd.underlying66
  a65 := Tryd.isAgg66
  z65 := Tryd.sizeOf66
  v65 := Tryd.zeroValue66
  i65 := by kernel_rfl
  t66 := Tryd.underlying67
  a66 := Tryd.isAgg67
  z66 := Tryd.sizeOf67
  v66 := Tryd.zeroValue67
  i66 := by kernel_rfl
  t67 := Tryd.underlying70
  a67 := Tryd.isAgg70
  z67 := Tryd.sizeOf70
  v67 := Tryd.zeroValue70
  i67 := by kernel_rfl
  g0 := by kernel_rfl
  m0 := by kernel_rfl
  g1 := by kernel_rfl
  m1 := by kernel_rfl
  g2 := by kernel_rfl
  m2 := by kernel_rfl
  g3 := by kernel_rfl
  m3 := by kernel_rfl
  g4 := by kernel_rfl
  m4 := by kernel_rfl }

theorem gSyn : Tryd.prog.globalNamed "strconv.ErrSyntax" = some 0 := by kernel_rfl
theorem gRan : Tryd.prog.globalNamed "strconv.ErrRange" = some 1 := by kernel_rfl
/-- WHAT THE WALKS ASK OF THE TWO SENTINELS: the variables hold interface values. -/
def Sentinels (w : World) : Prop := (∃ tp p, w.var? Tryd.prog "strconv.ErrSyntax" = some #[.iface tp p]) ∧ (∃ tp p, w.var? Tryd.prog "strconv.ErrRange" = some #[.iface tp p])
theorem Sentinels.lt {w : World} (h : Sentinels w) : 1 < w.heap.size := by
  obtain ⟨_, tp, p, h1⟩ := h
  have c1 : w.cell? ⟨1, 0, none⟩ = some (.iface tp p) := by simpa using World.var?_cell gRan h1 0
  exact Lib.lt_of_cell c1
theorem Sentinels.below {B : Nat} {w w' : World} (h : Sentinels w) (hb : Below B w w') (hB : 1 < B) : Sentinels w' := by
  obtain ⟨⟨t0, p0, h0⟩, t1, p1, h1⟩ := h
  exact ⟨⟨t0, p0, var?_below hb gSyn (by omega) h0⟩, t1, p1, var?_below hb gRan hB h1⟩

/-- strconv.ParseUint(s, 10, 32): the number; the error is whatever error. -/
theorem parse_any (s : ByteArray) (hs : s.size ≤ 281474976710656) (w : World) (hS : Sentinels w) :
    Calls Tryd.prog 10 #[.string s, .int .i64 10, .int .i64 32] w fun e w' => (∃ er : Value, e = .returned (.tuple #[.int .u64 (idv s.data.toList), er])) ∧ Below w.heap.size w w' := by
  obtain ⟨⟨t0, p0, h0⟩, t1, p1, h1⟩ := hS
  cases h : Lib.parseUintB 32 s.data.toList with
  | ok u =>
    have hr : idv s.data.toList = u := by unfold idv; rw [h]; rfl
    rw [hr]
    refine (Any.strconv_ParseUint_10_at32_ok Tryd.laysPu14 s (by omega) u h w).mono ?_
    rintro e w' ⟨rfl, hw⟩
    refine ⟨⟨_, rfl⟩, ?_⟩
    rcases hw with rfl | rfl
    · exact Below.refl _ _
    · exact Lib.bytesWorld_below _ _ _
  | range =>
    have hr : idv s.data.toList = 4294967295 := by unfold idv; rw [h]; rfl
    rw [hr]
    refine (Any.strconv_ParseUint_10_at32_range_var Tryd.laysPu14 s hs h t1 p1 w h1).mono ?_
    rintro e w' ⟨N, rfl, -, -, hb⟩
    exact ⟨⟨_, rfl⟩, hb⟩
  | _ =>
    have hr : idv s.data.toList = 0 := by unfold idv; rw [h]; rfl
    rw [hr]
    refine (Any.strconv_ParseUint_10_at32_syntax_var Tryd.laysPu14 s hs h t0 p0 w h0).mono ?_
    rintro e w' ⟨N, rfl, -, -, hb⟩
    exact ⟨⟨_, rfl⟩, hb⟩

/-- '(entry).id' at a slice that the call made: block g. -/
theorem id_any (g n c : Nat) (i : Nat) (s : ByteArray) (hs : s.size ≤ 281474976710656) (w : World) (hS : Sentinels w) (hi : i < n) (_hn : n ≤ 65536) (hc : w.cell? ⟨g, i, none⟩ = some (.string s)) :
    Calls Tryd.prog 9 #[.slice (some ⟨g, 0, none⟩) n c, .int .i64 i] w fun e w' => e = .returned (.int .u32 (idv s.data.toList)) ∧ Below w.heap.size w w' := by
  have hle := idv_le s.data.toList
  go_enter Tryd.func9, Tryd.ntmps9
  go_wp2_with (go_at_call 10; refine (parse_any s hs _ hS).mono ?_; rintro e w' ⟨⟨er, rfl⟩, hb⟩)
  go_ret
  exact ⟨rfl, hb⟩

theorem zzid_any (g n c : Nat) (i : Nat) (s : ByteArray) (hs : s.size ≤ 281474976710656) (w : World) (hS : Sentinels w) (hi : i < n) (hn : n ≤ 65536) (hc : w.cell? ⟨g, i, none⟩ = some (.string s)) :
    Calls Tryd.prog 6 #[.slice (some ⟨g, 0, none⟩) n c, .int .i64 i] w fun e w' => e = .returned (.int .u32 (idv s.data.toList)) ∧ Below w.heap.size w w' := by
  go_enter Tryd.func6, Tryd.ntmps6
  go_wp2_with (go_at_call 9; refine (id_any g n c i s hs _ hS hi hn hc).mono ?_; rintro e w' ⟨rfl, hb⟩)
  go_ret
  exact ⟨rfl, hb⟩
end Go.Proofs.Qxb6625877aDoor
