/-
  THE SHELF's CONTRACT OF strconv.ParseUint LAID AT THIS SEAT's PROGRAM (the layings as the kit's lay-plain tool writes them for this program), and what the law wants of it: at base 10 and 16 bits.
-/
import Derived.Ground.MpProg
import Derived.Shelf.Pu.ParseUintPublic10
import Derived.Test.Qxb6620940aDoorProg
import Derived.Test.Qxb6620940aDoorPlain
import Derived.WalkKit
namespace Go.Proofs
open Go.Shelf
def Tryd.laysPu14_ren : Go.Shelf.Ren := ⟨fun | 14 => 12 | 16 => 13 | 17 => 14 | 19 => 15 | 20 => 16 | 21 => 17 | 22 => 18 | 23 => 19 | 24 => 20 | 25 => 21 | 27 => 23 | 26 => 22 | 28 => 24 | 29 => 25 | 30 => 26 | 31 => 27 | 32 => 28 | 33 => 29 | 35 => 31 | 34 => 30 | 36 => 32 | 37 => 33 | 38 => 34 | 39 => 35 | 40 => 36 | n => n, fun | 9 => 9 | 3 => 3 | 22 => 25 | 24 => 27 | 25 => 28 | 4 => 4 | 34 => 31 | 5 => 5 | 36 => 33 | 37 => 34 | 0 => 0 | 39 => 35 | 21 => 21 | 44 => 40 | 47 => 43 | 50 => 46 | 48 => 44 | 2 => 2 | 52 => 48 | 55 => 51 | 59 => 55 | 60 => 56 | 20 => 20 | 61 => 57 | 65 => 61 | 66 => 62 | 67 => 65 | n => n, fun | 0 => 0 | 1 => 1 | 2 => 2 | 3 => 3 | 4 => 4 | n => n⟩
theorem Tryd.laysPu14 : Go.Proofs.LaysPu.n14 Tryd.prog Tryd.laysPu14_ren := {
  mixed := by kernel_rfl
  f14 := Tryd.func12.trans (congrArg some (by kernel_rfl))
  f16 := Tryd.func13.trans (congrArg some (by kernel_rfl))
  f17 := Tryd.func14.trans (congrArg some (by kernel_rfl))
  f19 := Tryd.func15.trans (congrArg some (by kernel_rfl))
  f20 := Tryd.func16.trans (congrArg some (by kernel_rfl))
  f21 := Tryd.func17.trans (congrArg some (by kernel_rfl))
  f22 := Tryd.func18.trans (congrArg some (by kernel_rfl))
  f23 := Tryd.func19.trans (congrArg some (by kernel_rfl))
  f24 := Tryd.func20.trans (congrArg some (by kernel_rfl))
  f25 := Tryd.func21.trans (congrArg some (by kernel_rfl))
  f26 := Tryd.func22.trans (congrArg some (by kernel_rfl))
  f27 := Tryd.func23.trans (congrArg some (by kernel_rfl))
  f28 := Tryd.func24.trans (congrArg some (by kernel_rfl))
  f29 := Tryd.func25.trans (congrArg some (by kernel_rfl))
  f30 := Tryd.func26.trans (congrArg some (by kernel_rfl))
  f31 := Tryd.func27.trans (congrArg some (by kernel_rfl))
  f32 := Tryd.func28.trans (congrArg some (by kernel_rfl))
  f33 := Tryd.func29.trans (congrArg some (by kernel_rfl))
  f34 := Tryd.func30.trans (congrArg some (by kernel_rfl))
  f35 := Tryd.func31.trans (congrArg some (by kernel_rfl))
  f36 := Tryd.func32.trans (congrArg some (by kernel_rfl))
  f37 := Tryd.func33.trans (congrArg some (by kernel_rfl))
  f38 := Tryd.func34.trans (congrArg some (by kernel_rfl))
  f39 := Tryd.func35.trans (congrArg some (by kernel_rfl))
  f40 := Tryd.func36.trans (congrArg some (by kernel_rfl))
  t0 := Tryd.underlying0
  a0 := Tryd.isAgg0
  z0 := Tryd.sizeOf0
  v0 := Tryd.zeroValue0
  i0 := by kernel_rfl
  t2 := Tryd.underlying2
  a2 := Tryd.isAgg2
  z2 := Tryd.sizeOf2
  v2 := Tryd.zeroValue2
  i2 := by kernel_rfl
  t3 := Tryd.underlying3
  a3 := Tryd.isAgg3
  z3 := Tryd.sizeOf3
  v3 := Tryd.zeroValue3
  i3 := by kernel_rfl
  t4 := Tryd.underlying4
  a4 := Tryd.isAgg4
  z4 := Tryd.sizeOf4
  v4 := Tryd.zeroValue4
  i4 := by kernel_rfl
  t5 := Tryd.underlying5
  a5 := Tryd.isAgg5
  z5 := Tryd.sizeOf5
  v5 := Tryd.zeroValue5
  i5 := by kernel_rfl
  t9 := Tryd.underlying9
  a9 := Tryd.isAgg9
  z9 := Tryd.sizeOf9
  v9 := Tryd.zeroValue9
  i9 := by kernel_rfl
  t20 := Tryd.underlying20
  a20 := Tryd.isAgg20
  z20 := Tryd.sizeOf20
  v20 := Tryd.zeroValue20
  i20 := by kernel_rfl
  t21 := Tryd.underlying21
  a21 := Tryd.isAgg21
  z21 := Tryd.sizeOf21
  v21 := Tryd.zeroValue21
  i21 := by kernel_rfl
  t22 := Tryd.underlying25
  a22 := Tryd.isAgg25
  z22 := Tryd.sizeOf25
  v22 := Tryd.zeroValue25
  i22 := by kernel_rfl
  t24 := Tryd.underlying27
  a24 := Tryd.isAgg27
  z24 := Tryd.sizeOf27
  v24 := Tryd.zeroValue27
  i24 := by kernel_rfl
  t25 := Tryd.underlying28
  a25 := Tryd.isAgg28
  z25 := Tryd.sizeOf28
  v25 := Tryd.zeroValue28
  i25 := by kernel_rfl
  t34 := Tryd.underlying31
  a34 := Tryd.isAgg31
  z34 := Tryd.sizeOf31
  v34 := Tryd.zeroValue31
  i34 := by kernel_rfl
  c34 := by kernel_rfl
  t36 := Tryd.underlying33
  a36 := Tryd.isAgg33
  z36 := Tryd.sizeOf33
  v36 := Tryd.zeroValue33
  i36 := by kernel_rfl
  t37 := Tryd.underlying34
  a37 := Tryd.isAgg34
  z37 := Tryd.sizeOf34
  v37 := Tryd.zeroValue34
  i37 := by kernel_rfl
  t39 := Tryd.underlying35
  a39 := Tryd.isAgg35
  z39 := Tryd.sizeOf35
  v39 := Tryd.zeroValue35
  i39 := by kernel_rfl
  t44 := Tryd.underlying40
  a44 := Tryd.isAgg40
  z44 := Tryd.sizeOf40
  v44 := Tryd.zeroValue40
  i44 := by kernel_rfl
  t47 := Tryd.underlying43
  a47 := Tryd.isAgg43
  z47 := Tryd.sizeOf43
  v47 := Tryd.zeroValue43
  i47 := by kernel_rfl
  t48 := Tryd.underlying44
  a48 := Tryd.isAgg44
  z48 := Tryd.sizeOf44
  v48 := Tryd.zeroValue44
  i48 := by kernel_rfl
  t50 := Tryd.underlying46
  a50 := Tryd.isAgg46
  z50 := Tryd.sizeOf46
  v50 := Tryd.zeroValue46
  i50 := by kernel_rfl
  t52 := Tryd.underlying48
  a52 := Tryd.isAgg48
  z52 := Tryd.sizeOf48
  v52 := Tryd.zeroValue48
  i52 := by kernel_rfl
  t55 := Tryd.underlying51
  a55 := Tryd.isAgg51
  z55 := Tryd.sizeOf51
  v55 := Tryd.zeroValue51
  i55 := by kernel_rfl
  t59 := Tryd.underlying55
  a59 := Tryd.isAgg55
  z59 := Tryd.sizeOf55
  v59 := Tryd.zeroValue55
  i59 := by kernel_rfl
  t60 := Tryd.underlying56
  a60 := Tryd.isAgg56
  z60 := Tryd.sizeOf56
  v60 := Tryd.zeroValue56
  i60 := by kernel_rfl
  t61 := Tryd.underlying57
  a61 := Tryd.isAgg57
  z61 := Tryd.sizeOf57
  t65 := Tryd.underlying61
  a65 := Tryd.isAgg61
  z65 := Tryd.sizeOf61
  v65 := Tryd.zeroValue61
  i65 := by kernel_rfl
  t66 := Tryd.underlying62
  a66 := Tryd.isAgg62
  z66 := Tryd.sizeOf62
  v66 := Tryd.zeroValue62
  i66 := by kernel_rfl
  t67 := Tryd.underlying65
  a67 := Tryd.isAgg65
  z67 := Tryd.sizeOf65
  v67 := Tryd.zeroValue65
  i67 := by kernel_rfl
  g0 := by kernel_rfl
  m0 := by kernel_rfl
  g1 := by kernel_rfl
  m1 := by kernel_rfl
  g2 := by kernel_rfl
  m2 := by kernel_rfl
  g3 := by kernel_rfl
  m3 := by kernel_rfl
  g4 := by kernel_rfl
  m4 := by kernel_rfl }
namespace Qxb6620940aDoor
open Go.RowKit

/-- strconv.ParseUint(s, 10, 16) of a string that is a port: no error. -/
theorem pu_ok (s : ByteArray) (hlim : s.size ≤ 281474976710656) (h : Plain.okP s.data.toList = true) (w : World) :
    Calls Tryd.prog 12 #[.string s, .int .i64 10, .int .i64 16] w fun e w' => ∃ u : Nat, e = .returned (.tuple #[.int .u64 u, .nilIface]) ∧ Below w.heap.size w w' := by
  unfold Plain.okP at h
  cases hp : Lib.parseUintB 16 s.data.toList with
  | ok u =>
    refine Calls.mono (show Calls Tryd.prog 12 #[.string s, .int .i64 10, .int .i64 16] w _ from Any.strconv_ParseUint_10_at16_ok Tryd.laysPu14 s (by omega) u hp w) ?_
    rintro e w' ⟨rfl, hw⟩
    refine ⟨u, rfl, ?_⟩
    rcases hw with rfl | rfl
    · exact Below.refl _ _
    · exact Lib.bytesWorld_below _ _ _
  | _ => rw [hp] at h; simp [Plain.isOk] at h

/-- strconv.ParseUint(s, 10, 16) of a string that is none: an error. -/
theorem pu_bad (s : ByteArray) (hlim : s.size ≤ 281474976710656) (h : Plain.okP s.data.toList = false) (w : World)
    (hS : ∃ t p, w.cell? ⟨0, 0, none⟩ = some (.iface t p)) (hR : ∃ t p, w.cell? ⟨1, 0, none⟩ = some (.iface t p)) :
    Calls Tryd.prog 12 #[.string s, .int .i64 10, .int .i64 16] w fun e w' => ∃ (u : Int) (N : Nat), e = .returned (.tuple #[.int .u64 u, .iface 35 (.pointer (some ⟨N, 0, none⟩))]) ∧ Below w.heap.size w w' := by
  obtain ⟨tS, pS, hS⟩ := hS
  obtain ⟨tR, pR, hR⟩ := hR
  unfold Plain.okP at h
  cases hp : Lib.parseUintB 16 s.data.toList
  case ok u => rw [hp] at h; simp [Plain.isOk] at h
  · refine Calls.mono (show Calls Tryd.prog 12 #[.string s, .int .i64 10, .int .i64 16] w _ from Any.strconv_ParseUint_10_at16_syntax Tryd.laysPu14 s hlim hp _ w hS (Or.inr ⟨_, _, rfl⟩)) ?_
    rintro e w' ⟨N, rfl, _, _, hb⟩
    exact ⟨0, N, rfl, hb⟩
  · refine Calls.mono (show Calls Tryd.prog 12 #[.string s, .int .i64 10, .int .i64 16] w _ from Any.strconv_ParseUint_10_at16_range Tryd.laysPu14 s hlim hp _ w hR (Or.inr ⟨_, _, rfl⟩)) ?_
    rintro e w' ⟨N, rfl, _, _, hb⟩
    exact ⟨65535, N, rfl, hb⟩
end Qxb6620940aDoor
end Go.Proofs
