import Derived.Test.YtlghdacdpkaoeaaGreatDoorK11
import Derived.Test.YtlghdacdpkaoeaaGreatDoorK14
import Derived.Test.YtlghdacdpkaoeaaGreatDoorK16
import Derived.Test.YtlghdacdpkaoeaaGreatDoorK18
namespace Go.Proofs.YtlghdacdpkaoeaaGreatDoor.PFnMasterLoose
open Go.RowKit Go.Proofs.YtlghdacdpkaoeaaGreatDoorW.PrintWords Go.Proofs.YtlghdacdpkaoeaaGreatDoorW.PrintLast Go.Proofs.YtlghdacdpkaoeaaGreatDoorW.PrintMore
attribute [local go_sem] max2_int min2_int max_two min_two max_three min_three max_four min_four
set_option linter.unusedVariables false
set_option linter.unusedSimpArgs false
mutual
def spec_Variant_attributes.j0 : Nat → List ByteArray → ByteArray → Int → Int → Int → ByteArray → Int → Int → ByteArray → ByteArray → ByteArray → ByteArray → ByteArray → Int → Option (List ByteArray)
  | 0, _, _, _, _, _, _, _, _, _, _, _, _, _, _ => none
  | k + 1, x3, x163000, x163001, x163002, x163003, x163004, x163005, x163006, x163007, x163008, x163009, x163010, x163011, x163012 => if x163004.toList = ([] : List UInt8) then (spec_Variant_attributes.j1 k x3 x163000 x163001 x163002 x163003 x163004 x163005 x163006 x163007 x163008 x163009 x163010 x163011 x163012) else ((spec_Line.f (⟨#[67, 79, 68, 69, 67, 83]⟩ : ByteArray) x163004 true).bind fun t175 => (if x3.length < 8796093022208 then (spec_Variant_attributes.j1 k (x3 ++ [t175]) x163000 x163001 x163002 x163003 x163004 x163005 x163006 x163007 x163008 x163009 x163010 x163011 x163012) else (none)))
def spec_Variant_attributes.j1 : Nat → List ByteArray → ByteArray → Int → Int → Int → ByteArray → Int → Int → ByteArray → ByteArray → ByteArray → ByteArray → ByteArray → Int → Option (List ByteArray)
  | 0, _, _, _, _, _, _, _, _, _, _, _, _, _, _ => none
  | k + 1, x3, x163000, x163001, x163002, x163003, x163004, x163005, x163006, x163007, x163008, x163009, x163010, x163011, x163012 => if x163005 > 0 then ((spec_Variant_Resolution.f k x163000 x163001 x163002 x163003 x163004 x163005 x163006 x163007 x163008 x163009 x163010 x163011 x163012).bind fun t179 => ((spec_Line.f (⟨#[82, 69, 83, 79, 76, 85, 84, 73, 79, 78]⟩ : ByteArray) t179 false).bind fun t180 => (if x3.length < 8796093022208 then (spec_Variant_attributes.j2 k (x3 ++ [t180]) x163000 x163001 x163002 x163003 x163004 x163005 x163006 x163007 x163008 x163009 x163010 x163011 x163012) else (none)))) else (spec_Variant_attributes.j2 k x3 x163000 x163001 x163002 x163003 x163004 x163005 x163006 x163007 x163008 x163009 x163010 x163011 x163012)
def spec_Variant_attributes.j2 : Nat → List ByteArray → ByteArray → Int → Int → Int → ByteArray → Int → Int → ByteArray → ByteArray → ByteArray → ByteArray → ByteArray → Int → Option (List ByteArray)
  | 0, _, _, _, _, _, _, _, _, _, _, _, _, _, _ => none
  | k + 1, x3, x163000, x163001, x163002, x163003, x163004, x163005, x163006, x163007, x163008, x163009, x163010, x163011, x163012 => if x163007.toList = ([] : List UInt8) then (spec_Variant_attributes.j3 k x3 x163000 x163001 x163002 x163003 x163004 x163005 x163006 x163007 x163008 x163009 x163010 x163011 x163012) else ((spec_Line.f (⟨#[65, 85, 68, 73, 79]⟩ : ByteArray) x163007 true).bind fun t184 => (if x3.length < 8796093022208 then (spec_Variant_attributes.j3 k (x3 ++ [t184]) x163000 x163001 x163002 x163003 x163004 x163005 x163006 x163007 x163008 x163009 x163010 x163011 x163012) else (none)))
def spec_Variant_attributes.j3 : Nat → List ByteArray → ByteArray → Int → Int → Int → ByteArray → Int → Int → ByteArray → ByteArray → ByteArray → ByteArray → ByteArray → Int → Option (List ByteArray)
  | 0, _, _, _, _, _, _, _, _, _, _, _, _, _, _ => none
  | k + 1, x3, x163000, x163001, x163002, x163003, x163004, x163005, x163006, x163007, x163008, x163009, x163010, x163011, x163012 => if x163008.toList = ([] : List UInt8) then (spec_Variant_attributes.j4 k x3 x163000 x163001 x163002 x163003 x163004 x163005 x163006 x163007 x163008 x163009 x163010 x163011 x163012) else ((spec_Line.f (⟨#[86, 73, 68, 69, 79]⟩ : ByteArray) x163008 true).bind fun t188 => (if x3.length < 8796093022208 then (spec_Variant_attributes.j4 k (x3 ++ [t188]) x163000 x163001 x163002 x163003 x163004 x163005 x163006 x163007 x163008 x163009 x163010 x163011 x163012) else (none)))
def spec_Variant_attributes.j4 : Nat → List ByteArray → ByteArray → Int → Int → Int → ByteArray → Int → Int → ByteArray → ByteArray → ByteArray → ByteArray → ByteArray → Int → Option (List ByteArray)
  | 0, _, _, _, _, _, _, _, _, _, _, _, _, _, _ => none
  | k + 1, x3, x163000, x163001, x163002, x163003, x163004, x163005, x163006, x163007, x163008, x163009, x163010, x163011, x163012 => if x163010.toList = ([] : List UInt8) then (spec_Variant_attributes.j5 k x3 x163000 x163001 x163002 x163003 x163004 x163005 x163006 x163007 x163008 x163009 x163010 x163011 x163012) else ((spec_Line.f (⟨#[67, 76, 79, 83, 69, 68, 45, 67, 65, 80, 84, 73, 79, 78, 83]⟩ : ByteArray) x163010 (x163010.toList != ([78, 79, 78, 69] : List UInt8))).bind fun t192 => (if x3.length < 8796093022208 then (spec_Variant_attributes.j5 k (x3 ++ [t192]) x163000 x163001 x163002 x163003 x163004 x163005 x163006 x163007 x163008 x163009 x163010 x163011 x163012) else (none)))
def spec_Variant_attributes.j5 : Nat → List ByteArray → ByteArray → Int → Int → Int → ByteArray → Int → Int → ByteArray → ByteArray → ByteArray → ByteArray → ByteArray → Int → Option (List ByteArray)
  | 0, _, _, _, _, _, _, _, _, _, _, _, _, _, _ => none
  | k + 1, x3, x163000, x163001, x163002, x163003, x163004, x163005, x163006, x163007, x163008, x163009, x163010, x163011, x163012 => if x163009.toList = ([] : List UInt8) then (spec_Variant_attributes.j6 k x3 x163000 x163001 x163002 x163003 x163004 x163005 x163006 x163007 x163008 x163009 x163010 x163011 x163012) else ((spec_Line.f (⟨#[83, 85, 66, 84, 73, 84, 76, 69, 83]⟩ : ByteArray) x163009 true).bind fun t196 => (if x3.length < 8796093022208 then (spec_Variant_attributes.j6 k (x3 ++ [t196]) x163000 x163001 x163002 x163003 x163004 x163005 x163006 x163007 x163008 x163009 x163010 x163011 x163012) else (none)))
def spec_Variant_attributes.j6 : Nat → List ByteArray → ByteArray → Int → Int → Int → ByteArray → Int → Int → ByteArray → ByteArray → ByteArray → ByteArray → ByteArray → Int → Option (List ByteArray)
  | 0, _, _, _, _, _, _, _, _, _, _, _, _, _, _ => none
  | k + 1, x3, x163000, x163001, x163002, x163003, x163004, x163005, x163006, x163007, x163008, x163009, x163010, x163011, x163012 => if x163011.toList = ([] : List UInt8) then (spec_Variant_attributes.j7 k x3 x163000 x163001 x163002 x163003 x163004 x163005 x163006 x163007 x163008 x163009 x163010 x163011 x163012) else ((spec_Line.f (⟨#[78, 65, 77, 69]⟩ : ByteArray) x163011 true).bind fun t200 => (if x3.length < 8796093022208 then (spec_Variant_attributes.j7 k (x3 ++ [t200]) x163000 x163001 x163002 x163003 x163004 x163005 x163006 x163007 x163008 x163009 x163010 x163011 x163012) else (none)))
def spec_Variant_attributes.j7 : Nat → List ByteArray → ByteArray → Int → Int → Int → ByteArray → Int → Int → ByteArray → ByteArray → ByteArray → ByteArray → ByteArray → Int → Option (List ByteArray)
  | 0, _, _, _, _, _, _, _, _, _, _, _, _, _, _ => none
  | k + 1, x3, x163000, x163001, x163002, x163003, x163004, x163005, x163006, x163007, x163008, x163009, x163010, x163011, x163012 => if x163012 > 0 then ((spec_seconds.f k x163012).bind fun t204 => ((spec_Line.f (⟨#[70, 82, 65, 77, 69, 45, 82, 65, 84, 69]⟩ : ByteArray) t204 false).bind fun t205 => (if x3.length < 8796093022208 then (some (x3 ++ [t205])) else (none)))) else (some x3)
end
def spec_Variant_attributes.f (k : Nat) (a0_0 : ByteArray) (a0_1 : Int) (a0_2 : Int) (a0_3 : Int) (a0_4 : ByteArray) (a0_5 : Int) (a0_6 : Int) (a0_7 : ByteArray) (a0_8 : ByteArray) (a0_9 : ByteArray) (a0_10 : ByteArray) (a0_11 : ByteArray) (a0_12 : Int) : Option (List ByteArray) := (spec_Decimal.f k (IntKind.u64.wrap (a0_1))).bind fun t163 => ((spec_Line.f (⟨#[80, 82, 79, 71, 82, 65, 77, 45, 73, 68]⟩ : ByteArray) t163 false).bind fun t164 => ((spec_Decimal.f k (IntKind.u64.wrap (a0_2))).bind fun t165 => ((spec_Line.f (⟨#[66, 65, 78, 68, 87, 73, 68, 84, 72]⟩ : ByteArray) t165 false).bind fun t166 => ((some (([t164, t166] : List ByteArray) : List ByteArray)).bind fun y167 => (if a0_3 > 0 then ((spec_Decimal.f k (IntKind.u64.wrap (a0_3))).bind fun t170 => ((spec_Line.f (⟨#[65, 86, 69, 82, 65, 71, 69, 45, 66, 65, 78, 68, 87, 73, 68, 84, 72]⟩ : ByteArray) t170 false).bind fun t171 => (if y167.length < 8796093022208 then (spec_Variant_attributes.j0 k (y167 ++ [t171]) a0_0 a0_1 a0_2 a0_3 a0_4 a0_5 a0_6 a0_7 a0_8 a0_9 a0_10 a0_11 a0_12) else (none)))) else (spec_Variant_attributes.j0 k y167 a0_0 a0_1 a0_2 a0_3 a0_4 a0_5 a0_6 a0_7 a0_8 a0_9 a0_10 a0_11 a0_12))))))
def spec_Variant_attributes.T1 : Bool × List (List Nat × List Nat) := (true, [([], []), ([0], [0]), ([1], [1]), ([2], [2]), ([3, 3], [3]), ([], []), ([5], [5]), ([6], [6]), ([7, 4], [7]), ([8, 8], [8]), ([4, 9], [4, 9]), ([10, 9, 0, 1, 2, 3, 4, 5, 6, 7, 8, 9, 10], [10])])
def spec_Variant_attributes.B1 : List Nat := [0, 1, 3, 7, 15, 0, 32, 96, 255, 511, 1023, 2047]
theorem spec_Variant_attributes.tab1 : rtab .any (opsOf Tryz.f16 1) = spec_Variant_attributes.T1 := by kernel_rfl
theorem spec_Variant_attributes.bits1 : waitsOk spec_Variant_attributes.T1.2 spec_Variant_attributes.B1 = true := by kernel_rfl
set_option maxHeartbeats 8000000 in
set_option maxRecDepth 100000 in
theorem spec_Variant_attributes.calls (k : Nat) (a0_0 : ByteArray) (a0_1 : Int) (a0_2 : Int) (a0_3 : Int) (a0_4 : ByteArray) (a0_5 : Int) (a0_6 : Int) (a0_7 : ByteArray) (a0_8 : ByteArray) (a0_9 : ByteArray) (a0_10 : ByteArray) (a0_11 : ByteArray) (a0_12 : Int) (r : List ByteArray) (w : World) (h : spec_Variant_attributes.f k a0_0 a0_1 a0_2 a0_3 a0_4 a0_5 a0_6 a0_7 a0_8 a0_9 a0_10 a0_11 a0_12 = some r) :
    Calls Tryz.prog 16 #[.agg #[.string a0_0, .int .u32 a0_1, .int .u32 a0_2, .int .u32 a0_3, .string a0_4, .int .u32 a0_5, .int .u32 a0_6, .string a0_7, .string a0_8, .string a0_9, .string a0_10, .string a0_11, .int .i64 a0_12]] w fun e w' => ∃ v0_ : Value, e = .returned (v0_) ∧ Kd.R Kd.string 9 w' w.heap.size (fun _ => True) v0_ r ∧ Below w.heap.size w w' := by
  have hu44 := Tryz.underlying44
  have HB := Aside0.mk (Below.refl w.heap.size w)
  have H : ((spec_Decimal.f k (IntKind.u64.wrap (a0_1))).bind fun t163 => ((spec_Line.f (⟨#[80, 82, 79, 71, 82, 65, 77, 45, 73, 68]⟩ : ByteArray) t163 false).bind fun t164 => ((spec_Decimal.f k (IntKind.u64.wrap (a0_2))).bind fun t165 => ((spec_Line.f (⟨#[66, 65, 78, 68, 87, 73, 68, 84, 72]⟩ : ByteArray) t165 false).bind fun t166 => ((some (([t164, t166] : List ByteArray) : List ByteArray)).bind fun y167 => (if a0_3 > 0 then ((spec_Decimal.f k (IntKind.u64.wrap (a0_3))).bind fun t170 => ((spec_Line.f (⟨#[65, 86, 69, 82, 65, 71, 69, 45, 66, 65, 78, 68, 87, 73, 68, 84, 72]⟩ : ByteArray) t170 false).bind fun t171 => (if y167.length < 8796093022208 then (spec_Variant_attributes.j0 k (y167 ++ [t171]) a0_0 a0_1 a0_2 a0_3 a0_4 a0_5 a0_6 a0_7 a0_8 a0_9 a0_10 a0_11 a0_12) else (none)))) else (spec_Variant_attributes.j0 k y167 a0_0 a0_1 a0_2 a0_3 a0_4 a0_5 a0_6 a0_7 a0_8 a0_9 a0_10 a0_11 a0_12))))))) = some r := h
  clear h
  replace H := Option.bind_eq_some_iff.mp H
  obtain ⟨t163, A20, H⟩ := H
  replace H : ((spec_Line.f (⟨#[80, 82, 79, 71, 82, 65, 77, 45, 73, 68]⟩ : ByteArray) t163 false).bind fun t164 => ((spec_Decimal.f k (IntKind.u64.wrap (a0_2))).bind fun t165 => ((spec_Line.f (⟨#[66, 65, 78, 68, 87, 73, 68, 84, 72]⟩ : ByteArray) t165 false).bind fun t166 => ((some (([t164, t166] : List ByteArray) : List ByteArray)).bind fun y167 => (if a0_3 > 0 then ((spec_Decimal.f k (IntKind.u64.wrap (a0_3))).bind fun t170 => ((spec_Line.f (⟨#[65, 86, 69, 82, 65, 71, 69, 45, 66, 65, 78, 68, 87, 73, 68, 84, 72]⟩ : ByteArray) t170 false).bind fun t171 => (if y167.length < 8796093022208 then (spec_Variant_attributes.j0 k (y167 ++ [t171]) a0_0 a0_1 a0_2 a0_3 a0_4 a0_5 a0_6 a0_7 a0_8 a0_9 a0_10 a0_11 a0_12) else (none)))) else (spec_Variant_attributes.j0 k y167 a0_0 a0_1 a0_2 a0_3 a0_4 a0_5 a0_6 a0_7 a0_8 a0_9 a0_10 a0_11 a0_12)))))) = some r := H
  have A2 := Aside0.mk A20
  clear A20
  replace H := Option.bind_eq_some_iff.mp H
  obtain ⟨t164, A30, H⟩ := H
  replace H : ((spec_Decimal.f k (IntKind.u64.wrap (a0_2))).bind fun t165 => ((spec_Line.f (⟨#[66, 65, 78, 68, 87, 73, 68, 84, 72]⟩ : ByteArray) t165 false).bind fun t166 => ((some (([t164, t166] : List ByteArray) : List ByteArray)).bind fun y167 => (if a0_3 > 0 then ((spec_Decimal.f k (IntKind.u64.wrap (a0_3))).bind fun t170 => ((spec_Line.f (⟨#[65, 86, 69, 82, 65, 71, 69, 45, 66, 65, 78, 68, 87, 73, 68, 84, 72]⟩ : ByteArray) t170 false).bind fun t171 => (if y167.length < 8796093022208 then (spec_Variant_attributes.j0 k (y167 ++ [t171]) a0_0 a0_1 a0_2 a0_3 a0_4 a0_5 a0_6 a0_7 a0_8 a0_9 a0_10 a0_11 a0_12) else (none)))) else (spec_Variant_attributes.j0 k y167 a0_0 a0_1 a0_2 a0_3 a0_4 a0_5 a0_6 a0_7 a0_8 a0_9 a0_10 a0_11 a0_12))))) = some r := H
  have A3 := Aside0.mk A30
  clear A30
  replace H := Option.bind_eq_some_iff.mp H
  obtain ⟨t165, A40, H⟩ := H
  replace H : ((spec_Line.f (⟨#[66, 65, 78, 68, 87, 73, 68, 84, 72]⟩ : ByteArray) t165 false).bind fun t166 => ((some (([t164, t166] : List ByteArray) : List ByteArray)).bind fun y167 => (if a0_3 > 0 then ((spec_Decimal.f k (IntKind.u64.wrap (a0_3))).bind fun t170 => ((spec_Line.f (⟨#[65, 86, 69, 82, 65, 71, 69, 45, 66, 65, 78, 68, 87, 73, 68, 84, 72]⟩ : ByteArray) t170 false).bind fun t171 => (if y167.length < 8796093022208 then (spec_Variant_attributes.j0 k (y167 ++ [t171]) a0_0 a0_1 a0_2 a0_3 a0_4 a0_5 a0_6 a0_7 a0_8 a0_9 a0_10 a0_11 a0_12) else (none)))) else (spec_Variant_attributes.j0 k y167 a0_0 a0_1 a0_2 a0_3 a0_4 a0_5 a0_6 a0_7 a0_8 a0_9 a0_10 a0_11 a0_12)))) = some r := H
  have A4 := Aside0.mk A40
  clear A40
  replace H := Option.bind_eq_some_iff.mp H
  obtain ⟨t166, A50, H⟩ := H
  replace H : ((some (([t164, t166] : List ByteArray) : List ByteArray)).bind fun y167 => (if a0_3 > 0 then ((spec_Decimal.f k (IntKind.u64.wrap (a0_3))).bind fun t170 => ((spec_Line.f (⟨#[65, 86, 69, 82, 65, 71, 69, 45, 66, 65, 78, 68, 87, 73, 68, 84, 72]⟩ : ByteArray) t170 false).bind fun t171 => (if y167.length < 8796093022208 then (spec_Variant_attributes.j0 k (y167 ++ [t171]) a0_0 a0_1 a0_2 a0_3 a0_4 a0_5 a0_6 a0_7 a0_8 a0_9 a0_10 a0_11 a0_12) else (none)))) else (spec_Variant_attributes.j0 k y167 a0_0 a0_1 a0_2 a0_3 a0_4 a0_5 a0_6 a0_7 a0_8 a0_9 a0_10 a0_11 a0_12))) = some r := H
  have A5 := Aside0.mk A50
  clear A50
  obtain ⟨y167, hy167⟩ : ∃ y_ : List ByteArray, y_ = (([t164, t166] : List ByteArray)) := ⟨_, rfl⟩
  replace H : (if a0_3 > 0 then ((spec_Decimal.f k (IntKind.u64.wrap (a0_3))).bind fun t170 => ((spec_Line.f (⟨#[65, 86, 69, 82, 65, 71, 69, 45, 66, 65, 78, 68, 87, 73, 68, 84, 72]⟩ : ByteArray) t170 false).bind fun t171 => (if y167.length < 8796093022208 then (spec_Variant_attributes.j0 k (y167 ++ [t171]) a0_0 a0_1 a0_2 a0_3 a0_4 a0_5 a0_6 a0_7 a0_8 a0_9 a0_10 a0_11 a0_12) else (none)))) else (spec_Variant_attributes.j0 k y167 a0_0 a0_1 a0_2 a0_3 a0_4 a0_5 a0_6 a0_7 a0_8 a0_9 a0_10 a0_11 a0_12)) = some r := by first | (rw [hy167]; with_reducible exact H) | (have H2_ := (Option.bind_some _ _).symm.trans H; rw [hy167]; with_reducible exact H2_) | (have H2_ := (Option.bind_some _ _).symm.trans H; with_reducible exact H2_) | with_reducible exact H | (rw [hy167]; exact H) | exact H
  have Ny167 := Aside0.mk hy167
  clear hy167
  have HC6 := Aside0.mk H
  clear H
  go_enter Tryz.func16, Tryz.ntmps16
  try go_wp2_with (first | ((with_reducible refine gate_dst (N := 1) rfl ?_); refine box_event ?hg (N := 1) ?hd (cs := #[.string a0_0, .int .u32 a0_1, .int .u32 a0_2, .int .u32 a0_3, .string a0_4, .int .u32 a0_5, .int .u32 a0_6, .string a0_7, .string a0_8, .string a0_9, .string a0_10, .string a0_11, .int .i64 a0_12]) (t := 44) ?hr ?_; (case hd => rfl); (case hg => rfl); (case hr => first | (go_simp; done) | (go_simp; rfl)); intro gb162 hg w7 hbox hb; have n0_ := Aside0.mk (below_step (by repeat (first | (with_reducible first | exact HB.out | apply below_alloc | apply pw_below_drewN | apply below_drew1) | exact HB.out)) hb); have n1_ := Aside0.mk (hbox); have n2_ := Aside0.mk ((by rw [hg]; exact (below_size (by repeat (first | (with_reducible first | exact HB.out | apply below_alloc | apply pw_below_drewN | apply below_drew1) | exact HB.out))) : w.heap.size ≤ gb162)); have n3_ := Aside0.mk ((by rw [hg]; exact (below_size (by repeat (first | (with_reducible first | exact HB.out | apply below_alloc | apply pw_below_drewN | apply below_drew1) | exact HB.out))) : w.heap.size ≤ gb162)); clear HB; have HB := n0_; have BK162 := n1_; have GW162 := n2_; have GE162 := n3_; clear n0_ n1_ n2_ n3_; clear hb hbox hg))
  have n0_ := Aside0.mk (blk_drew BK162.out)
  have n1_ := Aside0.mk (below_drew1 HB.out)
  clear BK162
  clear HB
  have BK162 := n0_
  have HB := n1_
  clear n0_ n1_
  refine start_ (n := 12) (S := fun w' => w'.cell? ⟨gb162, 0, none⟩ = some (.string a0_0) ∧ w'.cell? ⟨gb162, 1, none⟩ = some (.int .u32 a0_1) ∧ w'.cell? ⟨gb162, 2, none⟩ = some (.int .u32 a0_2) ∧ w'.cell? ⟨gb162, 3, none⟩ = some (.int .u32 a0_3) ∧ w'.cell? ⟨gb162, 4, none⟩ = some (.string a0_4) ∧ w'.cell? ⟨gb162, 5, none⟩ = some (.int .u32 a0_5) ∧ w'.cell? ⟨gb162, 6, none⟩ = some (.int .u32 a0_6) ∧ w'.cell? ⟨gb162, 7, none⟩ = some (.string a0_7) ∧ w'.cell? ⟨gb162, 8, none⟩ = some (.string a0_8) ∧ w'.cell? ⟨gb162, 9, none⟩ = some (.string a0_9) ∧ w'.cell? ⟨gb162, 10, none⟩ = some (.string a0_10) ∧ w'.cell? ⟨gb162, 11, none⟩ = some (.string a0_11) ∧ w'.cell? ⟨gb162, 12, none⟩ = some (.int .i64 a0_12)) (ds := []) #[false, false, false, false, false, false, false, false, false, false, false, false] (by kernel_rfl) rfl rfl ⟨(blk_cell BK162.out 0).trans rfl, (blk_cell BK162.out 1).trans rfl, (blk_cell BK162.out 2).trans rfl, (blk_cell BK162.out 3).trans rfl, (blk_cell BK162.out 4).trans rfl, (blk_cell BK162.out 5).trans rfl, (blk_cell BK162.out 6).trans rfl, (blk_cell BK162.out 7).trans rfl, (blk_cell BK162.out 8).trans rfl, (blk_cell BK162.out 9).trans rfl, (blk_cell BK162.out 10).trans rfl, (blk_cell BK162.out 11).trans rfl, (blk_cell BK162.out 12).trans rfl⟩ (fun hHeld => ?_); refine with_tabW spec_Variant_attributes.tab1 spec_Variant_attributes.bits1 (fun HT_ HW_ => ?_)
  generalize w7.drew = w8 at BK162 HB hHeld ⊢
  refine pure_ (i := 0) (N := some 4) (v := ?_) (a' := ?_) #[true, false, false, false, false, false, false, false, false, false, false, false] rfl rfl (any_of HT_.out (by kernel_rfl)) (fun _ _ _ h => h) (Or.inl ⟨by rfl, ?_⟩) ?_ ?_
  rotate_left
  · intro w'
    go_simp
    with_reducible rfl
  rotate_left
  · simp only [Act.put, List.setIfInBounds_toArray, List.set_cons_zero, List.set_cons_succ, i64_w, i32_w]
    rfl
  refine pure_ (i := 5) (N := some 9) (v := ?_) (a' := ?_) #[true, false, false, false, false, true, false, false, false, false, false, false] rfl rfl (any_of HT_.out (by kernel_rfl)) (fun _ _ _ h => h) (Or.inl ⟨by rfl, ?_⟩) ?_ ?_
  rotate_left
  · intro w'
    go_simp
    with_reducible rfl
  rotate_left
  · simp only [Act.put, List.setIfInBounds_toArray, List.set_cons_zero, List.set_cons_succ, i64_w, i32_w]
    rfl
  refine take_ (i := 1) (N := some 5) (v := ?_) (a' := ?_) #[true, true, false, false, false, true, false, false, false, false, false, false] rfl rfl (take_ofW HT_.out HW_.out (by kernel_rfl)) (fun _ _ _ h => h) (Or.inl ⟨by rfl, ?_⟩) hHeld ?_ ?_
  rotate_left
  · rintro w' ⟨s0, s1, s2, s3, s4, s5, s6, s7, s8, s9, s10, s11, s12⟩
    go_simp
    with_reducible rfl
  rotate_left
  · simp only [Act.put, List.setIfInBounds_toArray, List.set_cons_zero, List.set_cons_succ, i64_w, i32_w]
    rfl
  refine pure_ (i := 2) (N := some 6) (v := ?_) (a' := ?_) #[true, true, true, false, false, true, false, false, false, false, false, false] rfl rfl (any_of HT_.out (by kernel_rfl)) (fun _ _ _ h => h) (Or.inl ⟨by rfl, ?_⟩) ?_ ?_
  rotate_left
  · intro w'
    go_simp
    with_reducible rfl
  rotate_left
  · simp only [Act.put, List.setIfInBounds_toArray, List.set_cons_zero, List.set_cons_succ, i64_w, i32_w]
    rfl
  refine take_ (i := 6) (N := some 10) (v := ?_) (a' := ?_) #[true, true, true, false, false, true, true, false, false, false, false, false] rfl rfl (take_ofW HT_.out HW_.out (by kernel_rfl)) (fun _ _ _ h => h) (Or.inl ⟨by rfl, ?_⟩) hHeld ?_ ?_
  rotate_left
  · rintro w' ⟨s0, s1, s2, s3, s4, s5, s6, s7, s8, s9, s10, s11, s12⟩
    go_simp
    with_reducible rfl
  rotate_left
  · simp only [Act.put, List.setIfInBounds_toArray, List.set_cons_zero, List.set_cons_succ, i64_w, i32_w]
    rfl
  refine pure_ (i := 7) (N := some 11) (v := ?_) (a' := ?_) #[true, true, true, false, false, true, true, true, false, false, false, false] rfl rfl (any_of HT_.out (by kernel_rfl)) (fun _ _ _ h => h) (Or.inl ⟨by rfl, ?_⟩) ?_ ?_
  rotate_left
  · intro w'
    go_simp
    with_reducible rfl
  rotate_left
  · simp only [Act.put, List.setIfInBounds_toArray, List.set_cons_zero, List.set_cons_succ, i64_w, i32_w]
    rfl
  refine one_ (i := 3) (N := some 7) #[true, true, true, true, false, true, true, true, false, false, false, false] rfl rfl (one_of HT_.out (by kernel_rfl)) (by decide) (fun K hK => ?_)
  refine goes_ Tryz.func11 (by kernel_rfl) rfl #[.int .u64 (IntKind.u64.wrap (a0_1))] (by rfl) rfl rfl (by (try simp only [List.map_toArray, List.map_cons, List.map_nil]); first | done | rfl | (simp only [List.length_drop, List.length_take]; rfl)) ?_
  with_reducible refine (spec_Decimal.calls k (IntKind.u64.wrap (a0_1)) t163 _ A2.out).mono ?_
  rintro e w' ⟨rfl, ⟨nd, rfl⟩⟩
  refine ⟨_, rfl, ?_⟩
  refine hK.out _ _ ⟨(blk_cell BK162.out 0).trans rfl, (blk_cell BK162.out 1).trans rfl, (blk_cell BK162.out 2).trans rfl, (blk_cell BK162.out 3).trans rfl, (blk_cell BK162.out 4).trans rfl, (blk_cell BK162.out 5).trans rfl, (blk_cell BK162.out 6).trans rfl, (blk_cell BK162.out 7).trans rfl, (blk_cell BK162.out 8).trans rfl, (blk_cell BK162.out 9).trans rfl, (blk_cell BK162.out 10).trans rfl, (blk_cell BK162.out 11).trans rfl, (blk_cell BK162.out 12).trans rfl⟩ (fun hHeld => ?_)
  clear hK K
  refine norm_ (a' := ?_) ?_ ?_
  rotate_left
  · show Act.put _ (some 7) _ = _
    simp only [Act.put, List.setIfInBounds_toArray, List.set_cons_zero, List.set_cons_succ, i64_w, i32_w]
    rfl
  refine one_ (i := 4) (N := some 8) #[true, true, true, true, true, true, true, true, false, false, false, false] rfl rfl (one_of HT_.out (by kernel_rfl)) (by decide) (fun K hK => ?_)
  refine goes_ Tryz.func24 (by kernel_rfl) rfl #[.string (⟨#[80, 82, 79, 71, 82, 65, 77, 45, 73, 68]⟩ : ByteArray), .string t163, .bool false] (by rfl) rfl rfl (by (try simp only [List.map_toArray, List.map_cons, List.map_nil]); first | done | rfl | (simp only [List.length_drop, List.length_take]; rfl)) ?_
  with_reducible refine (spec_Line.calls (⟨#[80, 82, 79, 71, 82, 65, 77, 45, 73, 68]⟩ : ByteArray) t163 false t164 _ A3.out).mono ?_
  rintro e w' ⟨rfl, ⟨nd, rfl⟩⟩
  refine ⟨_, rfl, ?_⟩
  refine hK.out _ _ ⟨(blk_cell BK162.out 0).trans rfl, (blk_cell BK162.out 1).trans rfl, (blk_cell BK162.out 2).trans rfl, (blk_cell BK162.out 3).trans rfl, (blk_cell BK162.out 4).trans rfl, (blk_cell BK162.out 5).trans rfl, (blk_cell BK162.out 6).trans rfl, (blk_cell BK162.out 7).trans rfl, (blk_cell BK162.out 8).trans rfl, (blk_cell BK162.out 9).trans rfl, (blk_cell BK162.out 10).trans rfl, (blk_cell BK162.out 11).trans rfl, (blk_cell BK162.out 12).trans rfl⟩ (fun hHeld => ?_)
  clear hK K
  refine norm_ (a' := ?_) ?_ ?_
  rotate_left
  · show Act.put _ (some 8) _ = _
    simp only [Act.put, List.setIfInBounds_toArray, List.set_cons_zero, List.set_cons_succ, i64_w, i32_w]
    rfl
  refine one_ (i := 8) (N := some 12) #[true, true, true, true, true, true, true, true, true, false, false, false] rfl rfl (one_of HT_.out (by kernel_rfl)) (by decide) (fun K hK => ?_)
  refine goes_ Tryz.func11 (by kernel_rfl) rfl #[.int .u64 (IntKind.u64.wrap (a0_2))] (by rfl) rfl rfl (by (try simp only [List.map_toArray, List.map_cons, List.map_nil]); first | done | rfl | (simp only [List.length_drop, List.length_take]; rfl)) ?_
  with_reducible refine (spec_Decimal.calls k (IntKind.u64.wrap (a0_2)) t165 _ A4.out).mono ?_
  rintro e w' ⟨rfl, ⟨nd, rfl⟩⟩
  refine ⟨_, rfl, ?_⟩
  refine hK.out _ _ ⟨(blk_cell BK162.out 0).trans rfl, (blk_cell BK162.out 1).trans rfl, (blk_cell BK162.out 2).trans rfl, (blk_cell BK162.out 3).trans rfl, (blk_cell BK162.out 4).trans rfl, (blk_cell BK162.out 5).trans rfl, (blk_cell BK162.out 6).trans rfl, (blk_cell BK162.out 7).trans rfl, (blk_cell BK162.out 8).trans rfl, (blk_cell BK162.out 9).trans rfl, (blk_cell BK162.out 10).trans rfl, (blk_cell BK162.out 11).trans rfl, (blk_cell BK162.out 12).trans rfl⟩ (fun hHeld => ?_)
  clear hK K
  refine norm_ (a' := ?_) ?_ ?_
  rotate_left
  · show Act.put _ (some 12) _ = _
    simp only [Act.put, List.setIfInBounds_toArray, List.set_cons_zero, List.set_cons_succ, i64_w, i32_w]
    rfl
  refine one_ (i := 9) (N := some 13) #[true, true, true, true, true, true, true, true, true, true, false, false] rfl rfl (one_of HT_.out (by kernel_rfl)) (by decide) (fun K hK => ?_)
  refine goes_ Tryz.func24 (by kernel_rfl) rfl #[.string (⟨#[66, 65, 78, 68, 87, 73, 68, 84, 72]⟩ : ByteArray), .string t165, .bool false] (by rfl) rfl rfl (by (try simp only [List.map_toArray, List.map_cons, List.map_nil]); first | done | rfl | (simp only [List.length_drop, List.length_take]; rfl)) ?_
  with_reducible refine (spec_Line.calls (⟨#[66, 65, 78, 68, 87, 73, 68, 84, 72]⟩ : ByteArray) t165 false t166 _ A5.out).mono ?_
  rintro e w' ⟨rfl, ⟨nd, rfl⟩⟩
  refine ⟨_, rfl, ?_⟩
  refine hK.out _ _ ⟨(blk_cell BK162.out 0).trans rfl, (blk_cell BK162.out 1).trans rfl, (blk_cell BK162.out 2).trans rfl, (blk_cell BK162.out 3).trans rfl, (blk_cell BK162.out 4).trans rfl, (blk_cell BK162.out 5).trans rfl, (blk_cell BK162.out 6).trans rfl, (blk_cell BK162.out 7).trans rfl, (blk_cell BK162.out 8).trans rfl, (blk_cell BK162.out 9).trans rfl, (blk_cell BK162.out 10).trans rfl, (blk_cell BK162.out 11).trans rfl, (blk_cell BK162.out 12).trans rfl⟩ (fun hHeld => ?_)
  clear hK K
  refine norm_ (a' := ?_) ?_ ?_
  rotate_left
  · show Act.put _ (some 13) _ = _
    simp only [Act.put, List.setIfInBounds_toArray, List.set_cons_zero, List.set_cons_succ, i64_w, i32_w]
    rfl
  refine one_ (i := 10) (N := some 14) #[true, true, true, true, true, true, true, true, true, true, true, false] rfl rfl (one_of HT_.out (by kernel_rfl)) (by decide) (fun K hK => ?_)
  refine Kd.R_lit_step Kd.string _ 9 ?hg (N := 14) ?hd (xs := ([t164, t166] : List ByteArray)) (inner := [.string t164, .string t166]) (ok := fun _ => True) (okp := fun _ => True) ?hr ?hp (fun _ hk => hk) trivial (Below.refl _ _) (Nat.le_refl _) (by simp) ?_; (case hd => rfl); (case hg => rfl); (case hr => first | (go_simp; done) | (go_simp; rfl)); (case hp => exact (Reps.one (show Kd.M Kd.string _ _ _ t164 [.string t164] from rfl) (Reps.one (show Kd.M Kd.string _ _ _ t166 [.string t166] from rfl) (Reps.none _ _))))
  intro v168 w9 ho10 hb hg_ hnew_
  clear hg_ hnew_
  (first | rw [← Ny167.out] at ho10 | (simp only [Int.reduceToNat] at ho10; rw [← Ny167.out] at ho10))
  have n0_ := Aside0.mk (Kd.R_lower ho10 (below_size (by repeat (first | (with_reducible first | exact HB.out | apply below_alloc | apply pw_below_drewN | apply below_drew1 | refine below_set ?_ GE162.out) | exact HB.out))))
  have n1_ := Aside0.mk (blk_below (g := gb162) (o := .cells #[.string a0_0, .int .u32 a0_1, .int .u32 a0_2, .int .u32 a0_3, .string a0_4, .int .u32 a0_5, .int .u32 a0_6, .string a0_7, .string a0_8, .string a0_9, .string a0_10, .string a0_11, .int .i64 a0_12] 44 (0, 0)) (by (with_reducible repeat (first | refine blk_drewN ?_ _ | refine blk_drew ?_ | refine blk_alloc ?_ _)); exact BK162.out) hb)
  have n2_ := Aside0.mk (below_step (by repeat (first | (with_reducible first | exact HB.out | apply below_alloc | apply pw_below_drewN | apply below_drew1 | refine below_set ?_ GE162.out) | exact HB.out)) hb)
  clear BK162
  clear HB
  have HO169 := n0_
  have BK162 := n1_
  have HB := n2_
  clear n0_ n1_ n2_
  clear hb ho10
  refine hK.out _ _ ⟨(blk_cell BK162.out 0).trans rfl, (blk_cell BK162.out 1).trans rfl, (blk_cell BK162.out 2).trans rfl, (blk_cell BK162.out 3).trans rfl, (blk_cell BK162.out 4).trans rfl, (blk_cell BK162.out 5).trans rfl, (blk_cell BK162.out 6).trans rfl, (blk_cell BK162.out 7).trans rfl, (blk_cell BK162.out 8).trans rfl, (blk_cell BK162.out 9).trans rfl, (blk_cell BK162.out 10).trans rfl, (blk_cell BK162.out 11).trans rfl, (blk_cell BK162.out 12).trans rfl⟩ (fun hHeld => ?_)
  clear hK K
  refine norm_ (a' := ?_) ?_ ?_
  rotate_left
  · show Act.put _ (some 14) _ = _
    simp only [Act.put, List.setIfInBounds_toArray, List.set_cons_zero, List.set_cons_succ, i64_w, i32_w]
    rfl
  refine pure_ (i := 11) (N := some 3) (v := ?_) (a' := ?_) #[true, true, true, true, true, true, true, true, true, true, true, true] rfl rfl (any_of HT_.out (by kernel_rfl)) (fun _ _ _ h => h) (Or.inl ⟨by rfl, ?_⟩) ?_ ?_
  rotate_left
  · intro w'
    go_simp
    with_reducible rfl
  rotate_left
  · simp only [Act.put, List.setIfInBounds_toArray, List.set_cons_zero, List.set_cons_succ, i64_w, i32_w]
    rfl
  refine done_ (done_of HT_.out (by kernel_rfl)) ?_
  have hcz11_0 : w9.cell? ⟨gb162, 0, none⟩ = some (.string a0_0) := (blk_cell BK162.out 0).trans rfl
  have hcz11_1 : w9.cell? ⟨gb162, 1, none⟩ = some (.int .u32 a0_1) := (blk_cell BK162.out 1).trans rfl
  have hcz11_2 : w9.cell? ⟨gb162, 2, none⟩ = some (.int .u32 a0_2) := (blk_cell BK162.out 2).trans rfl
  have hcz11_3 : w9.cell? ⟨gb162, 3, none⟩ = some (.int .u32 a0_3) := (blk_cell BK162.out 3).trans rfl
  have hcz11_4 : w9.cell? ⟨gb162, 4, none⟩ = some (.string a0_4) := (blk_cell BK162.out 4).trans rfl
  have hcz11_5 : w9.cell? ⟨gb162, 5, none⟩ = some (.int .u32 a0_5) := (blk_cell BK162.out 5).trans rfl
  have hcz11_6 : w9.cell? ⟨gb162, 6, none⟩ = some (.int .u32 a0_6) := (blk_cell BK162.out 6).trans rfl
  have hcz11_7 : w9.cell? ⟨gb162, 7, none⟩ = some (.string a0_7) := (blk_cell BK162.out 7).trans rfl
  have hcz11_8 : w9.cell? ⟨gb162, 8, none⟩ = some (.string a0_8) := (blk_cell BK162.out 8).trans rfl
  have hcz11_9 : w9.cell? ⟨gb162, 9, none⟩ = some (.string a0_9) := (blk_cell BK162.out 9).trans rfl
  have hcz11_10 : w9.cell? ⟨gb162, 10, none⟩ = some (.string a0_10) := (blk_cell BK162.out 10).trans rfl
  have hcz11_11 : w9.cell? ⟨gb162, 11, none⟩ = some (.string a0_11) := (blk_cell BK162.out 11).trans rfl
  have hcz11_12 : w9.cell? ⟨gb162, 12, none⟩ = some (.int .i64 a0_12) := (blk_cell BK162.out 12).trans rfl
  have hfz11_0 := blk_frozen BK162.out 0
  have hfz11_1 := blk_frozen BK162.out 1
  have hfz11_2 := blk_frozen BK162.out 2
  have hfz11_3 := blk_frozen BK162.out 3
  have hfz11_4 := blk_frozen BK162.out 4
  have hfz11_5 := blk_frozen BK162.out 5
  have hfz11_6 := blk_frozen BK162.out 6
  have hfz11_7 := blk_frozen BK162.out 7
  have hfz11_8 := blk_frozen BK162.out 8
  have hfz11_9 := blk_frozen BK162.out 9
  have hfz11_10 := blk_frozen BK162.out 10
  have hfz11_11 := blk_frozen BK162.out 11
  have hfz11_12 := blk_frozen BK162.out 12
  go_upto_if 17 with (fail)
  go_cut [3] (fun v3 wc => ∃ (kq : Nat) (x3_5 : List ByteArray), Aside0 (spec_Variant_attributes.j0 kq x3_5 a0_0 a0_1 a0_2 a0_3 a0_4 a0_5 a0_6 a0_7 a0_8 a0_9 a0_10 a0_11 a0_12 = some r) ∧ Aside0 (kq ≤ k) ∧ Aside0 (Kd.R Kd.string 9 wc w.heap.size (fun _ => True) v3 x3_5) ∧ Aside0 (wc.heap[gb162]? = some (.cells #[.string a0_0, .int .u32 a0_1, .int .u32 a0_2, .int .u32 a0_3, .string a0_4, .int .u32 a0_5, .int .u32 a0_6, .string a0_7, .string a0_8, .string a0_9, .string a0_10, .string a0_11, .int .i64 a0_12] 44 (0, 0))) ∧ Aside0 (Below w.heap.size w wc))
  case first =>
    have H := HC6.out
    clear HC6
    by_cases c12 : a0_3 > 0
    · rw [if_pos c12] at H
      have c12b0 : decide (0 < a0_3) = true := decide_eq_true c12
      clear c12
      (first | rw [c12b0] | rw [c12b3] | rw [c12b2] | (simp only [i64_w, i32_w]; rw [c12b0]) | skip)
      replace H := Option.bind_eq_some_iff.mp H
      obtain ⟨t170, A130, H⟩ := H
      replace H : ((spec_Line.f (⟨#[65, 86, 69, 82, 65, 71, 69, 45, 66, 65, 78, 68, 87, 73, 68, 84, 72]⟩ : ByteArray) t170 false).bind fun t171 => (if y167.length < 8796093022208 then (spec_Variant_attributes.j0 k (y167 ++ [t171]) a0_0 a0_1 a0_2 a0_3 a0_4 a0_5 a0_6 a0_7 a0_8 a0_9 a0_10 a0_11 a0_12) else (none))) = some r := H
      have A13 := Aside0.mk A130
      clear A130
      replace H := Option.bind_eq_some_iff.mp H
      obtain ⟨t171, A140, H⟩ := H
      replace H : (if y167.length < 8796093022208 then (spec_Variant_attributes.j0 k (y167 ++ [t171]) a0_0 a0_1 a0_2 a0_3 a0_4 a0_5 a0_6 a0_7 a0_8 a0_9 a0_10 a0_11 a0_12) else (none)) = some r := H
      have A14 := Aside0.mk A140
      clear A140
      by_cases c15 : y167.length < 8796093022208
      · rw [if_pos c15] at H
        have LMc15 := Aside0.mk c15
        clear c15
        obtain ⟨y172, hy172⟩ : ∃ y_ : List ByteArray, y_ = (y167 ++ [t171]) := ⟨_, rfl⟩
        replace H : (spec_Variant_attributes.j0 k y172 a0_0 a0_1 a0_2 a0_3 a0_4 a0_5 a0_6 a0_7 a0_8 a0_9 a0_10 a0_11 a0_12) = some r := by first | (rw [hy172]; with_reducible exact H) | (have H2_ := (Option.bind_some _ _).symm.trans H; rw [hy172]; with_reducible exact H2_) | (have H2_ := (Option.bind_some _ _).symm.trans H; with_reducible exact H2_) | with_reducible exact H | (rw [hy172]; exact H) | exact H
        have Ny172 := Aside0.mk hy172
        clear hy172
        have H' := Aside0.mk H
        clear H
        have hcz16_0 : w9.cell? ⟨gb162, 0, none⟩ = some (.string a0_0) := (blk_cell BK162.out 0).trans rfl
        have hcz16_1 : w9.cell? ⟨gb162, 1, none⟩ = some (.int .u32 a0_1) := (blk_cell BK162.out 1).trans rfl
        have hcz16_2 : w9.cell? ⟨gb162, 2, none⟩ = some (.int .u32 a0_2) := (blk_cell BK162.out 2).trans rfl
        have hcz16_3 : w9.cell? ⟨gb162, 3, none⟩ = some (.int .u32 a0_3) := (blk_cell BK162.out 3).trans rfl
        have hcz16_4 : w9.cell? ⟨gb162, 4, none⟩ = some (.string a0_4) := (blk_cell BK162.out 4).trans rfl
        have hcz16_5 : w9.cell? ⟨gb162, 5, none⟩ = some (.int .u32 a0_5) := (blk_cell BK162.out 5).trans rfl
        have hcz16_6 : w9.cell? ⟨gb162, 6, none⟩ = some (.int .u32 a0_6) := (blk_cell BK162.out 6).trans rfl
        have hcz16_7 : w9.cell? ⟨gb162, 7, none⟩ = some (.string a0_7) := (blk_cell BK162.out 7).trans rfl
        have hcz16_8 : w9.cell? ⟨gb162, 8, none⟩ = some (.string a0_8) := (blk_cell BK162.out 8).trans rfl
        have hcz16_9 : w9.cell? ⟨gb162, 9, none⟩ = some (.string a0_9) := (blk_cell BK162.out 9).trans rfl
        have hcz16_10 : w9.cell? ⟨gb162, 10, none⟩ = some (.string a0_10) := (blk_cell BK162.out 10).trans rfl
        have hcz16_11 : w9.cell? ⟨gb162, 11, none⟩ = some (.string a0_11) := (blk_cell BK162.out 11).trans rfl
        have hcz16_12 : w9.cell? ⟨gb162, 12, none⟩ = some (.int .i64 a0_12) := (blk_cell BK162.out 12).trans rfl
        have hfz16_0 := blk_frozen BK162.out 0
        have hfz16_1 := blk_frozen BK162.out 1
        have hfz16_2 := blk_frozen BK162.out 2
        have hfz16_3 := blk_frozen BK162.out 3
        have hfz16_4 := blk_frozen BK162.out 4
        have hfz16_5 := blk_frozen BK162.out 5
        have hfz16_6 := blk_frozen BK162.out 6
        have hfz16_7 := blk_frozen BK162.out 7
        have hfz16_8 := blk_frozen BK162.out 8
        have hfz16_9 := blk_frozen BK162.out 9
        have hfz16_10 := blk_frozen BK162.out 10
        have hfz16_11 := blk_frozen BK162.out 11
        have hfz16_12 := blk_frozen BK162.out 12
        go_wp2_with (first | ((with_reducible refine gate_callee (f := 11) rfl ?_); refine goesL_ (some 22) rfl rfl Tryz.func11 (by kernel_rfl) rfl #[.int .u64 (IntKind.u64.wrap (a0_3))] rfl (by (try simp only [List.map_toArray, List.map_cons, List.map_nil]); first | done | rfl | (simp only [List.length_drop, List.length_take]; rfl)) ?_; (with_reducible refine (spec_Decimal.calls k (IntKind.u64.wrap (a0_3)) t170 _ A13.out).mono ?_); rintro e w' ⟨rfl, ⟨nd, rfl⟩⟩; refine ⟨_, rfl, ?_⟩) | ((with_reducible refine gate_callee (f := 24) rfl ?_); refine goesL_ (some 23) rfl rfl Tryz.func24 (by kernel_rfl) rfl #[.string (⟨#[65, 86, 69, 82, 65, 71, 69, 45, 66, 65, 78, 68, 87, 73, 68, 84, 72]⟩ : ByteArray), .string t170, .bool false] rfl (by (try simp only [List.map_toArray, List.map_cons, List.map_nil]); first | done | rfl | (simp only [List.length_drop, List.length_take]; rfl)) ?_; (with_reducible refine (spec_Line.calls (⟨#[65, 86, 69, 82, 65, 71, 69, 45, 66, 65, 78, 68, 87, 73, 68, 84, 72]⟩ : ByteArray) t170 false t171 _ A14.out).mono ?_); rintro e w' ⟨rfl, ⟨nd, rfl⟩⟩; refine ⟨_, rfl, ?_⟩) | ((with_reducible refine gate_builtin (b := .append) (xs := #[.tmp 18, .tmp 24]) rfl ?_); at_builtin; refine Kd.R_append Kd.string (w0 := w) w.heap.size rfl (.tmp 18) (.tmp 24) 50 9 (.string ⟨#[]⟩) 16 rfl Tryz.underlying50 info9 rfl (by decide) (by omega) v168 y167 t171 [.string t171] (fun _ => True) (fun _ => False) rfl rfl ?aP (fun _ hk => hk.elim) ?aF ?aO ?aB ?aS ?aL ?_; (case aP => exact rfl); (case aB => exact (by repeat (first | (with_reducible first | exact HB.out | apply below_alloc | apply pw_below_drewN | apply below_drew1 | refine below_set ?_ GE162.out) | exact HB.out))); (case aF => exact (fun _ _ => trivial)); (case aO => exact (by (with_reducible repeat (first | apply Kd.R_alloc | apply Kd.R_drewN | apply Kd.R_drew)); exact HO169.out)); (case aS => exact (below_size (by repeat (first | (with_reducible first | exact HB.out | apply below_alloc | apply pw_below_drewN | apply below_drew1 | refine below_set ?_ GE162.out) | exact HB.out)))); (case aL => have := LMc15.out; omega); intro v173 w17 ho hb hg hat; rw [← Ny172.out] at ho; have n0_ := Aside0.mk (blk_grown (g := gb162) (o := .cells #[.string a0_0, .int .u32 a0_1, .int .u32 a0_2, .int .u32 a0_3, .string a0_4, .int .u32 a0_5, .int .u32 a0_6, .string a0_7, .string a0_8, .string a0_9, .string a0_10, .string a0_11, .int .i64 a0_12] 44 (0, 0)) (by (with_reducible repeat (first | refine blk_drewN ?_ _ | refine blk_drew ?_ | refine blk_alloc ?_ _)); exact BK162.out) hg (Kd.R_ne HO169.out BK162.out (by decide))); have n1_ := Aside0.mk (hb); have n2_ := Aside0.mk (ho); clear BK162; clear HB; clear HO169; have BK162 := n0_; have HB := n1_; have HO174 := n2_; clear n0_ n1_ n2_; clear ho hb hg hat))
        go_meet
        case rel => exact ⟨_, (y172), H', ⟨by first | omega | exact Nat.le_refl _⟩, ⟨by (with_reducible repeat (first | apply Kd.R_alloc | apply Kd.R_drewN | apply Kd.R_drew)); exact HO174.out⟩, ⟨by (with_reducible repeat (first | refine blk_drewN ?_ _ | refine blk_drew ?_ | refine blk_alloc ?_ _)); exact BK162.out⟩, ⟨by repeat (first | (with_reducible first | exact HB.out | apply below_alloc | apply pw_below_drewN | apply below_drew1 | refine below_set ?_ GE162.out) | exact HB.out)⟩⟩
      · rw [if_neg c15] at H
        exact absurd H (by simp)
    · rw [if_neg c12] at H
      have c12b0 : decide (0 < a0_3) = false := decide_eq_false c12
      clear c12
      (first | rw [c12b0] | rw [c12b3] | rw [c12b2] | (simp only [i64_w, i32_w]; rw [c12b0]) | skip)
      have H' := Aside0.mk H
      clear H
      go_wp2
      go_meet
      case rel => exact ⟨_, (y167), H', ⟨by first | omega | exact Nat.le_refl _⟩, ⟨by (with_reducible repeat (first | apply Kd.R_alloc | apply Kd.R_drewN | apply Kd.R_drew)); exact HO169.out⟩, ⟨by (with_reducible repeat (first | refine blk_drewN ?_ _ | refine blk_drew ?_ | refine blk_alloc ?_ _)); exact BK162.out⟩, ⟨by repeat (first | (with_reducible first | exact HB.out | apply below_alloc | apply pw_below_drewN | apply below_drew1 | refine below_set ?_ GE162.out) | exact HB.out)⟩⟩
  case rest =>
    clear HC6
    clear hcz11_0 hcz11_1 hcz11_10 hcz11_11 hcz11_12 hcz11_2 hcz11_3 hcz11_4 hcz11_5 hcz11_6 hcz11_7 hcz11_8 hcz11_9 hfz11_0 hfz11_1 hfz11_10 hfz11_11 hfz11_12 hfz11_2 hfz11_3 hfz11_4 hfz11_5 hfz11_6 hfz11_7 hfz11_8 hfz11_9
    obtain ⟨kq, x3_5, HA, HJ5, HO_3, BK162, HB⟩ := hcut
    cases kq with
    | zero => exact absurd HA.out (by simp [spec_Variant_attributes.j0])
    | succ kj5 =>
      have H := HA.out
      clear HA
      simp only [spec_Variant_attributes.j0] at H
      have HC18 := Aside0.mk H
      clear H
      have hcz19_0 : wc.cell? ⟨gb162, 0, none⟩ = some (.string a0_0) := (blk_cell BK162.out 0).trans rfl
      have hcz19_1 : wc.cell? ⟨gb162, 1, none⟩ = some (.int .u32 a0_1) := (blk_cell BK162.out 1).trans rfl
      have hcz19_2 : wc.cell? ⟨gb162, 2, none⟩ = some (.int .u32 a0_2) := (blk_cell BK162.out 2).trans rfl
      have hcz19_3 : wc.cell? ⟨gb162, 3, none⟩ = some (.int .u32 a0_3) := (blk_cell BK162.out 3).trans rfl
      have hcz19_4 : wc.cell? ⟨gb162, 4, none⟩ = some (.string a0_4) := (blk_cell BK162.out 4).trans rfl
      have hcz19_5 : wc.cell? ⟨gb162, 5, none⟩ = some (.int .u32 a0_5) := (blk_cell BK162.out 5).trans rfl
      have hcz19_6 : wc.cell? ⟨gb162, 6, none⟩ = some (.int .u32 a0_6) := (blk_cell BK162.out 6).trans rfl
      have hcz19_7 : wc.cell? ⟨gb162, 7, none⟩ = some (.string a0_7) := (blk_cell BK162.out 7).trans rfl
      have hcz19_8 : wc.cell? ⟨gb162, 8, none⟩ = some (.string a0_8) := (blk_cell BK162.out 8).trans rfl
      have hcz19_9 : wc.cell? ⟨gb162, 9, none⟩ = some (.string a0_9) := (blk_cell BK162.out 9).trans rfl
      have hcz19_10 : wc.cell? ⟨gb162, 10, none⟩ = some (.string a0_10) := (blk_cell BK162.out 10).trans rfl
      have hcz19_11 : wc.cell? ⟨gb162, 11, none⟩ = some (.string a0_11) := (blk_cell BK162.out 11).trans rfl
      have hcz19_12 : wc.cell? ⟨gb162, 12, none⟩ = some (.int .i64 a0_12) := (blk_cell BK162.out 12).trans rfl
      have hfz19_0 := blk_frozen BK162.out 0
      have hfz19_1 := blk_frozen BK162.out 1
      have hfz19_2 := blk_frozen BK162.out 2
      have hfz19_3 := blk_frozen BK162.out 3
      have hfz19_4 := blk_frozen BK162.out 4
      have hfz19_5 := blk_frozen BK162.out 5
      have hfz19_6 := blk_frozen BK162.out 6
      have hfz19_7 := blk_frozen BK162.out 7
      have hfz19_8 := blk_frozen BK162.out 8
      have hfz19_9 := blk_frozen BK162.out 9
      have hfz19_10 := blk_frozen BK162.out 10
      have hfz19_11 := blk_frozen BK162.out 11
      have hfz19_12 := blk_frozen BK162.out 12
      go_upto_if 28 with (fail)
      go_cut [3] (fun v3 wc => ∃ (kq : Nat) (x3_17 : List ByteArray), Aside0 (spec_Variant_attributes.j1 kq x3_17 a0_0 a0_1 a0_2 a0_3 a0_4 a0_5 a0_6 a0_7 a0_8 a0_9 a0_10 a0_11 a0_12 = some r) ∧ Aside0 (kq ≤ kj5) ∧ Aside0 (Kd.R Kd.string 9 wc w.heap.size (fun _ => True) v3 x3_17) ∧ Aside0 (wc.heap[gb162]? = some (.cells #[.string a0_0, .int .u32 a0_1, .int .u32 a0_2, .int .u32 a0_3, .string a0_4, .int .u32 a0_5, .int .u32 a0_6, .string a0_7, .string a0_8, .string a0_9, .string a0_10, .string a0_11, .int .i64 a0_12] 44 (0, 0))) ∧ Aside0 (Below w.heap.size w wc))
      case first =>
        have H := HC18.out
        clear HC18
        by_cases c20 : a0_4.toList = ([] : List UInt8)
        · rw [if_pos c20] at H
          have c20b0 : (a0_4.toList == ([] : List UInt8)) = true := beq_iff_eq.mpr c20
          have c20b1 : (a0_4.toList != ([] : List UInt8)) = false := bne_eq_false_iff_eq.mpr c20
          (try (have c20b2 : a0_4.toList.isEmpty = true := by simpa using c20))
          (try (have c20b3 : (!a0_4.toList.isEmpty) = false := by simpa using c20))
          clear c20
          (first | rw [c20b0] | rw [c20b3] | rw [c20b2] | (simp only [i64_w, i32_w]; rw [c20b0]) | skip)
          have H' := Aside0.mk H
          clear H
          go_wp2
          go_meet
          case rel => exact ⟨_, (x3_5), H', ⟨by have := HJ5.out; first | omega | exact Nat.le_refl _⟩, ⟨by (with_reducible repeat (first | apply Kd.R_alloc | apply Kd.R_drewN | apply Kd.R_drew)); exact HO_3.out⟩, ⟨by (with_reducible repeat (first | refine blk_drewN ?_ _ | refine blk_drew ?_ | refine blk_alloc ?_ _)); exact BK162.out⟩, ⟨by repeat (first | (with_reducible first | exact HB.out | apply below_alloc | apply pw_below_drewN | apply below_drew1 | refine below_set ?_ GE162.out) | exact HB.out)⟩⟩
        · rw [if_neg c20] at H
          have c20b0 : (a0_4.toList == ([] : List UInt8)) = false := beq_eq_false_iff_ne.mpr c20
          have c20b1 : (a0_4.toList != ([] : List UInt8)) = true := bne_iff_ne.mpr c20
          (try (have c20b2 : a0_4.toList.isEmpty = false := by simpa using c20))
          (try (have c20b3 : (!a0_4.toList.isEmpty) = true := by simpa using c20))
          (first | rw [c20b0] | rw [c20b3] | rw [c20b2] | (simp only [i64_w, i32_w]; rw [c20b0]) | skip)
          replace H := Option.bind_eq_some_iff.mp H
          obtain ⟨t175, A210, H⟩ := H
          replace H : (if x3_5.length < 8796093022208 then (spec_Variant_attributes.j1 kj5 (x3_5 ++ [t175]) a0_0 a0_1 a0_2 a0_3 a0_4 a0_5 a0_6 a0_7 a0_8 a0_9 a0_10 a0_11 a0_12) else (none)) = some r := H
          have A21 := Aside0.mk A210
          clear A210
          by_cases c22 : x3_5.length < 8796093022208
          · rw [if_pos c22] at H
            have LMc22 := Aside0.mk c22
            clear c22
            obtain ⟨y176, hy176⟩ : ∃ y_ : List ByteArray, y_ = (x3_5 ++ [t175]) := ⟨_, rfl⟩
            replace H : (spec_Variant_attributes.j1 kj5 y176 a0_0 a0_1 a0_2 a0_3 a0_4 a0_5 a0_6 a0_7 a0_8 a0_9 a0_10 a0_11 a0_12) = some r := by first | (rw [hy176]; with_reducible exact H) | (have H2_ := (Option.bind_some _ _).symm.trans H; rw [hy176]; with_reducible exact H2_) | (have H2_ := (Option.bind_some _ _).symm.trans H; with_reducible exact H2_) | with_reducible exact H | (rw [hy176]; exact H) | exact H
            have Ny176 := Aside0.mk hy176
            clear hy176
            have H' := Aside0.mk H
            clear H
            have hcz23_0 : wc.cell? ⟨gb162, 0, none⟩ = some (.string a0_0) := (blk_cell BK162.out 0).trans rfl
            have hcz23_1 : wc.cell? ⟨gb162, 1, none⟩ = some (.int .u32 a0_1) := (blk_cell BK162.out 1).trans rfl
            have hcz23_2 : wc.cell? ⟨gb162, 2, none⟩ = some (.int .u32 a0_2) := (blk_cell BK162.out 2).trans rfl
            have hcz23_3 : wc.cell? ⟨gb162, 3, none⟩ = some (.int .u32 a0_3) := (blk_cell BK162.out 3).trans rfl
            have hcz23_4 : wc.cell? ⟨gb162, 4, none⟩ = some (.string a0_4) := (blk_cell BK162.out 4).trans rfl
            have hcz23_5 : wc.cell? ⟨gb162, 5, none⟩ = some (.int .u32 a0_5) := (blk_cell BK162.out 5).trans rfl
            have hcz23_6 : wc.cell? ⟨gb162, 6, none⟩ = some (.int .u32 a0_6) := (blk_cell BK162.out 6).trans rfl
            have hcz23_7 : wc.cell? ⟨gb162, 7, none⟩ = some (.string a0_7) := (blk_cell BK162.out 7).trans rfl
            have hcz23_8 : wc.cell? ⟨gb162, 8, none⟩ = some (.string a0_8) := (blk_cell BK162.out 8).trans rfl
            have hcz23_9 : wc.cell? ⟨gb162, 9, none⟩ = some (.string a0_9) := (blk_cell BK162.out 9).trans rfl
            have hcz23_10 : wc.cell? ⟨gb162, 10, none⟩ = some (.string a0_10) := (blk_cell BK162.out 10).trans rfl
            have hcz23_11 : wc.cell? ⟨gb162, 11, none⟩ = some (.string a0_11) := (blk_cell BK162.out 11).trans rfl
            have hcz23_12 : wc.cell? ⟨gb162, 12, none⟩ = some (.int .i64 a0_12) := (blk_cell BK162.out 12).trans rfl
            have hfz23_0 := blk_frozen BK162.out 0
            have hfz23_1 := blk_frozen BK162.out 1
            have hfz23_2 := blk_frozen BK162.out 2
            have hfz23_3 := blk_frozen BK162.out 3
            have hfz23_4 := blk_frozen BK162.out 4
            have hfz23_5 := blk_frozen BK162.out 5
            have hfz23_6 := blk_frozen BK162.out 6
            have hfz23_7 := blk_frozen BK162.out 7
            have hfz23_8 := blk_frozen BK162.out 8
            have hfz23_9 := blk_frozen BK162.out 9
            have hfz23_10 := blk_frozen BK162.out 10
            have hfz23_11 := blk_frozen BK162.out 11
            have hfz23_12 := blk_frozen BK162.out 12
            go_wp2_with (first | ((with_reducible refine gate_callee (f := 24) rfl ?_); refine goesL_ (some 32) rfl rfl Tryz.func24 (by kernel_rfl) rfl #[.string (⟨#[67, 79, 68, 69, 67, 83]⟩ : ByteArray), .string a0_4, .bool true] rfl (by (try simp only [List.map_toArray, List.map_cons, List.map_nil]); first | done | rfl | (simp only [List.length_drop, List.length_take]; rfl)) ?_; (with_reducible refine (spec_Line.calls (⟨#[67, 79, 68, 69, 67, 83]⟩ : ByteArray) a0_4 true t175 _ A21.out).mono ?_); rintro e w' ⟨rfl, ⟨nd, rfl⟩⟩; refine ⟨_, rfl, ?_⟩) | ((with_reducible refine gate_builtin (b := .append) (xs := #[.tmp 29, .tmp 33]) rfl ?_); at_builtin; refine Kd.R_append Kd.string (w0 := w) w.heap.size rfl (.tmp 29) (.tmp 33) 50 9 (.string ⟨#[]⟩) 16 rfl Tryz.underlying50 info9 rfl (by decide) (by omega) u3 x3_5 t175 [.string t175] (fun _ => True) (fun _ => False) rfl rfl ?aP (fun _ hk => hk.elim) ?aF ?aO ?aB ?aS ?aL ?_; (case aP => exact rfl); (case aB => exact (by repeat (first | (with_reducible first | exact HB.out | apply below_alloc | apply pw_below_drewN | apply below_drew1 | refine below_set ?_ GE162.out) | exact HB.out))); (case aF => exact (fun _ _ => trivial)); (case aO => exact (by (with_reducible repeat (first | apply Kd.R_alloc | apply Kd.R_drewN | apply Kd.R_drew)); exact HO_3.out)); (case aS => exact (below_size (by repeat (first | (with_reducible first | exact HB.out | apply below_alloc | apply pw_below_drewN | apply below_drew1 | refine below_set ?_ GE162.out) | exact HB.out)))); (case aL => have := LMc22.out; omega); intro v177 w24 ho hb hg hat; rw [← Ny176.out] at ho; have n0_ := Aside0.mk (blk_grown (g := gb162) (o := .cells #[.string a0_0, .int .u32 a0_1, .int .u32 a0_2, .int .u32 a0_3, .string a0_4, .int .u32 a0_5, .int .u32 a0_6, .string a0_7, .string a0_8, .string a0_9, .string a0_10, .string a0_11, .int .i64 a0_12] 44 (0, 0)) (by (with_reducible repeat (first | refine blk_drewN ?_ _ | refine blk_drew ?_ | refine blk_alloc ?_ _)); exact BK162.out) hg (Kd.R_ne HO_3.out BK162.out (by decide))); have n1_ := Aside0.mk (hb); have n2_ := Aside0.mk (ho); clear BK162; clear HB; clear HO_3; have BK162 := n0_; have HB := n1_; have HO178 := n2_; clear n0_ n1_ n2_; clear ho hb hg hat))
            go_meet
            case rel => exact ⟨_, (y176), H', ⟨by have := HJ5.out; first | omega | exact Nat.le_refl _⟩, ⟨by (with_reducible repeat (first | apply Kd.R_alloc | apply Kd.R_drewN | apply Kd.R_drew)); exact HO178.out⟩, ⟨by (with_reducible repeat (first | refine blk_drewN ?_ _ | refine blk_drew ?_ | refine blk_alloc ?_ _)); exact BK162.out⟩, ⟨by repeat (first | (with_reducible first | exact HB.out | apply below_alloc | apply pw_below_drewN | apply below_drew1 | refine below_set ?_ GE162.out) | exact HB.out)⟩⟩
          · rw [if_neg c22] at H
            exact absurd H (by simp)
      case rest =>
        clear HC18
        clear hcz19_0 hcz19_1 hcz19_10 hcz19_11 hcz19_12 hcz19_2 hcz19_3 hcz19_4 hcz19_5 hcz19_6 hcz19_7 hcz19_8 hcz19_9 hfz19_0 hfz19_1 hfz19_10 hfz19_11 hfz19_12 hfz19_2 hfz19_3 hfz19_4 hfz19_5 hfz19_6 hfz19_7 hfz19_8 hfz19_9
        obtain ⟨kq, x3_17, HA, HJ17, HO_3, BK162, HB⟩ := hcut
        cases kq with
        | zero => exact absurd HA.out (by simp [spec_Variant_attributes.j1])
        | succ kj17 =>
          have H := HA.out
          clear HA
          simp only [spec_Variant_attributes.j1] at H
          have HC25 := Aside0.mk H
          clear H
          have hcz26_0 : wc.cell? ⟨gb162, 0, none⟩ = some (.string a0_0) := (blk_cell BK162.out 0).trans rfl
          have hcz26_1 : wc.cell? ⟨gb162, 1, none⟩ = some (.int .u32 a0_1) := (blk_cell BK162.out 1).trans rfl
          have hcz26_2 : wc.cell? ⟨gb162, 2, none⟩ = some (.int .u32 a0_2) := (blk_cell BK162.out 2).trans rfl
          have hcz26_3 : wc.cell? ⟨gb162, 3, none⟩ = some (.int .u32 a0_3) := (blk_cell BK162.out 3).trans rfl
          have hcz26_4 : wc.cell? ⟨gb162, 4, none⟩ = some (.string a0_4) := (blk_cell BK162.out 4).trans rfl
          have hcz26_5 : wc.cell? ⟨gb162, 5, none⟩ = some (.int .u32 a0_5) := (blk_cell BK162.out 5).trans rfl
          have hcz26_6 : wc.cell? ⟨gb162, 6, none⟩ = some (.int .u32 a0_6) := (blk_cell BK162.out 6).trans rfl
          have hcz26_7 : wc.cell? ⟨gb162, 7, none⟩ = some (.string a0_7) := (blk_cell BK162.out 7).trans rfl
          have hcz26_8 : wc.cell? ⟨gb162, 8, none⟩ = some (.string a0_8) := (blk_cell BK162.out 8).trans rfl
          have hcz26_9 : wc.cell? ⟨gb162, 9, none⟩ = some (.string a0_9) := (blk_cell BK162.out 9).trans rfl
          have hcz26_10 : wc.cell? ⟨gb162, 10, none⟩ = some (.string a0_10) := (blk_cell BK162.out 10).trans rfl
          have hcz26_11 : wc.cell? ⟨gb162, 11, none⟩ = some (.string a0_11) := (blk_cell BK162.out 11).trans rfl
          have hcz26_12 : wc.cell? ⟨gb162, 12, none⟩ = some (.int .i64 a0_12) := (blk_cell BK162.out 12).trans rfl
          have hfz26_0 := blk_frozen BK162.out 0
          have hfz26_1 := blk_frozen BK162.out 1
          have hfz26_2 := blk_frozen BK162.out 2
          have hfz26_3 := blk_frozen BK162.out 3
          have hfz26_4 := blk_frozen BK162.out 4
          have hfz26_5 := blk_frozen BK162.out 5
          have hfz26_6 := blk_frozen BK162.out 6
          have hfz26_7 := blk_frozen BK162.out 7
          have hfz26_8 := blk_frozen BK162.out 8
          have hfz26_9 := blk_frozen BK162.out 9
          have hfz26_10 := blk_frozen BK162.out 10
          have hfz26_11 := blk_frozen BK162.out 11
          have hfz26_12 := blk_frozen BK162.out 12
          go_upto_if 37 with (fail)
          go_cut [3] (fun v3 wc => ∃ (kq : Nat) (x3_24 : List ByteArray), Aside0 (spec_Variant_attributes.j2 kq x3_24 a0_0 a0_1 a0_2 a0_3 a0_4 a0_5 a0_6 a0_7 a0_8 a0_9 a0_10 a0_11 a0_12 = some r) ∧ Aside0 (kq ≤ kj17) ∧ Aside0 (Kd.R Kd.string 9 wc w.heap.size (fun _ => True) v3 x3_24) ∧ Aside0 (wc.heap[gb162]? = some (.cells #[.string a0_0, .int .u32 a0_1, .int .u32 a0_2, .int .u32 a0_3, .string a0_4, .int .u32 a0_5, .int .u32 a0_6, .string a0_7, .string a0_8, .string a0_9, .string a0_10, .string a0_11, .int .i64 a0_12] 44 (0, 0))) ∧ Aside0 (Below w.heap.size w wc))
          case first =>
            have H := HC25.out
            clear HC25
            by_cases c27 : a0_5 > 0
            · rw [if_pos c27] at H
              have c27b0 : decide (0 < a0_5) = true := decide_eq_true c27
              clear c27
              (first | rw [c27b0] | rw [c27b3] | rw [c27b2] | (simp only [i64_w, i32_w]; rw [c27b0]) | skip)
              replace H := Option.bind_eq_some_iff.mp H
              obtain ⟨t179, A280, H⟩ := H
              replace H : ((spec_Line.f (⟨#[82, 69, 83, 79, 76, 85, 84, 73, 79, 78]⟩ : ByteArray) t179 false).bind fun t180 => (if x3_17.length < 8796093022208 then (spec_Variant_attributes.j2 kj17 (x3_17 ++ [t180]) a0_0 a0_1 a0_2 a0_3 a0_4 a0_5 a0_6 a0_7 a0_8 a0_9 a0_10 a0_11 a0_12) else (none))) = some r := H
              have A28 := Aside0.mk A280
              clear A280
              replace H := Option.bind_eq_some_iff.mp H
              obtain ⟨t180, A290, H⟩ := H
              replace H : (if x3_17.length < 8796093022208 then (spec_Variant_attributes.j2 kj17 (x3_17 ++ [t180]) a0_0 a0_1 a0_2 a0_3 a0_4 a0_5 a0_6 a0_7 a0_8 a0_9 a0_10 a0_11 a0_12) else (none)) = some r := H
              have A29 := Aside0.mk A290
              clear A290
              by_cases c30 : x3_17.length < 8796093022208
              · rw [if_pos c30] at H
                have LMc30 := Aside0.mk c30
                clear c30
                obtain ⟨y181, hy181⟩ : ∃ y_ : List ByteArray, y_ = (x3_17 ++ [t180]) := ⟨_, rfl⟩
                replace H : (spec_Variant_attributes.j2 kj17 y181 a0_0 a0_1 a0_2 a0_3 a0_4 a0_5 a0_6 a0_7 a0_8 a0_9 a0_10 a0_11 a0_12) = some r := by first | (rw [hy181]; with_reducible exact H) | (have H2_ := (Option.bind_some _ _).symm.trans H; rw [hy181]; with_reducible exact H2_) | (have H2_ := (Option.bind_some _ _).symm.trans H; with_reducible exact H2_) | with_reducible exact H | (rw [hy181]; exact H) | exact H
                have Ny181 := Aside0.mk hy181
                clear hy181
                have H' := Aside0.mk H
                clear H
                have hcz31_0 : wc.cell? ⟨gb162, 0, none⟩ = some (.string a0_0) := (blk_cell BK162.out 0).trans rfl
                have hcz31_1 : wc.cell? ⟨gb162, 1, none⟩ = some (.int .u32 a0_1) := (blk_cell BK162.out 1).trans rfl
                have hcz31_2 : wc.cell? ⟨gb162, 2, none⟩ = some (.int .u32 a0_2) := (blk_cell BK162.out 2).trans rfl
                have hcz31_3 : wc.cell? ⟨gb162, 3, none⟩ = some (.int .u32 a0_3) := (blk_cell BK162.out 3).trans rfl
                have hcz31_4 : wc.cell? ⟨gb162, 4, none⟩ = some (.string a0_4) := (blk_cell BK162.out 4).trans rfl
                have hcz31_5 : wc.cell? ⟨gb162, 5, none⟩ = some (.int .u32 a0_5) := (blk_cell BK162.out 5).trans rfl
                have hcz31_6 : wc.cell? ⟨gb162, 6, none⟩ = some (.int .u32 a0_6) := (blk_cell BK162.out 6).trans rfl
                have hcz31_7 : wc.cell? ⟨gb162, 7, none⟩ = some (.string a0_7) := (blk_cell BK162.out 7).trans rfl
                have hcz31_8 : wc.cell? ⟨gb162, 8, none⟩ = some (.string a0_8) := (blk_cell BK162.out 8).trans rfl
                have hcz31_9 : wc.cell? ⟨gb162, 9, none⟩ = some (.string a0_9) := (blk_cell BK162.out 9).trans rfl
                have hcz31_10 : wc.cell? ⟨gb162, 10, none⟩ = some (.string a0_10) := (blk_cell BK162.out 10).trans rfl
                have hcz31_11 : wc.cell? ⟨gb162, 11, none⟩ = some (.string a0_11) := (blk_cell BK162.out 11).trans rfl
                have hcz31_12 : wc.cell? ⟨gb162, 12, none⟩ = some (.int .i64 a0_12) := (blk_cell BK162.out 12).trans rfl
                have hfz31_0 := blk_frozen BK162.out 0
                have hfz31_1 := blk_frozen BK162.out 1
                have hfz31_2 := blk_frozen BK162.out 2
                have hfz31_3 := blk_frozen BK162.out 3
                have hfz31_4 := blk_frozen BK162.out 4
                have hfz31_5 := blk_frozen BK162.out 5
                have hfz31_6 := blk_frozen BK162.out 6
                have hfz31_7 := blk_frozen BK162.out 7
                have hfz31_8 := blk_frozen BK162.out 8
                have hfz31_9 := blk_frozen BK162.out 9
                have hfz31_10 := blk_frozen BK162.out 10
                have hfz31_11 := blk_frozen BK162.out 11
                have hfz31_12 := blk_frozen BK162.out 12
                go_wp2_with (first | ((with_reducible refine gate_callee (f := 25) rfl ?_); refine goesL_ (some 40) rfl rfl Tryz.func25 (by kernel_rfl) rfl #[.agg #[.string a0_0, .int .u32 a0_1, .int .u32 a0_2, .int .u32 a0_3, .string a0_4, .int .u32 a0_5, .int .u32 a0_6, .string a0_7, .string a0_8, .string a0_9, .string a0_10, .string a0_11, .int .i64 a0_12]] rfl (by (try simp only [List.map_toArray, List.map_cons, List.map_nil]); first | done | rfl | (simp only [List.length_drop, List.length_take]; rfl)) ?_; (with_reducible refine (spec_Variant_Resolution.calls kj17 a0_0 a0_1 a0_2 a0_3 a0_4 a0_5 a0_6 a0_7 a0_8 a0_9 a0_10 a0_11 a0_12 t179 _ A28.out).mono ?_); rintro e w32 ⟨rfl, hb⟩; refine ⟨_, rfl, ?_⟩; have n0_ := Aside0.mk (Kd.R_below (by (with_reducible repeat (first | apply Kd.R_alloc | apply Kd.R_drewN | apply Kd.R_drew)); exact HO_3.out) hb); have n1_ := Aside0.mk (blk_below (g := gb162) (o := .cells #[.string a0_0, .int .u32 a0_1, .int .u32 a0_2, .int .u32 a0_3, .string a0_4, .int .u32 a0_5, .int .u32 a0_6, .string a0_7, .string a0_8, .string a0_9, .string a0_10, .string a0_11, .int .i64 a0_12] 44 (0, 0)) (by (with_reducible repeat (first | refine blk_drewN ?_ _ | refine blk_drew ?_ | refine blk_alloc ?_ _)); exact BK162.out) hb); have n2_ := Aside0.mk (below_step (by repeat (first | (with_reducible first | exact HB.out | apply below_alloc | apply pw_below_drewN | apply below_drew1 | refine below_set ?_ GE162.out) | exact HB.out)) hb); clear HO_3; clear BK162; clear HB; have HO_3 := n0_; have BK162 := n1_; have HB := n2_; clear n0_ n1_ n2_; (try clear hb); (try clear hb2); (try clear hk); (try clear hi)) | ((with_reducible refine gate_callee (f := 24) rfl ?_); refine goesL_ (some 41) rfl rfl Tryz.func24 (by kernel_rfl) rfl #[.string (⟨#[82, 69, 83, 79, 76, 85, 84, 73, 79, 78]⟩ : ByteArray), .string t179, .bool false] rfl (by (try simp only [List.map_toArray, List.map_cons, List.map_nil]); first | done | rfl | (simp only [List.length_drop, List.length_take]; rfl)) ?_; (with_reducible refine (spec_Line.calls (⟨#[82, 69, 83, 79, 76, 85, 84, 73, 79, 78]⟩ : ByteArray) t179 false t180 _ A29.out).mono ?_); rintro e w' ⟨rfl, ⟨nd, rfl⟩⟩; refine ⟨_, rfl, ?_⟩) | ((with_reducible refine gate_builtin (b := .append) (xs := #[.tmp 38, .tmp 42]) rfl ?_); at_builtin; refine Kd.R_append Kd.string (w0 := w) w.heap.size rfl (.tmp 38) (.tmp 42) 50 9 (.string ⟨#[]⟩) 16 rfl Tryz.underlying50 info9 rfl (by decide) (by omega) u3 x3_17 t180 [.string t180] (fun _ => True) (fun _ => False) rfl rfl ?aP (fun _ hk => hk.elim) ?aF ?aO ?aB ?aS ?aL ?_; (case aP => exact rfl); (case aB => exact (by repeat (first | (with_reducible first | exact HB.out | apply below_alloc | apply pw_below_drewN | apply below_drew1 | refine below_set ?_ GE162.out) | exact HB.out))); (case aF => exact (fun _ _ => trivial)); (case aO => exact (by (with_reducible repeat (first | apply Kd.R_alloc | apply Kd.R_drewN | apply Kd.R_drew)); exact HO_3.out)); (case aS => exact (below_size (by repeat (first | (with_reducible first | exact HB.out | apply below_alloc | apply pw_below_drewN | apply below_drew1 | refine below_set ?_ GE162.out) | exact HB.out)))); (case aL => have := LMc30.out; omega); intro v182 w33 ho hb hg hat; rw [← Ny181.out] at ho; have n0_ := Aside0.mk (blk_grown (g := gb162) (o := .cells #[.string a0_0, .int .u32 a0_1, .int .u32 a0_2, .int .u32 a0_3, .string a0_4, .int .u32 a0_5, .int .u32 a0_6, .string a0_7, .string a0_8, .string a0_9, .string a0_10, .string a0_11, .int .i64 a0_12] 44 (0, 0)) (by (with_reducible repeat (first | refine blk_drewN ?_ _ | refine blk_drew ?_ | refine blk_alloc ?_ _)); exact BK162.out) hg (Kd.R_ne HO_3.out BK162.out (by decide))); have n1_ := Aside0.mk (hb); have n2_ := Aside0.mk (ho); clear BK162; clear HB; clear HO_3; have BK162 := n0_; have HB := n1_; have HO183 := n2_; clear n0_ n1_ n2_; clear ho hb hg hat))
                go_meet
                case rel => exact ⟨_, (y181), H', ⟨by have := HJ5.out; have := HJ17.out; first | omega | exact Nat.le_refl _⟩, ⟨by (with_reducible repeat (first | apply Kd.R_alloc | apply Kd.R_drewN | apply Kd.R_drew)); exact HO183.out⟩, ⟨by (with_reducible repeat (first | refine blk_drewN ?_ _ | refine blk_drew ?_ | refine blk_alloc ?_ _)); exact BK162.out⟩, ⟨by repeat (first | (with_reducible first | exact HB.out | apply below_alloc | apply pw_below_drewN | apply below_drew1 | refine below_set ?_ GE162.out) | exact HB.out)⟩⟩
              · rw [if_neg c30] at H
                exact absurd H (by simp)
            · rw [if_neg c27] at H
              have c27b0 : decide (0 < a0_5) = false := decide_eq_false c27
              clear c27
              (first | rw [c27b0] | rw [c27b3] | rw [c27b2] | (simp only [i64_w, i32_w]; rw [c27b0]) | skip)
              have H' := Aside0.mk H
              clear H
              go_wp2
              go_meet
              case rel => exact ⟨_, (x3_17), H', ⟨by have := HJ5.out; have := HJ17.out; first | omega | exact Nat.le_refl _⟩, ⟨by (with_reducible repeat (first | apply Kd.R_alloc | apply Kd.R_drewN | apply Kd.R_drew)); exact HO_3.out⟩, ⟨by (with_reducible repeat (first | refine blk_drewN ?_ _ | refine blk_drew ?_ | refine blk_alloc ?_ _)); exact BK162.out⟩, ⟨by repeat (first | (with_reducible first | exact HB.out | apply below_alloc | apply pw_below_drewN | apply below_drew1 | refine below_set ?_ GE162.out) | exact HB.out)⟩⟩
          case rest =>
            clear HC25
            clear hcz26_0 hcz26_1 hcz26_10 hcz26_11 hcz26_12 hcz26_2 hcz26_3 hcz26_4 hcz26_5 hcz26_6 hcz26_7 hcz26_8 hcz26_9 hfz26_0 hfz26_1 hfz26_10 hfz26_11 hfz26_12 hfz26_2 hfz26_3 hfz26_4 hfz26_5 hfz26_6 hfz26_7 hfz26_8 hfz26_9
            obtain ⟨kq, x3_24, HA, HJ24, HO_3, BK162, HB⟩ := hcut
            cases kq with
            | zero => exact absurd HA.out (by simp [spec_Variant_attributes.j2])
            | succ kj24 =>
              have H := HA.out
              clear HA
              simp only [spec_Variant_attributes.j2] at H
              have HC34 := Aside0.mk H
              clear H
              have hcz35_0 : wc.cell? ⟨gb162, 0, none⟩ = some (.string a0_0) := (blk_cell BK162.out 0).trans rfl
              have hcz35_1 : wc.cell? ⟨gb162, 1, none⟩ = some (.int .u32 a0_1) := (blk_cell BK162.out 1).trans rfl
              have hcz35_2 : wc.cell? ⟨gb162, 2, none⟩ = some (.int .u32 a0_2) := (blk_cell BK162.out 2).trans rfl
              have hcz35_3 : wc.cell? ⟨gb162, 3, none⟩ = some (.int .u32 a0_3) := (blk_cell BK162.out 3).trans rfl
              have hcz35_4 : wc.cell? ⟨gb162, 4, none⟩ = some (.string a0_4) := (blk_cell BK162.out 4).trans rfl
              have hcz35_5 : wc.cell? ⟨gb162, 5, none⟩ = some (.int .u32 a0_5) := (blk_cell BK162.out 5).trans rfl
              have hcz35_6 : wc.cell? ⟨gb162, 6, none⟩ = some (.int .u32 a0_6) := (blk_cell BK162.out 6).trans rfl
              have hcz35_7 : wc.cell? ⟨gb162, 7, none⟩ = some (.string a0_7) := (blk_cell BK162.out 7).trans rfl
              have hcz35_8 : wc.cell? ⟨gb162, 8, none⟩ = some (.string a0_8) := (blk_cell BK162.out 8).trans rfl
              have hcz35_9 : wc.cell? ⟨gb162, 9, none⟩ = some (.string a0_9) := (blk_cell BK162.out 9).trans rfl
              have hcz35_10 : wc.cell? ⟨gb162, 10, none⟩ = some (.string a0_10) := (blk_cell BK162.out 10).trans rfl
              have hcz35_11 : wc.cell? ⟨gb162, 11, none⟩ = some (.string a0_11) := (blk_cell BK162.out 11).trans rfl
              have hcz35_12 : wc.cell? ⟨gb162, 12, none⟩ = some (.int .i64 a0_12) := (blk_cell BK162.out 12).trans rfl
              have hfz35_0 := blk_frozen BK162.out 0
              have hfz35_1 := blk_frozen BK162.out 1
              have hfz35_2 := blk_frozen BK162.out 2
              have hfz35_3 := blk_frozen BK162.out 3
              have hfz35_4 := blk_frozen BK162.out 4
              have hfz35_5 := blk_frozen BK162.out 5
              have hfz35_6 := blk_frozen BK162.out 6
              have hfz35_7 := blk_frozen BK162.out 7
              have hfz35_8 := blk_frozen BK162.out 8
              have hfz35_9 := blk_frozen BK162.out 9
              have hfz35_10 := blk_frozen BK162.out 10
              have hfz35_11 := blk_frozen BK162.out 11
              have hfz35_12 := blk_frozen BK162.out 12
              go_upto_if 46 with (fail)
              go_cut [3] (fun v3 wc => ∃ (kq : Nat) (x3_33 : List ByteArray), Aside0 (spec_Variant_attributes.j3 kq x3_33 a0_0 a0_1 a0_2 a0_3 a0_4 a0_5 a0_6 a0_7 a0_8 a0_9 a0_10 a0_11 a0_12 = some r) ∧ Aside0 (kq ≤ kj24) ∧ Aside0 (Kd.R Kd.string 9 wc w.heap.size (fun _ => True) v3 x3_33) ∧ Aside0 (wc.heap[gb162]? = some (.cells #[.string a0_0, .int .u32 a0_1, .int .u32 a0_2, .int .u32 a0_3, .string a0_4, .int .u32 a0_5, .int .u32 a0_6, .string a0_7, .string a0_8, .string a0_9, .string a0_10, .string a0_11, .int .i64 a0_12] 44 (0, 0))) ∧ Aside0 (Below w.heap.size w wc))
              case first =>
                have H := HC34.out
                clear HC34
                by_cases c36 : a0_7.toList = ([] : List UInt8)
                · rw [if_pos c36] at H
                  have c36b0 : (a0_7.toList == ([] : List UInt8)) = true := beq_iff_eq.mpr c36
                  have c36b1 : (a0_7.toList != ([] : List UInt8)) = false := bne_eq_false_iff_eq.mpr c36
                  (try (have c36b2 : a0_7.toList.isEmpty = true := by simpa using c36))
                  (try (have c36b3 : (!a0_7.toList.isEmpty) = false := by simpa using c36))
                  clear c36
                  (first | rw [c36b0] | rw [c36b3] | rw [c36b2] | (simp only [i64_w, i32_w]; rw [c36b0]) | skip)
                  have H' := Aside0.mk H
                  clear H
                  go_wp2
                  go_meet
                  case rel => exact ⟨_, (x3_24), H', ⟨by have := HJ5.out; have := HJ17.out; have := HJ24.out; first | omega | exact Nat.le_refl _⟩, ⟨by (with_reducible repeat (first | apply Kd.R_alloc | apply Kd.R_drewN | apply Kd.R_drew)); exact HO_3.out⟩, ⟨by (with_reducible repeat (first | refine blk_drewN ?_ _ | refine blk_drew ?_ | refine blk_alloc ?_ _)); exact BK162.out⟩, ⟨by repeat (first | (with_reducible first | exact HB.out | apply below_alloc | apply pw_below_drewN | apply below_drew1 | refine below_set ?_ GE162.out) | exact HB.out)⟩⟩
                · rw [if_neg c36] at H
                  have c36b0 : (a0_7.toList == ([] : List UInt8)) = false := beq_eq_false_iff_ne.mpr c36
                  have c36b1 : (a0_7.toList != ([] : List UInt8)) = true := bne_iff_ne.mpr c36
                  (try (have c36b2 : a0_7.toList.isEmpty = false := by simpa using c36))
                  (try (have c36b3 : (!a0_7.toList.isEmpty) = true := by simpa using c36))
                  (first | rw [c36b0] | rw [c36b3] | rw [c36b2] | (simp only [i64_w, i32_w]; rw [c36b0]) | skip)
                  replace H := Option.bind_eq_some_iff.mp H
                  obtain ⟨t184, A370, H⟩ := H
                  replace H : (if x3_24.length < 8796093022208 then (spec_Variant_attributes.j3 kj24 (x3_24 ++ [t184]) a0_0 a0_1 a0_2 a0_3 a0_4 a0_5 a0_6 a0_7 a0_8 a0_9 a0_10 a0_11 a0_12) else (none)) = some r := H
                  have A37 := Aside0.mk A370
                  clear A370
                  by_cases c38 : x3_24.length < 8796093022208
                  · rw [if_pos c38] at H
                    have LMc38 := Aside0.mk c38
                    clear c38
                    obtain ⟨y185, hy185⟩ : ∃ y_ : List ByteArray, y_ = (x3_24 ++ [t184]) := ⟨_, rfl⟩
                    replace H : (spec_Variant_attributes.j3 kj24 y185 a0_0 a0_1 a0_2 a0_3 a0_4 a0_5 a0_6 a0_7 a0_8 a0_9 a0_10 a0_11 a0_12) = some r := by first | (rw [hy185]; with_reducible exact H) | (have H2_ := (Option.bind_some _ _).symm.trans H; rw [hy185]; with_reducible exact H2_) | (have H2_ := (Option.bind_some _ _).symm.trans H; with_reducible exact H2_) | with_reducible exact H | (rw [hy185]; exact H) | exact H
                    have Ny185 := Aside0.mk hy185
                    clear hy185
                    have H' := Aside0.mk H
                    clear H
                    have hcz39_0 : wc.cell? ⟨gb162, 0, none⟩ = some (.string a0_0) := (blk_cell BK162.out 0).trans rfl
                    have hcz39_1 : wc.cell? ⟨gb162, 1, none⟩ = some (.int .u32 a0_1) := (blk_cell BK162.out 1).trans rfl
                    have hcz39_2 : wc.cell? ⟨gb162, 2, none⟩ = some (.int .u32 a0_2) := (blk_cell BK162.out 2).trans rfl
                    have hcz39_3 : wc.cell? ⟨gb162, 3, none⟩ = some (.int .u32 a0_3) := (blk_cell BK162.out 3).trans rfl
                    have hcz39_4 : wc.cell? ⟨gb162, 4, none⟩ = some (.string a0_4) := (blk_cell BK162.out 4).trans rfl
                    have hcz39_5 : wc.cell? ⟨gb162, 5, none⟩ = some (.int .u32 a0_5) := (blk_cell BK162.out 5).trans rfl
                    have hcz39_6 : wc.cell? ⟨gb162, 6, none⟩ = some (.int .u32 a0_6) := (blk_cell BK162.out 6).trans rfl
                    have hcz39_7 : wc.cell? ⟨gb162, 7, none⟩ = some (.string a0_7) := (blk_cell BK162.out 7).trans rfl
                    have hcz39_8 : wc.cell? ⟨gb162, 8, none⟩ = some (.string a0_8) := (blk_cell BK162.out 8).trans rfl
                    have hcz39_9 : wc.cell? ⟨gb162, 9, none⟩ = some (.string a0_9) := (blk_cell BK162.out 9).trans rfl
                    have hcz39_10 : wc.cell? ⟨gb162, 10, none⟩ = some (.string a0_10) := (blk_cell BK162.out 10).trans rfl
                    have hcz39_11 : wc.cell? ⟨gb162, 11, none⟩ = some (.string a0_11) := (blk_cell BK162.out 11).trans rfl
                    have hcz39_12 : wc.cell? ⟨gb162, 12, none⟩ = some (.int .i64 a0_12) := (blk_cell BK162.out 12).trans rfl
                    have hfz39_0 := blk_frozen BK162.out 0
                    have hfz39_1 := blk_frozen BK162.out 1
                    have hfz39_2 := blk_frozen BK162.out 2
                    have hfz39_3 := blk_frozen BK162.out 3
                    have hfz39_4 := blk_frozen BK162.out 4
                    have hfz39_5 := blk_frozen BK162.out 5
                    have hfz39_6 := blk_frozen BK162.out 6
                    have hfz39_7 := blk_frozen BK162.out 7
                    have hfz39_8 := blk_frozen BK162.out 8
                    have hfz39_9 := blk_frozen BK162.out 9
                    have hfz39_10 := blk_frozen BK162.out 10
                    have hfz39_11 := blk_frozen BK162.out 11
                    have hfz39_12 := blk_frozen BK162.out 12
                    go_wp2_with (first | ((with_reducible refine gate_callee (f := 24) rfl ?_); refine goesL_ (some 50) rfl rfl Tryz.func24 (by kernel_rfl) rfl #[.string (⟨#[65, 85, 68, 73, 79]⟩ : ByteArray), .string a0_7, .bool true] rfl (by (try simp only [List.map_toArray, List.map_cons, List.map_nil]); first | done | rfl | (simp only [List.length_drop, List.length_take]; rfl)) ?_; (with_reducible refine (spec_Line.calls (⟨#[65, 85, 68, 73, 79]⟩ : ByteArray) a0_7 true t184 _ A37.out).mono ?_); rintro e w' ⟨rfl, ⟨nd, rfl⟩⟩; refine ⟨_, rfl, ?_⟩) | ((with_reducible refine gate_builtin (b := .append) (xs := #[.tmp 47, .tmp 51]) rfl ?_); at_builtin; refine Kd.R_append Kd.string (w0 := w) w.heap.size rfl (.tmp 47) (.tmp 51) 50 9 (.string ⟨#[]⟩) 16 rfl Tryz.underlying50 info9 rfl (by decide) (by omega) u3 x3_24 t184 [.string t184] (fun _ => True) (fun _ => False) rfl rfl ?aP (fun _ hk => hk.elim) ?aF ?aO ?aB ?aS ?aL ?_; (case aP => exact rfl); (case aB => exact (by repeat (first | (with_reducible first | exact HB.out | apply below_alloc | apply pw_below_drewN | apply below_drew1 | refine below_set ?_ GE162.out) | exact HB.out))); (case aF => exact (fun _ _ => trivial)); (case aO => exact (by (with_reducible repeat (first | apply Kd.R_alloc | apply Kd.R_drewN | apply Kd.R_drew)); exact HO_3.out)); (case aS => exact (below_size (by repeat (first | (with_reducible first | exact HB.out | apply below_alloc | apply pw_below_drewN | apply below_drew1 | refine below_set ?_ GE162.out) | exact HB.out)))); (case aL => have := LMc38.out; omega); intro v186 w40 ho hb hg hat; rw [← Ny185.out] at ho; have n0_ := Aside0.mk (blk_grown (g := gb162) (o := .cells #[.string a0_0, .int .u32 a0_1, .int .u32 a0_2, .int .u32 a0_3, .string a0_4, .int .u32 a0_5, .int .u32 a0_6, .string a0_7, .string a0_8, .string a0_9, .string a0_10, .string a0_11, .int .i64 a0_12] 44 (0, 0)) (by (with_reducible repeat (first | refine blk_drewN ?_ _ | refine blk_drew ?_ | refine blk_alloc ?_ _)); exact BK162.out) hg (Kd.R_ne HO_3.out BK162.out (by decide))); have n1_ := Aside0.mk (hb); have n2_ := Aside0.mk (ho); clear BK162; clear HB; clear HO_3; have BK162 := n0_; have HB := n1_; have HO187 := n2_; clear n0_ n1_ n2_; clear ho hb hg hat))
                    go_meet
                    case rel => exact ⟨_, (y185), H', ⟨by have := HJ5.out; have := HJ17.out; have := HJ24.out; first | omega | exact Nat.le_refl _⟩, ⟨by (with_reducible repeat (first | apply Kd.R_alloc | apply Kd.R_drewN | apply Kd.R_drew)); exact HO187.out⟩, ⟨by (with_reducible repeat (first | refine blk_drewN ?_ _ | refine blk_drew ?_ | refine blk_alloc ?_ _)); exact BK162.out⟩, ⟨by repeat (first | (with_reducible first | exact HB.out | apply below_alloc | apply pw_below_drewN | apply below_drew1 | refine below_set ?_ GE162.out) | exact HB.out)⟩⟩
                  · rw [if_neg c38] at H
                    exact absurd H (by simp)
              case rest =>
                clear HC34
                clear hcz35_0 hcz35_1 hcz35_10 hcz35_11 hcz35_12 hcz35_2 hcz35_3 hcz35_4 hcz35_5 hcz35_6 hcz35_7 hcz35_8 hcz35_9 hfz35_0 hfz35_1 hfz35_10 hfz35_11 hfz35_12 hfz35_2 hfz35_3 hfz35_4 hfz35_5 hfz35_6 hfz35_7 hfz35_8 hfz35_9
                obtain ⟨kq, x3_33, HA, HJ33, HO_3, BK162, HB⟩ := hcut
                cases kq with
                | zero => exact absurd HA.out (by simp [spec_Variant_attributes.j3])
                | succ kj33 =>
                  have H := HA.out
                  clear HA
                  simp only [spec_Variant_attributes.j3] at H
                  have HC41 := Aside0.mk H
                  clear H
                  have hcz42_0 : wc.cell? ⟨gb162, 0, none⟩ = some (.string a0_0) := (blk_cell BK162.out 0).trans rfl
                  have hcz42_1 : wc.cell? ⟨gb162, 1, none⟩ = some (.int .u32 a0_1) := (blk_cell BK162.out 1).trans rfl
                  have hcz42_2 : wc.cell? ⟨gb162, 2, none⟩ = some (.int .u32 a0_2) := (blk_cell BK162.out 2).trans rfl
                  have hcz42_3 : wc.cell? ⟨gb162, 3, none⟩ = some (.int .u32 a0_3) := (blk_cell BK162.out 3).trans rfl
                  have hcz42_4 : wc.cell? ⟨gb162, 4, none⟩ = some (.string a0_4) := (blk_cell BK162.out 4).trans rfl
                  have hcz42_5 : wc.cell? ⟨gb162, 5, none⟩ = some (.int .u32 a0_5) := (blk_cell BK162.out 5).trans rfl
                  have hcz42_6 : wc.cell? ⟨gb162, 6, none⟩ = some (.int .u32 a0_6) := (blk_cell BK162.out 6).trans rfl
                  have hcz42_7 : wc.cell? ⟨gb162, 7, none⟩ = some (.string a0_7) := (blk_cell BK162.out 7).trans rfl
                  have hcz42_8 : wc.cell? ⟨gb162, 8, none⟩ = some (.string a0_8) := (blk_cell BK162.out 8).trans rfl
                  have hcz42_9 : wc.cell? ⟨gb162, 9, none⟩ = some (.string a0_9) := (blk_cell BK162.out 9).trans rfl
                  have hcz42_10 : wc.cell? ⟨gb162, 10, none⟩ = some (.string a0_10) := (blk_cell BK162.out 10).trans rfl
                  have hcz42_11 : wc.cell? ⟨gb162, 11, none⟩ = some (.string a0_11) := (blk_cell BK162.out 11).trans rfl
                  have hcz42_12 : wc.cell? ⟨gb162, 12, none⟩ = some (.int .i64 a0_12) := (blk_cell BK162.out 12).trans rfl
                  have hfz42_0 := blk_frozen BK162.out 0
                  have hfz42_1 := blk_frozen BK162.out 1
                  have hfz42_2 := blk_frozen BK162.out 2
                  have hfz42_3 := blk_frozen BK162.out 3
                  have hfz42_4 := blk_frozen BK162.out 4
                  have hfz42_5 := blk_frozen BK162.out 5
                  have hfz42_6 := blk_frozen BK162.out 6
                  have hfz42_7 := blk_frozen BK162.out 7
                  have hfz42_8 := blk_frozen BK162.out 8
                  have hfz42_9 := blk_frozen BK162.out 9
                  have hfz42_10 := blk_frozen BK162.out 10
                  have hfz42_11 := blk_frozen BK162.out 11
                  have hfz42_12 := blk_frozen BK162.out 12
                  go_upto_if 55 with (fail)
                  go_cut [3] (fun v3 wc => ∃ (kq : Nat) (x3_40 : List ByteArray), Aside0 (spec_Variant_attributes.j4 kq x3_40 a0_0 a0_1 a0_2 a0_3 a0_4 a0_5 a0_6 a0_7 a0_8 a0_9 a0_10 a0_11 a0_12 = some r) ∧ Aside0 (kq ≤ kj33) ∧ Aside0 (Kd.R Kd.string 9 wc w.heap.size (fun _ => True) v3 x3_40) ∧ Aside0 (wc.heap[gb162]? = some (.cells #[.string a0_0, .int .u32 a0_1, .int .u32 a0_2, .int .u32 a0_3, .string a0_4, .int .u32 a0_5, .int .u32 a0_6, .string a0_7, .string a0_8, .string a0_9, .string a0_10, .string a0_11, .int .i64 a0_12] 44 (0, 0))) ∧ Aside0 (Below w.heap.size w wc))
                  case first =>
                    have H := HC41.out
                    clear HC41
                    by_cases c43 : a0_8.toList = ([] : List UInt8)
                    · rw [if_pos c43] at H
                      have c43b0 : (a0_8.toList == ([] : List UInt8)) = true := beq_iff_eq.mpr c43
                      have c43b1 : (a0_8.toList != ([] : List UInt8)) = false := bne_eq_false_iff_eq.mpr c43
                      (try (have c43b2 : a0_8.toList.isEmpty = true := by simpa using c43))
                      (try (have c43b3 : (!a0_8.toList.isEmpty) = false := by simpa using c43))
                      clear c43
                      (first | rw [c43b0] | rw [c43b3] | rw [c43b2] | (simp only [i64_w, i32_w]; rw [c43b0]) | skip)
                      have H' := Aside0.mk H
                      clear H
                      go_wp2
                      go_meet
                      case rel => exact ⟨_, (x3_33), H', ⟨by have := HJ5.out; have := HJ17.out; have := HJ24.out; have := HJ33.out; first | omega | exact Nat.le_refl _⟩, ⟨by (with_reducible repeat (first | apply Kd.R_alloc | apply Kd.R_drewN | apply Kd.R_drew)); exact HO_3.out⟩, ⟨by (with_reducible repeat (first | refine blk_drewN ?_ _ | refine blk_drew ?_ | refine blk_alloc ?_ _)); exact BK162.out⟩, ⟨by repeat (first | (with_reducible first | exact HB.out | apply below_alloc | apply pw_below_drewN | apply below_drew1 | refine below_set ?_ GE162.out) | exact HB.out)⟩⟩
                    · rw [if_neg c43] at H
                      have c43b0 : (a0_8.toList == ([] : List UInt8)) = false := beq_eq_false_iff_ne.mpr c43
                      have c43b1 : (a0_8.toList != ([] : List UInt8)) = true := bne_iff_ne.mpr c43
                      (try (have c43b2 : a0_8.toList.isEmpty = false := by simpa using c43))
                      (try (have c43b3 : (!a0_8.toList.isEmpty) = true := by simpa using c43))
                      (first | rw [c43b0] | rw [c43b3] | rw [c43b2] | (simp only [i64_w, i32_w]; rw [c43b0]) | skip)
                      replace H := Option.bind_eq_some_iff.mp H
                      obtain ⟨t188, A440, H⟩ := H
                      replace H : (if x3_33.length < 8796093022208 then (spec_Variant_attributes.j4 kj33 (x3_33 ++ [t188]) a0_0 a0_1 a0_2 a0_3 a0_4 a0_5 a0_6 a0_7 a0_8 a0_9 a0_10 a0_11 a0_12) else (none)) = some r := H
                      have A44 := Aside0.mk A440
                      clear A440
                      by_cases c45 : x3_33.length < 8796093022208
                      · rw [if_pos c45] at H
                        have LMc45 := Aside0.mk c45
                        clear c45
                        obtain ⟨y189, hy189⟩ : ∃ y_ : List ByteArray, y_ = (x3_33 ++ [t188]) := ⟨_, rfl⟩
                        replace H : (spec_Variant_attributes.j4 kj33 y189 a0_0 a0_1 a0_2 a0_3 a0_4 a0_5 a0_6 a0_7 a0_8 a0_9 a0_10 a0_11 a0_12) = some r := by first | (rw [hy189]; with_reducible exact H) | (have H2_ := (Option.bind_some _ _).symm.trans H; rw [hy189]; with_reducible exact H2_) | (have H2_ := (Option.bind_some _ _).symm.trans H; with_reducible exact H2_) | with_reducible exact H | (rw [hy189]; exact H) | exact H
                        have Ny189 := Aside0.mk hy189
                        clear hy189
                        have H' := Aside0.mk H
                        clear H
                        have hcz46_0 : wc.cell? ⟨gb162, 0, none⟩ = some (.string a0_0) := (blk_cell BK162.out 0).trans rfl
                        have hcz46_1 : wc.cell? ⟨gb162, 1, none⟩ = some (.int .u32 a0_1) := (blk_cell BK162.out 1).trans rfl
                        have hcz46_2 : wc.cell? ⟨gb162, 2, none⟩ = some (.int .u32 a0_2) := (blk_cell BK162.out 2).trans rfl
                        have hcz46_3 : wc.cell? ⟨gb162, 3, none⟩ = some (.int .u32 a0_3) := (blk_cell BK162.out 3).trans rfl
                        have hcz46_4 : wc.cell? ⟨gb162, 4, none⟩ = some (.string a0_4) := (blk_cell BK162.out 4).trans rfl
                        have hcz46_5 : wc.cell? ⟨gb162, 5, none⟩ = some (.int .u32 a0_5) := (blk_cell BK162.out 5).trans rfl
                        have hcz46_6 : wc.cell? ⟨gb162, 6, none⟩ = some (.int .u32 a0_6) := (blk_cell BK162.out 6).trans rfl
                        have hcz46_7 : wc.cell? ⟨gb162, 7, none⟩ = some (.string a0_7) := (blk_cell BK162.out 7).trans rfl
                        have hcz46_8 : wc.cell? ⟨gb162, 8, none⟩ = some (.string a0_8) := (blk_cell BK162.out 8).trans rfl
                        have hcz46_9 : wc.cell? ⟨gb162, 9, none⟩ = some (.string a0_9) := (blk_cell BK162.out 9).trans rfl
                        have hcz46_10 : wc.cell? ⟨gb162, 10, none⟩ = some (.string a0_10) := (blk_cell BK162.out 10).trans rfl
                        have hcz46_11 : wc.cell? ⟨gb162, 11, none⟩ = some (.string a0_11) := (blk_cell BK162.out 11).trans rfl
                        have hcz46_12 : wc.cell? ⟨gb162, 12, none⟩ = some (.int .i64 a0_12) := (blk_cell BK162.out 12).trans rfl
                        have hfz46_0 := blk_frozen BK162.out 0
                        have hfz46_1 := blk_frozen BK162.out 1
                        have hfz46_2 := blk_frozen BK162.out 2
                        have hfz46_3 := blk_frozen BK162.out 3
                        have hfz46_4 := blk_frozen BK162.out 4
                        have hfz46_5 := blk_frozen BK162.out 5
                        have hfz46_6 := blk_frozen BK162.out 6
                        have hfz46_7 := blk_frozen BK162.out 7
                        have hfz46_8 := blk_frozen BK162.out 8
                        have hfz46_9 := blk_frozen BK162.out 9
                        have hfz46_10 := blk_frozen BK162.out 10
                        have hfz46_11 := blk_frozen BK162.out 11
                        have hfz46_12 := blk_frozen BK162.out 12
                        go_wp2_with (first | ((with_reducible refine gate_callee (f := 24) rfl ?_); refine goesL_ (some 59) rfl rfl Tryz.func24 (by kernel_rfl) rfl #[.string (⟨#[86, 73, 68, 69, 79]⟩ : ByteArray), .string a0_8, .bool true] rfl (by (try simp only [List.map_toArray, List.map_cons, List.map_nil]); first | done | rfl | (simp only [List.length_drop, List.length_take]; rfl)) ?_; (with_reducible refine (spec_Line.calls (⟨#[86, 73, 68, 69, 79]⟩ : ByteArray) a0_8 true t188 _ A44.out).mono ?_); rintro e w' ⟨rfl, ⟨nd, rfl⟩⟩; refine ⟨_, rfl, ?_⟩) | ((with_reducible refine gate_builtin (b := .append) (xs := #[.tmp 56, .tmp 60]) rfl ?_); at_builtin; refine Kd.R_append Kd.string (w0 := w) w.heap.size rfl (.tmp 56) (.tmp 60) 50 9 (.string ⟨#[]⟩) 16 rfl Tryz.underlying50 info9 rfl (by decide) (by omega) u3 x3_33 t188 [.string t188] (fun _ => True) (fun _ => False) rfl rfl ?aP (fun _ hk => hk.elim) ?aF ?aO ?aB ?aS ?aL ?_; (case aP => exact rfl); (case aB => exact (by repeat (first | (with_reducible first | exact HB.out | apply below_alloc | apply pw_below_drewN | apply below_drew1 | refine below_set ?_ GE162.out) | exact HB.out))); (case aF => exact (fun _ _ => trivial)); (case aO => exact (by (with_reducible repeat (first | apply Kd.R_alloc | apply Kd.R_drewN | apply Kd.R_drew)); exact HO_3.out)); (case aS => exact (below_size (by repeat (first | (with_reducible first | exact HB.out | apply below_alloc | apply pw_below_drewN | apply below_drew1 | refine below_set ?_ GE162.out) | exact HB.out)))); (case aL => have := LMc45.out; omega); intro v190 w47 ho hb hg hat; rw [← Ny189.out] at ho; have n0_ := Aside0.mk (blk_grown (g := gb162) (o := .cells #[.string a0_0, .int .u32 a0_1, .int .u32 a0_2, .int .u32 a0_3, .string a0_4, .int .u32 a0_5, .int .u32 a0_6, .string a0_7, .string a0_8, .string a0_9, .string a0_10, .string a0_11, .int .i64 a0_12] 44 (0, 0)) (by (with_reducible repeat (first | refine blk_drewN ?_ _ | refine blk_drew ?_ | refine blk_alloc ?_ _)); exact BK162.out) hg (Kd.R_ne HO_3.out BK162.out (by decide))); have n1_ := Aside0.mk (hb); have n2_ := Aside0.mk (ho); clear BK162; clear HB; clear HO_3; have BK162 := n0_; have HB := n1_; have HO191 := n2_; clear n0_ n1_ n2_; clear ho hb hg hat))
                        go_meet
                        case rel => exact ⟨_, (y189), H', ⟨by have := HJ5.out; have := HJ17.out; have := HJ24.out; have := HJ33.out; first | omega | exact Nat.le_refl _⟩, ⟨by (with_reducible repeat (first | apply Kd.R_alloc | apply Kd.R_drewN | apply Kd.R_drew)); exact HO191.out⟩, ⟨by (with_reducible repeat (first | refine blk_drewN ?_ _ | refine blk_drew ?_ | refine blk_alloc ?_ _)); exact BK162.out⟩, ⟨by repeat (first | (with_reducible first | exact HB.out | apply below_alloc | apply pw_below_drewN | apply below_drew1 | refine below_set ?_ GE162.out) | exact HB.out)⟩⟩
                      · rw [if_neg c45] at H
                        exact absurd H (by simp)
                  case rest =>
                    clear HC41
                    clear hcz42_0 hcz42_1 hcz42_10 hcz42_11 hcz42_12 hcz42_2 hcz42_3 hcz42_4 hcz42_5 hcz42_6 hcz42_7 hcz42_8 hcz42_9 hfz42_0 hfz42_1 hfz42_10 hfz42_11 hfz42_12 hfz42_2 hfz42_3 hfz42_4 hfz42_5 hfz42_6 hfz42_7 hfz42_8 hfz42_9
                    obtain ⟨kq, x3_40, HA, HJ40, HO_3, BK162, HB⟩ := hcut
                    cases kq with
                    | zero => exact absurd HA.out (by simp [spec_Variant_attributes.j4])
                    | succ kj40 =>
                      have H := HA.out
                      clear HA
                      simp only [spec_Variant_attributes.j4] at H
                      have HC48 := Aside0.mk H
                      clear H
                      have hcz49_0 : wc.cell? ⟨gb162, 0, none⟩ = some (.string a0_0) := (blk_cell BK162.out 0).trans rfl
                      have hcz49_1 : wc.cell? ⟨gb162, 1, none⟩ = some (.int .u32 a0_1) := (blk_cell BK162.out 1).trans rfl
                      have hcz49_2 : wc.cell? ⟨gb162, 2, none⟩ = some (.int .u32 a0_2) := (blk_cell BK162.out 2).trans rfl
                      have hcz49_3 : wc.cell? ⟨gb162, 3, none⟩ = some (.int .u32 a0_3) := (blk_cell BK162.out 3).trans rfl
                      have hcz49_4 : wc.cell? ⟨gb162, 4, none⟩ = some (.string a0_4) := (blk_cell BK162.out 4).trans rfl
                      have hcz49_5 : wc.cell? ⟨gb162, 5, none⟩ = some (.int .u32 a0_5) := (blk_cell BK162.out 5).trans rfl
                      have hcz49_6 : wc.cell? ⟨gb162, 6, none⟩ = some (.int .u32 a0_6) := (blk_cell BK162.out 6).trans rfl
                      have hcz49_7 : wc.cell? ⟨gb162, 7, none⟩ = some (.string a0_7) := (blk_cell BK162.out 7).trans rfl
                      have hcz49_8 : wc.cell? ⟨gb162, 8, none⟩ = some (.string a0_8) := (blk_cell BK162.out 8).trans rfl
                      have hcz49_9 : wc.cell? ⟨gb162, 9, none⟩ = some (.string a0_9) := (blk_cell BK162.out 9).trans rfl
                      have hcz49_10 : wc.cell? ⟨gb162, 10, none⟩ = some (.string a0_10) := (blk_cell BK162.out 10).trans rfl
                      have hcz49_11 : wc.cell? ⟨gb162, 11, none⟩ = some (.string a0_11) := (blk_cell BK162.out 11).trans rfl
                      have hcz49_12 : wc.cell? ⟨gb162, 12, none⟩ = some (.int .i64 a0_12) := (blk_cell BK162.out 12).trans rfl
                      have hfz49_0 := blk_frozen BK162.out 0
                      have hfz49_1 := blk_frozen BK162.out 1
                      have hfz49_2 := blk_frozen BK162.out 2
                      have hfz49_3 := blk_frozen BK162.out 3
                      have hfz49_4 := blk_frozen BK162.out 4
                      have hfz49_5 := blk_frozen BK162.out 5
                      have hfz49_6 := blk_frozen BK162.out 6
                      have hfz49_7 := blk_frozen BK162.out 7
                      have hfz49_8 := blk_frozen BK162.out 8
                      have hfz49_9 := blk_frozen BK162.out 9
                      have hfz49_10 := blk_frozen BK162.out 10
                      have hfz49_11 := blk_frozen BK162.out 11
                      have hfz49_12 := blk_frozen BK162.out 12
                      go_upto_if 64 with (fail)
                      go_cut [3] (fun v3 wc => ∃ (kq : Nat) (x3_47 : List ByteArray), Aside0 (spec_Variant_attributes.j5 kq x3_47 a0_0 a0_1 a0_2 a0_3 a0_4 a0_5 a0_6 a0_7 a0_8 a0_9 a0_10 a0_11 a0_12 = some r) ∧ Aside0 (kq ≤ kj40) ∧ Aside0 (Kd.R Kd.string 9 wc w.heap.size (fun _ => True) v3 x3_47) ∧ Aside0 (wc.heap[gb162]? = some (.cells #[.string a0_0, .int .u32 a0_1, .int .u32 a0_2, .int .u32 a0_3, .string a0_4, .int .u32 a0_5, .int .u32 a0_6, .string a0_7, .string a0_8, .string a0_9, .string a0_10, .string a0_11, .int .i64 a0_12] 44 (0, 0))) ∧ Aside0 (Below w.heap.size w wc))
                      case first =>
                        have H := HC48.out
                        clear HC48
                        by_cases c50 : a0_10.toList = ([] : List UInt8)
                        · rw [if_pos c50] at H
                          have c50b0 : (a0_10.toList == ([] : List UInt8)) = true := beq_iff_eq.mpr c50
                          have c50b1 : (a0_10.toList != ([] : List UInt8)) = false := bne_eq_false_iff_eq.mpr c50
                          (try (have c50b2 : a0_10.toList.isEmpty = true := by simpa using c50))
                          (try (have c50b3 : (!a0_10.toList.isEmpty) = false := by simpa using c50))
                          clear c50
                          (first | rw [c50b0] | rw [c50b3] | rw [c50b2] | (simp only [i64_w, i32_w]; rw [c50b0]) | skip)
                          have H' := Aside0.mk H
                          clear H
                          go_wp2
                          go_meet
                          case rel => exact ⟨_, (x3_40), H', ⟨by have := HJ5.out; have := HJ17.out; have := HJ24.out; have := HJ33.out; have := HJ40.out; first | omega | exact Nat.le_refl _⟩, ⟨by (with_reducible repeat (first | apply Kd.R_alloc | apply Kd.R_drewN | apply Kd.R_drew)); exact HO_3.out⟩, ⟨by (with_reducible repeat (first | refine blk_drewN ?_ _ | refine blk_drew ?_ | refine blk_alloc ?_ _)); exact BK162.out⟩, ⟨by repeat (first | (with_reducible first | exact HB.out | apply below_alloc | apply pw_below_drewN | apply below_drew1 | refine below_set ?_ GE162.out) | exact HB.out)⟩⟩
                        · rw [if_neg c50] at H
                          have c50b0 : (a0_10.toList == ([] : List UInt8)) = false := beq_eq_false_iff_ne.mpr c50
                          have c50b1 : (a0_10.toList != ([] : List UInt8)) = true := bne_iff_ne.mpr c50
                          (try (have c50b2 : a0_10.toList.isEmpty = false := by simpa using c50))
                          (try (have c50b3 : (!a0_10.toList.isEmpty) = true := by simpa using c50))
                          (first | rw [c50b0] | rw [c50b3] | rw [c50b2] | (simp only [i64_w, i32_w]; rw [c50b0]) | skip)
                          replace H := Option.bind_eq_some_iff.mp H
                          obtain ⟨t192, A510, H⟩ := H
                          replace H : (if x3_40.length < 8796093022208 then (spec_Variant_attributes.j5 kj40 (x3_40 ++ [t192]) a0_0 a0_1 a0_2 a0_3 a0_4 a0_5 a0_6 a0_7 a0_8 a0_9 a0_10 a0_11 a0_12) else (none)) = some r := H
                          have A51 := Aside0.mk A510
                          clear A510
                          by_cases c52 : x3_40.length < 8796093022208
                          · rw [if_pos c52] at H
                            have LMc52 := Aside0.mk c52
                            clear c52
                            obtain ⟨y193, hy193⟩ : ∃ y_ : List ByteArray, y_ = (x3_40 ++ [t192]) := ⟨_, rfl⟩
                            replace H : (spec_Variant_attributes.j5 kj40 y193 a0_0 a0_1 a0_2 a0_3 a0_4 a0_5 a0_6 a0_7 a0_8 a0_9 a0_10 a0_11 a0_12) = some r := by first | (rw [hy193]; with_reducible exact H) | (have H2_ := (Option.bind_some _ _).symm.trans H; rw [hy193]; with_reducible exact H2_) | (have H2_ := (Option.bind_some _ _).symm.trans H; with_reducible exact H2_) | with_reducible exact H | (rw [hy193]; exact H) | exact H
                            have Ny193 := Aside0.mk hy193
                            clear hy193
                            have H' := Aside0.mk H
                            clear H
                            have hcz53_0 : wc.cell? ⟨gb162, 0, none⟩ = some (.string a0_0) := (blk_cell BK162.out 0).trans rfl
                            have hcz53_1 : wc.cell? ⟨gb162, 1, none⟩ = some (.int .u32 a0_1) := (blk_cell BK162.out 1).trans rfl
                            have hcz53_2 : wc.cell? ⟨gb162, 2, none⟩ = some (.int .u32 a0_2) := (blk_cell BK162.out 2).trans rfl
                            have hcz53_3 : wc.cell? ⟨gb162, 3, none⟩ = some (.int .u32 a0_3) := (blk_cell BK162.out 3).trans rfl
                            have hcz53_4 : wc.cell? ⟨gb162, 4, none⟩ = some (.string a0_4) := (blk_cell BK162.out 4).trans rfl
                            have hcz53_5 : wc.cell? ⟨gb162, 5, none⟩ = some (.int .u32 a0_5) := (blk_cell BK162.out 5).trans rfl
                            have hcz53_6 : wc.cell? ⟨gb162, 6, none⟩ = some (.int .u32 a0_6) := (blk_cell BK162.out 6).trans rfl
                            have hcz53_7 : wc.cell? ⟨gb162, 7, none⟩ = some (.string a0_7) := (blk_cell BK162.out 7).trans rfl
                            have hcz53_8 : wc.cell? ⟨gb162, 8, none⟩ = some (.string a0_8) := (blk_cell BK162.out 8).trans rfl
                            have hcz53_9 : wc.cell? ⟨gb162, 9, none⟩ = some (.string a0_9) := (blk_cell BK162.out 9).trans rfl
                            have hcz53_10 : wc.cell? ⟨gb162, 10, none⟩ = some (.string a0_10) := (blk_cell BK162.out 10).trans rfl
                            have hcz53_11 : wc.cell? ⟨gb162, 11, none⟩ = some (.string a0_11) := (blk_cell BK162.out 11).trans rfl
                            have hcz53_12 : wc.cell? ⟨gb162, 12, none⟩ = some (.int .i64 a0_12) := (blk_cell BK162.out 12).trans rfl
                            have hfz53_0 := blk_frozen BK162.out 0
                            have hfz53_1 := blk_frozen BK162.out 1
                            have hfz53_2 := blk_frozen BK162.out 2
                            have hfz53_3 := blk_frozen BK162.out 3
                            have hfz53_4 := blk_frozen BK162.out 4
                            have hfz53_5 := blk_frozen BK162.out 5
                            have hfz53_6 := blk_frozen BK162.out 6
                            have hfz53_7 := blk_frozen BK162.out 7
                            have hfz53_8 := blk_frozen BK162.out 8
                            have hfz53_9 := blk_frozen BK162.out 9
                            have hfz53_10 := blk_frozen BK162.out 10
                            have hfz53_11 := blk_frozen BK162.out 11
                            have hfz53_12 := blk_frozen BK162.out 12
                            go_wp2_with (first | ((with_reducible refine gate_callee (f := 24) rfl ?_); refine goesL_ (some 71) rfl rfl Tryz.func24 (by kernel_rfl) rfl #[.string (⟨#[67, 76, 79, 83, 69, 68, 45, 67, 65, 80, 84, 73, 79, 78, 83]⟩ : ByteArray), .string a0_10, .bool (a0_10.toList != ([78, 79, 78, 69] : List UInt8))] rfl (by (try simp only [List.map_toArray, List.map_cons, List.map_nil]); first | done | rfl | (simp only [List.length_drop, List.length_take]; rfl)) ?_; (with_reducible refine (spec_Line.calls (⟨#[67, 76, 79, 83, 69, 68, 45, 67, 65, 80, 84, 73, 79, 78, 83]⟩ : ByteArray) a0_10 (a0_10.toList != ([78, 79, 78, 69] : List UInt8)) t192 _ A51.out).mono ?_); rintro e w' ⟨rfl, ⟨nd, rfl⟩⟩; refine ⟨_, rfl, ?_⟩) | ((with_reducible refine gate_builtin (b := .append) (xs := #[.tmp 65, .tmp 72]) rfl ?_); at_builtin; refine Kd.R_append Kd.string (w0 := w) w.heap.size rfl (.tmp 65) (.tmp 72) 50 9 (.string ⟨#[]⟩) 16 rfl Tryz.underlying50 info9 rfl (by decide) (by omega) u3 x3_40 t192 [.string t192] (fun _ => True) (fun _ => False) rfl rfl ?aP (fun _ hk => hk.elim) ?aF ?aO ?aB ?aS ?aL ?_; (case aP => exact rfl); (case aB => exact (by repeat (first | (with_reducible first | exact HB.out | apply below_alloc | apply pw_below_drewN | apply below_drew1 | refine below_set ?_ GE162.out) | exact HB.out))); (case aF => exact (fun _ _ => trivial)); (case aO => exact (by (with_reducible repeat (first | apply Kd.R_alloc | apply Kd.R_drewN | apply Kd.R_drew)); exact HO_3.out)); (case aS => exact (below_size (by repeat (first | (with_reducible first | exact HB.out | apply below_alloc | apply pw_below_drewN | apply below_drew1 | refine below_set ?_ GE162.out) | exact HB.out)))); (case aL => have := LMc52.out; omega); intro v194 w54 ho hb hg hat; rw [← Ny193.out] at ho; have n0_ := Aside0.mk (blk_grown (g := gb162) (o := .cells #[.string a0_0, .int .u32 a0_1, .int .u32 a0_2, .int .u32 a0_3, .string a0_4, .int .u32 a0_5, .int .u32 a0_6, .string a0_7, .string a0_8, .string a0_9, .string a0_10, .string a0_11, .int .i64 a0_12] 44 (0, 0)) (by (with_reducible repeat (first | refine blk_drewN ?_ _ | refine blk_drew ?_ | refine blk_alloc ?_ _)); exact BK162.out) hg (Kd.R_ne HO_3.out BK162.out (by decide))); have n1_ := Aside0.mk (hb); have n2_ := Aside0.mk (ho); clear BK162; clear HB; clear HO_3; have BK162 := n0_; have HB := n1_; have HO195 := n2_; clear n0_ n1_ n2_; clear ho hb hg hat))
                            go_meet
                            case rel => exact ⟨_, (y193), H', ⟨by have := HJ5.out; have := HJ17.out; have := HJ24.out; have := HJ33.out; have := HJ40.out; first | omega | exact Nat.le_refl _⟩, ⟨by (with_reducible repeat (first | apply Kd.R_alloc | apply Kd.R_drewN | apply Kd.R_drew)); exact HO195.out⟩, ⟨by (with_reducible repeat (first | refine blk_drewN ?_ _ | refine blk_drew ?_ | refine blk_alloc ?_ _)); exact BK162.out⟩, ⟨by repeat (first | (with_reducible first | exact HB.out | apply below_alloc | apply pw_below_drewN | apply below_drew1 | refine below_set ?_ GE162.out) | exact HB.out)⟩⟩
                          · rw [if_neg c52] at H
                            exact absurd H (by simp)
                      case rest =>
                        clear HC48
                        clear hcz49_0 hcz49_1 hcz49_10 hcz49_11 hcz49_12 hcz49_2 hcz49_3 hcz49_4 hcz49_5 hcz49_6 hcz49_7 hcz49_8 hcz49_9 hfz49_0 hfz49_1 hfz49_10 hfz49_11 hfz49_12 hfz49_2 hfz49_3 hfz49_4 hfz49_5 hfz49_6 hfz49_7 hfz49_8 hfz49_9
                        obtain ⟨kq, x3_47, HA, HJ47, HO_3, BK162, HB⟩ := hcut
                        cases kq with
                        | zero => exact absurd HA.out (by simp [spec_Variant_attributes.j5])
                        | succ kj47 =>
                          have H := HA.out
                          clear HA
                          simp only [spec_Variant_attributes.j5] at H
                          have HC55 := Aside0.mk H
                          clear H
                          have hcz56_0 : wc.cell? ⟨gb162, 0, none⟩ = some (.string a0_0) := (blk_cell BK162.out 0).trans rfl
                          have hcz56_1 : wc.cell? ⟨gb162, 1, none⟩ = some (.int .u32 a0_1) := (blk_cell BK162.out 1).trans rfl
                          have hcz56_2 : wc.cell? ⟨gb162, 2, none⟩ = some (.int .u32 a0_2) := (blk_cell BK162.out 2).trans rfl
                          have hcz56_3 : wc.cell? ⟨gb162, 3, none⟩ = some (.int .u32 a0_3) := (blk_cell BK162.out 3).trans rfl
                          have hcz56_4 : wc.cell? ⟨gb162, 4, none⟩ = some (.string a0_4) := (blk_cell BK162.out 4).trans rfl
                          have hcz56_5 : wc.cell? ⟨gb162, 5, none⟩ = some (.int .u32 a0_5) := (blk_cell BK162.out 5).trans rfl
                          have hcz56_6 : wc.cell? ⟨gb162, 6, none⟩ = some (.int .u32 a0_6) := (blk_cell BK162.out 6).trans rfl
                          have hcz56_7 : wc.cell? ⟨gb162, 7, none⟩ = some (.string a0_7) := (blk_cell BK162.out 7).trans rfl
                          have hcz56_8 : wc.cell? ⟨gb162, 8, none⟩ = some (.string a0_8) := (blk_cell BK162.out 8).trans rfl
                          have hcz56_9 : wc.cell? ⟨gb162, 9, none⟩ = some (.string a0_9) := (blk_cell BK162.out 9).trans rfl
                          have hcz56_10 : wc.cell? ⟨gb162, 10, none⟩ = some (.string a0_10) := (blk_cell BK162.out 10).trans rfl
                          have hcz56_11 : wc.cell? ⟨gb162, 11, none⟩ = some (.string a0_11) := (blk_cell BK162.out 11).trans rfl
                          have hcz56_12 : wc.cell? ⟨gb162, 12, none⟩ = some (.int .i64 a0_12) := (blk_cell BK162.out 12).trans rfl
                          have hfz56_0 := blk_frozen BK162.out 0
                          have hfz56_1 := blk_frozen BK162.out 1
                          have hfz56_2 := blk_frozen BK162.out 2
                          have hfz56_3 := blk_frozen BK162.out 3
                          have hfz56_4 := blk_frozen BK162.out 4
                          have hfz56_5 := blk_frozen BK162.out 5
                          have hfz56_6 := blk_frozen BK162.out 6
                          have hfz56_7 := blk_frozen BK162.out 7
                          have hfz56_8 := blk_frozen BK162.out 8
                          have hfz56_9 := blk_frozen BK162.out 9
                          have hfz56_10 := blk_frozen BK162.out 10
                          have hfz56_11 := blk_frozen BK162.out 11
                          have hfz56_12 := blk_frozen BK162.out 12
                          go_upto_if 76 with (fail)
                          go_cut [3] (fun v3 wc => ∃ (kq : Nat) (x3_54 : List ByteArray), Aside0 (spec_Variant_attributes.j6 kq x3_54 a0_0 a0_1 a0_2 a0_3 a0_4 a0_5 a0_6 a0_7 a0_8 a0_9 a0_10 a0_11 a0_12 = some r) ∧ Aside0 (kq ≤ kj47) ∧ Aside0 (Kd.R Kd.string 9 wc w.heap.size (fun _ => True) v3 x3_54) ∧ Aside0 (wc.heap[gb162]? = some (.cells #[.string a0_0, .int .u32 a0_1, .int .u32 a0_2, .int .u32 a0_3, .string a0_4, .int .u32 a0_5, .int .u32 a0_6, .string a0_7, .string a0_8, .string a0_9, .string a0_10, .string a0_11, .int .i64 a0_12] 44 (0, 0))) ∧ Aside0 (Below w.heap.size w wc))
                          case first =>
                            have H := HC55.out
                            clear HC55
                            by_cases c57 : a0_9.toList = ([] : List UInt8)
                            · rw [if_pos c57] at H
                              have c57b0 : (a0_9.toList == ([] : List UInt8)) = true := beq_iff_eq.mpr c57
                              have c57b1 : (a0_9.toList != ([] : List UInt8)) = false := bne_eq_false_iff_eq.mpr c57
                              (try (have c57b2 : a0_9.toList.isEmpty = true := by simpa using c57))
                              (try (have c57b3 : (!a0_9.toList.isEmpty) = false := by simpa using c57))
                              clear c57
                              (first | rw [c57b0] | rw [c57b3] | rw [c57b2] | (simp only [i64_w, i32_w]; rw [c57b0]) | skip)
                              have H' := Aside0.mk H
                              clear H
                              go_wp2
                              go_meet
                              case rel => exact ⟨_, (x3_47), H', ⟨by have := HJ5.out; have := HJ17.out; have := HJ24.out; have := HJ33.out; have := HJ40.out; have := HJ47.out; first | omega | exact Nat.le_refl _⟩, ⟨by (with_reducible repeat (first | apply Kd.R_alloc | apply Kd.R_drewN | apply Kd.R_drew)); exact HO_3.out⟩, ⟨by (with_reducible repeat (first | refine blk_drewN ?_ _ | refine blk_drew ?_ | refine blk_alloc ?_ _)); exact BK162.out⟩, ⟨by repeat (first | (with_reducible first | exact HB.out | apply below_alloc | apply pw_below_drewN | apply below_drew1 | refine below_set ?_ GE162.out) | exact HB.out)⟩⟩
                            · rw [if_neg c57] at H
                              have c57b0 : (a0_9.toList == ([] : List UInt8)) = false := beq_eq_false_iff_ne.mpr c57
                              have c57b1 : (a0_9.toList != ([] : List UInt8)) = true := bne_iff_ne.mpr c57
                              (try (have c57b2 : a0_9.toList.isEmpty = false := by simpa using c57))
                              (try (have c57b3 : (!a0_9.toList.isEmpty) = true := by simpa using c57))
                              (first | rw [c57b0] | rw [c57b3] | rw [c57b2] | (simp only [i64_w, i32_w]; rw [c57b0]) | skip)
                              replace H := Option.bind_eq_some_iff.mp H
                              obtain ⟨t196, A580, H⟩ := H
                              replace H : (if x3_47.length < 8796093022208 then (spec_Variant_attributes.j6 kj47 (x3_47 ++ [t196]) a0_0 a0_1 a0_2 a0_3 a0_4 a0_5 a0_6 a0_7 a0_8 a0_9 a0_10 a0_11 a0_12) else (none)) = some r := H
                              have A58 := Aside0.mk A580
                              clear A580
                              by_cases c59 : x3_47.length < 8796093022208
                              · rw [if_pos c59] at H
                                have LMc59 := Aside0.mk c59
                                clear c59
                                obtain ⟨y197, hy197⟩ : ∃ y_ : List ByteArray, y_ = (x3_47 ++ [t196]) := ⟨_, rfl⟩
                                replace H : (spec_Variant_attributes.j6 kj47 y197 a0_0 a0_1 a0_2 a0_3 a0_4 a0_5 a0_6 a0_7 a0_8 a0_9 a0_10 a0_11 a0_12) = some r := by first | (rw [hy197]; with_reducible exact H) | (have H2_ := (Option.bind_some _ _).symm.trans H; rw [hy197]; with_reducible exact H2_) | (have H2_ := (Option.bind_some _ _).symm.trans H; with_reducible exact H2_) | with_reducible exact H | (rw [hy197]; exact H) | exact H
                                have Ny197 := Aside0.mk hy197
                                clear hy197
                                have H' := Aside0.mk H
                                clear H
                                have hcz60_0 : wc.cell? ⟨gb162, 0, none⟩ = some (.string a0_0) := (blk_cell BK162.out 0).trans rfl
                                have hcz60_1 : wc.cell? ⟨gb162, 1, none⟩ = some (.int .u32 a0_1) := (blk_cell BK162.out 1).trans rfl
                                have hcz60_2 : wc.cell? ⟨gb162, 2, none⟩ = some (.int .u32 a0_2) := (blk_cell BK162.out 2).trans rfl
                                have hcz60_3 : wc.cell? ⟨gb162, 3, none⟩ = some (.int .u32 a0_3) := (blk_cell BK162.out 3).trans rfl
                                have hcz60_4 : wc.cell? ⟨gb162, 4, none⟩ = some (.string a0_4) := (blk_cell BK162.out 4).trans rfl
                                have hcz60_5 : wc.cell? ⟨gb162, 5, none⟩ = some (.int .u32 a0_5) := (blk_cell BK162.out 5).trans rfl
                                have hcz60_6 : wc.cell? ⟨gb162, 6, none⟩ = some (.int .u32 a0_6) := (blk_cell BK162.out 6).trans rfl
                                have hcz60_7 : wc.cell? ⟨gb162, 7, none⟩ = some (.string a0_7) := (blk_cell BK162.out 7).trans rfl
                                have hcz60_8 : wc.cell? ⟨gb162, 8, none⟩ = some (.string a0_8) := (blk_cell BK162.out 8).trans rfl
                                have hcz60_9 : wc.cell? ⟨gb162, 9, none⟩ = some (.string a0_9) := (blk_cell BK162.out 9).trans rfl
                                have hcz60_10 : wc.cell? ⟨gb162, 10, none⟩ = some (.string a0_10) := (blk_cell BK162.out 10).trans rfl
                                have hcz60_11 : wc.cell? ⟨gb162, 11, none⟩ = some (.string a0_11) := (blk_cell BK162.out 11).trans rfl
                                have hcz60_12 : wc.cell? ⟨gb162, 12, none⟩ = some (.int .i64 a0_12) := (blk_cell BK162.out 12).trans rfl
                                have hfz60_0 := blk_frozen BK162.out 0
                                have hfz60_1 := blk_frozen BK162.out 1
                                have hfz60_2 := blk_frozen BK162.out 2
                                have hfz60_3 := blk_frozen BK162.out 3
                                have hfz60_4 := blk_frozen BK162.out 4
                                have hfz60_5 := blk_frozen BK162.out 5
                                have hfz60_6 := blk_frozen BK162.out 6
                                have hfz60_7 := blk_frozen BK162.out 7
                                have hfz60_8 := blk_frozen BK162.out 8
                                have hfz60_9 := blk_frozen BK162.out 9
                                have hfz60_10 := blk_frozen BK162.out 10
                                have hfz60_11 := blk_frozen BK162.out 11
                                have hfz60_12 := blk_frozen BK162.out 12
                                go_wp2_with (first | ((with_reducible refine gate_callee (f := 24) rfl ?_); refine goesL_ (some 80) rfl rfl Tryz.func24 (by kernel_rfl) rfl #[.string (⟨#[83, 85, 66, 84, 73, 84, 76, 69, 83]⟩ : ByteArray), .string a0_9, .bool true] rfl (by (try simp only [List.map_toArray, List.map_cons, List.map_nil]); first | done | rfl | (simp only [List.length_drop, List.length_take]; rfl)) ?_; (with_reducible refine (spec_Line.calls (⟨#[83, 85, 66, 84, 73, 84, 76, 69, 83]⟩ : ByteArray) a0_9 true t196 _ A58.out).mono ?_); rintro e w' ⟨rfl, ⟨nd, rfl⟩⟩; refine ⟨_, rfl, ?_⟩) | ((with_reducible refine gate_builtin (b := .append) (xs := #[.tmp 77, .tmp 81]) rfl ?_); at_builtin; refine Kd.R_append Kd.string (w0 := w) w.heap.size rfl (.tmp 77) (.tmp 81) 50 9 (.string ⟨#[]⟩) 16 rfl Tryz.underlying50 info9 rfl (by decide) (by omega) u3 x3_47 t196 [.string t196] (fun _ => True) (fun _ => False) rfl rfl ?aP (fun _ hk => hk.elim) ?aF ?aO ?aB ?aS ?aL ?_; (case aP => exact rfl); (case aB => exact (by repeat (first | (with_reducible first | exact HB.out | apply below_alloc | apply pw_below_drewN | apply below_drew1 | refine below_set ?_ GE162.out) | exact HB.out))); (case aF => exact (fun _ _ => trivial)); (case aO => exact (by (with_reducible repeat (first | apply Kd.R_alloc | apply Kd.R_drewN | apply Kd.R_drew)); exact HO_3.out)); (case aS => exact (below_size (by repeat (first | (with_reducible first | exact HB.out | apply below_alloc | apply pw_below_drewN | apply below_drew1 | refine below_set ?_ GE162.out) | exact HB.out)))); (case aL => have := LMc59.out; omega); intro v198 w61 ho hb hg hat; rw [← Ny197.out] at ho; have n0_ := Aside0.mk (blk_grown (g := gb162) (o := .cells #[.string a0_0, .int .u32 a0_1, .int .u32 a0_2, .int .u32 a0_3, .string a0_4, .int .u32 a0_5, .int .u32 a0_6, .string a0_7, .string a0_8, .string a0_9, .string a0_10, .string a0_11, .int .i64 a0_12] 44 (0, 0)) (by (with_reducible repeat (first | refine blk_drewN ?_ _ | refine blk_drew ?_ | refine blk_alloc ?_ _)); exact BK162.out) hg (Kd.R_ne HO_3.out BK162.out (by decide))); have n1_ := Aside0.mk (hb); have n2_ := Aside0.mk (ho); clear BK162; clear HB; clear HO_3; have BK162 := n0_; have HB := n1_; have HO199 := n2_; clear n0_ n1_ n2_; clear ho hb hg hat))
                                go_meet
                                case rel => exact ⟨_, (y197), H', ⟨by have := HJ5.out; have := HJ17.out; have := HJ24.out; have := HJ33.out; have := HJ40.out; have := HJ47.out; first | omega | exact Nat.le_refl _⟩, ⟨by (with_reducible repeat (first | apply Kd.R_alloc | apply Kd.R_drewN | apply Kd.R_drew)); exact HO199.out⟩, ⟨by (with_reducible repeat (first | refine blk_drewN ?_ _ | refine blk_drew ?_ | refine blk_alloc ?_ _)); exact BK162.out⟩, ⟨by repeat (first | (with_reducible first | exact HB.out | apply below_alloc | apply pw_below_drewN | apply below_drew1 | refine below_set ?_ GE162.out) | exact HB.out)⟩⟩
                              · rw [if_neg c59] at H
                                exact absurd H (by simp)
                          case rest =>
                            clear HC55
                            clear hcz56_0 hcz56_1 hcz56_10 hcz56_11 hcz56_12 hcz56_2 hcz56_3 hcz56_4 hcz56_5 hcz56_6 hcz56_7 hcz56_8 hcz56_9 hfz56_0 hfz56_1 hfz56_10 hfz56_11 hfz56_12 hfz56_2 hfz56_3 hfz56_4 hfz56_5 hfz56_6 hfz56_7 hfz56_8 hfz56_9
                            obtain ⟨kq, x3_54, HA, HJ54, HO_3, BK162, HB⟩ := hcut
                            cases kq with
                            | zero => exact absurd HA.out (by simp [spec_Variant_attributes.j6])
                            | succ kj54 =>
                              have H := HA.out
                              clear HA
                              simp only [spec_Variant_attributes.j6] at H
                              have HC62 := Aside0.mk H
                              clear H
                              have hcz63_0 : wc.cell? ⟨gb162, 0, none⟩ = some (.string a0_0) := (blk_cell BK162.out 0).trans rfl
                              have hcz63_1 : wc.cell? ⟨gb162, 1, none⟩ = some (.int .u32 a0_1) := (blk_cell BK162.out 1).trans rfl
                              have hcz63_2 : wc.cell? ⟨gb162, 2, none⟩ = some (.int .u32 a0_2) := (blk_cell BK162.out 2).trans rfl
                              have hcz63_3 : wc.cell? ⟨gb162, 3, none⟩ = some (.int .u32 a0_3) := (blk_cell BK162.out 3).trans rfl
                              have hcz63_4 : wc.cell? ⟨gb162, 4, none⟩ = some (.string a0_4) := (blk_cell BK162.out 4).trans rfl
                              have hcz63_5 : wc.cell? ⟨gb162, 5, none⟩ = some (.int .u32 a0_5) := (blk_cell BK162.out 5).trans rfl
                              have hcz63_6 : wc.cell? ⟨gb162, 6, none⟩ = some (.int .u32 a0_6) := (blk_cell BK162.out 6).trans rfl
                              have hcz63_7 : wc.cell? ⟨gb162, 7, none⟩ = some (.string a0_7) := (blk_cell BK162.out 7).trans rfl
                              have hcz63_8 : wc.cell? ⟨gb162, 8, none⟩ = some (.string a0_8) := (blk_cell BK162.out 8).trans rfl
                              have hcz63_9 : wc.cell? ⟨gb162, 9, none⟩ = some (.string a0_9) := (blk_cell BK162.out 9).trans rfl
                              have hcz63_10 : wc.cell? ⟨gb162, 10, none⟩ = some (.string a0_10) := (blk_cell BK162.out 10).trans rfl
                              have hcz63_11 : wc.cell? ⟨gb162, 11, none⟩ = some (.string a0_11) := (blk_cell BK162.out 11).trans rfl
                              have hcz63_12 : wc.cell? ⟨gb162, 12, none⟩ = some (.int .i64 a0_12) := (blk_cell BK162.out 12).trans rfl
                              have hfz63_0 := blk_frozen BK162.out 0
                              have hfz63_1 := blk_frozen BK162.out 1
                              have hfz63_2 := blk_frozen BK162.out 2
                              have hfz63_3 := blk_frozen BK162.out 3
                              have hfz63_4 := blk_frozen BK162.out 4
                              have hfz63_5 := blk_frozen BK162.out 5
                              have hfz63_6 := blk_frozen BK162.out 6
                              have hfz63_7 := blk_frozen BK162.out 7
                              have hfz63_8 := blk_frozen BK162.out 8
                              have hfz63_9 := blk_frozen BK162.out 9
                              have hfz63_10 := blk_frozen BK162.out 10
                              have hfz63_11 := blk_frozen BK162.out 11
                              have hfz63_12 := blk_frozen BK162.out 12
                              go_upto_if 85 with (fail)
                              go_cut [3] (fun v3 wc => ∃ (kq : Nat) (x3_61 : List ByteArray), Aside0 (spec_Variant_attributes.j7 kq x3_61 a0_0 a0_1 a0_2 a0_3 a0_4 a0_5 a0_6 a0_7 a0_8 a0_9 a0_10 a0_11 a0_12 = some r) ∧ Aside0 (kq ≤ kj54) ∧ Aside0 (Kd.R Kd.string 9 wc w.heap.size (fun _ => True) v3 x3_61) ∧ Aside0 (wc.heap[gb162]? = some (.cells #[.string a0_0, .int .u32 a0_1, .int .u32 a0_2, .int .u32 a0_3, .string a0_4, .int .u32 a0_5, .int .u32 a0_6, .string a0_7, .string a0_8, .string a0_9, .string a0_10, .string a0_11, .int .i64 a0_12] 44 (0, 0))) ∧ Aside0 (Below w.heap.size w wc))
                              case first =>
                                have H := HC62.out
                                clear HC62
                                by_cases c64 : a0_11.toList = ([] : List UInt8)
                                · rw [if_pos c64] at H
                                  have c64b0 : (a0_11.toList == ([] : List UInt8)) = true := beq_iff_eq.mpr c64
                                  have c64b1 : (a0_11.toList != ([] : List UInt8)) = false := bne_eq_false_iff_eq.mpr c64
                                  (try (have c64b2 : a0_11.toList.isEmpty = true := by simpa using c64))
                                  (try (have c64b3 : (!a0_11.toList.isEmpty) = false := by simpa using c64))
                                  clear c64
                                  (first | rw [c64b0] | rw [c64b3] | rw [c64b2] | (simp only [i64_w, i32_w]; rw [c64b0]) | skip)
                                  have H' := Aside0.mk H
                                  clear H
                                  go_wp2
                                  go_meet
                                  case rel => exact ⟨_, (x3_54), H', ⟨by have := HJ5.out; have := HJ17.out; have := HJ24.out; have := HJ33.out; have := HJ40.out; have := HJ47.out; have := HJ54.out; first | omega | exact Nat.le_refl _⟩, ⟨by (with_reducible repeat (first | apply Kd.R_alloc | apply Kd.R_drewN | apply Kd.R_drew)); exact HO_3.out⟩, ⟨by (with_reducible repeat (first | refine blk_drewN ?_ _ | refine blk_drew ?_ | refine blk_alloc ?_ _)); exact BK162.out⟩, ⟨by repeat (first | (with_reducible first | exact HB.out | apply below_alloc | apply pw_below_drewN | apply below_drew1 | refine below_set ?_ GE162.out) | exact HB.out)⟩⟩
                                · rw [if_neg c64] at H
                                  have c64b0 : (a0_11.toList == ([] : List UInt8)) = false := beq_eq_false_iff_ne.mpr c64
                                  have c64b1 : (a0_11.toList != ([] : List UInt8)) = true := bne_iff_ne.mpr c64
                                  (try (have c64b2 : a0_11.toList.isEmpty = false := by simpa using c64))
                                  (try (have c64b3 : (!a0_11.toList.isEmpty) = true := by simpa using c64))
                                  (first | rw [c64b0] | rw [c64b3] | rw [c64b2] | (simp only [i64_w, i32_w]; rw [c64b0]) | skip)
                                  replace H := Option.bind_eq_some_iff.mp H
                                  obtain ⟨t200, A650, H⟩ := H
                                  replace H : (if x3_54.length < 8796093022208 then (spec_Variant_attributes.j7 kj54 (x3_54 ++ [t200]) a0_0 a0_1 a0_2 a0_3 a0_4 a0_5 a0_6 a0_7 a0_8 a0_9 a0_10 a0_11 a0_12) else (none)) = some r := H
                                  have A65 := Aside0.mk A650
                                  clear A650
                                  by_cases c66 : x3_54.length < 8796093022208
                                  · rw [if_pos c66] at H
                                    have LMc66 := Aside0.mk c66
                                    clear c66
                                    obtain ⟨y201, hy201⟩ : ∃ y_ : List ByteArray, y_ = (x3_54 ++ [t200]) := ⟨_, rfl⟩
                                    replace H : (spec_Variant_attributes.j7 kj54 y201 a0_0 a0_1 a0_2 a0_3 a0_4 a0_5 a0_6 a0_7 a0_8 a0_9 a0_10 a0_11 a0_12) = some r := by first | (rw [hy201]; with_reducible exact H) | (have H2_ := (Option.bind_some _ _).symm.trans H; rw [hy201]; with_reducible exact H2_) | (have H2_ := (Option.bind_some _ _).symm.trans H; with_reducible exact H2_) | with_reducible exact H | (rw [hy201]; exact H) | exact H
                                    have Ny201 := Aside0.mk hy201
                                    clear hy201
                                    have H' := Aside0.mk H
                                    clear H
                                    have hcz67_0 : wc.cell? ⟨gb162, 0, none⟩ = some (.string a0_0) := (blk_cell BK162.out 0).trans rfl
                                    have hcz67_1 : wc.cell? ⟨gb162, 1, none⟩ = some (.int .u32 a0_1) := (blk_cell BK162.out 1).trans rfl
                                    have hcz67_2 : wc.cell? ⟨gb162, 2, none⟩ = some (.int .u32 a0_2) := (blk_cell BK162.out 2).trans rfl
                                    have hcz67_3 : wc.cell? ⟨gb162, 3, none⟩ = some (.int .u32 a0_3) := (blk_cell BK162.out 3).trans rfl
                                    have hcz67_4 : wc.cell? ⟨gb162, 4, none⟩ = some (.string a0_4) := (blk_cell BK162.out 4).trans rfl
                                    have hcz67_5 : wc.cell? ⟨gb162, 5, none⟩ = some (.int .u32 a0_5) := (blk_cell BK162.out 5).trans rfl
                                    have hcz67_6 : wc.cell? ⟨gb162, 6, none⟩ = some (.int .u32 a0_6) := (blk_cell BK162.out 6).trans rfl
                                    have hcz67_7 : wc.cell? ⟨gb162, 7, none⟩ = some (.string a0_7) := (blk_cell BK162.out 7).trans rfl
                                    have hcz67_8 : wc.cell? ⟨gb162, 8, none⟩ = some (.string a0_8) := (blk_cell BK162.out 8).trans rfl
                                    have hcz67_9 : wc.cell? ⟨gb162, 9, none⟩ = some (.string a0_9) := (blk_cell BK162.out 9).trans rfl
                                    have hcz67_10 : wc.cell? ⟨gb162, 10, none⟩ = some (.string a0_10) := (blk_cell BK162.out 10).trans rfl
                                    have hcz67_11 : wc.cell? ⟨gb162, 11, none⟩ = some (.string a0_11) := (blk_cell BK162.out 11).trans rfl
                                    have hcz67_12 : wc.cell? ⟨gb162, 12, none⟩ = some (.int .i64 a0_12) := (blk_cell BK162.out 12).trans rfl
                                    have hfz67_0 := blk_frozen BK162.out 0
                                    have hfz67_1 := blk_frozen BK162.out 1
                                    have hfz67_2 := blk_frozen BK162.out 2
                                    have hfz67_3 := blk_frozen BK162.out 3
                                    have hfz67_4 := blk_frozen BK162.out 4
                                    have hfz67_5 := blk_frozen BK162.out 5
                                    have hfz67_6 := blk_frozen BK162.out 6
                                    have hfz67_7 := blk_frozen BK162.out 7
                                    have hfz67_8 := blk_frozen BK162.out 8
                                    have hfz67_9 := blk_frozen BK162.out 9
                                    have hfz67_10 := blk_frozen BK162.out 10
                                    have hfz67_11 := blk_frozen BK162.out 11
                                    have hfz67_12 := blk_frozen BK162.out 12
                                    go_wp2_with (first | ((with_reducible refine gate_callee (f := 24) rfl ?_); refine goesL_ (some 89) rfl rfl Tryz.func24 (by kernel_rfl) rfl #[.string (⟨#[78, 65, 77, 69]⟩ : ByteArray), .string a0_11, .bool true] rfl (by (try simp only [List.map_toArray, List.map_cons, List.map_nil]); first | done | rfl | (simp only [List.length_drop, List.length_take]; rfl)) ?_; (with_reducible refine (spec_Line.calls (⟨#[78, 65, 77, 69]⟩ : ByteArray) a0_11 true t200 _ A65.out).mono ?_); rintro e w' ⟨rfl, ⟨nd, rfl⟩⟩; refine ⟨_, rfl, ?_⟩) | ((with_reducible refine gate_builtin (b := .append) (xs := #[.tmp 86, .tmp 90]) rfl ?_); at_builtin; refine Kd.R_append Kd.string (w0 := w) w.heap.size rfl (.tmp 86) (.tmp 90) 50 9 (.string ⟨#[]⟩) 16 rfl Tryz.underlying50 info9 rfl (by decide) (by omega) u3 x3_54 t200 [.string t200] (fun _ => True) (fun _ => False) rfl rfl ?aP (fun _ hk => hk.elim) ?aF ?aO ?aB ?aS ?aL ?_; (case aP => exact rfl); (case aB => exact (by repeat (first | (with_reducible first | exact HB.out | apply below_alloc | apply pw_below_drewN | apply below_drew1 | refine below_set ?_ GE162.out) | exact HB.out))); (case aF => exact (fun _ _ => trivial)); (case aO => exact (by (with_reducible repeat (first | apply Kd.R_alloc | apply Kd.R_drewN | apply Kd.R_drew)); exact HO_3.out)); (case aS => exact (below_size (by repeat (first | (with_reducible first | exact HB.out | apply below_alloc | apply pw_below_drewN | apply below_drew1 | refine below_set ?_ GE162.out) | exact HB.out)))); (case aL => have := LMc66.out; omega); intro v202 w68 ho hb hg hat; rw [← Ny201.out] at ho; have n0_ := Aside0.mk (blk_grown (g := gb162) (o := .cells #[.string a0_0, .int .u32 a0_1, .int .u32 a0_2, .int .u32 a0_3, .string a0_4, .int .u32 a0_5, .int .u32 a0_6, .string a0_7, .string a0_8, .string a0_9, .string a0_10, .string a0_11, .int .i64 a0_12] 44 (0, 0)) (by (with_reducible repeat (first | refine blk_drewN ?_ _ | refine blk_drew ?_ | refine blk_alloc ?_ _)); exact BK162.out) hg (Kd.R_ne HO_3.out BK162.out (by decide))); have n1_ := Aside0.mk (hb); have n2_ := Aside0.mk (ho); clear BK162; clear HB; clear HO_3; have BK162 := n0_; have HB := n1_; have HO203 := n2_; clear n0_ n1_ n2_; clear ho hb hg hat))
                                    go_meet
                                    case rel => exact ⟨_, (y201), H', ⟨by have := HJ5.out; have := HJ17.out; have := HJ24.out; have := HJ33.out; have := HJ40.out; have := HJ47.out; have := HJ54.out; first | omega | exact Nat.le_refl _⟩, ⟨by (with_reducible repeat (first | apply Kd.R_alloc | apply Kd.R_drewN | apply Kd.R_drew)); exact HO203.out⟩, ⟨by (with_reducible repeat (first | refine blk_drewN ?_ _ | refine blk_drew ?_ | refine blk_alloc ?_ _)); exact BK162.out⟩, ⟨by repeat (first | (with_reducible first | exact HB.out | apply below_alloc | apply pw_below_drewN | apply below_drew1 | refine below_set ?_ GE162.out) | exact HB.out)⟩⟩
                                  · rw [if_neg c66] at H
                                    exact absurd H (by simp)
                              case rest =>
                                clear HC62
                                clear hcz63_0 hcz63_1 hcz63_10 hcz63_11 hcz63_12 hcz63_2 hcz63_3 hcz63_4 hcz63_5 hcz63_6 hcz63_7 hcz63_8 hcz63_9 hfz63_0 hfz63_1 hfz63_10 hfz63_11 hfz63_12 hfz63_2 hfz63_3 hfz63_4 hfz63_5 hfz63_6 hfz63_7 hfz63_8 hfz63_9
                                obtain ⟨kq, x3_61, HA, HJ61, HO_3, BK162, HB⟩ := hcut
                                cases kq with
                                | zero => exact absurd HA.out (by simp [spec_Variant_attributes.j7])
                                | succ kj61 =>
                                  have H := HA.out
                                  clear HA
                                  simp only [spec_Variant_attributes.j7] at H
                                  by_cases c69 : a0_12 > 0
                                  · rw [if_pos c69] at H
                                    have c69b0 : decide (0 < a0_12) = true := decide_eq_true c69
                                    clear c69
                                    replace H := Option.bind_eq_some_iff.mp H
                                    obtain ⟨t204, A700, H⟩ := H
                                    replace H : ((spec_Line.f (⟨#[70, 82, 65, 77, 69, 45, 82, 65, 84, 69]⟩ : ByteArray) t204 false).bind fun t205 => (if x3_61.length < 8796093022208 then (some (x3_61 ++ [t205])) else (none))) = some r := H
                                    have A70 := Aside0.mk A700
                                    clear A700
                                    replace H := Option.bind_eq_some_iff.mp H
                                    obtain ⟨t205, A710, H⟩ := H
                                    replace H : (if x3_61.length < 8796093022208 then (some (x3_61 ++ [t205])) else (none)) = some r := H
                                    have A71 := Aside0.mk A710
                                    clear A710
                                    by_cases c72 : x3_61.length < 8796093022208
                                    · rw [if_pos c72] at H
                                      have LMc72 := Aside0.mk c72
                                      clear c72
                                      obtain ⟨y206, hy206⟩ : ∃ y_ : List ByteArray, y_ = (x3_61 ++ [t205]) := ⟨_, rfl⟩
                                      replace H : (some y206) = some r := by first | (rw [hy206]; with_reducible exact H) | (have H2_ := (Option.bind_some _ _).symm.trans H; rw [hy206]; with_reducible exact H2_) | (have H2_ := (Option.bind_some _ _).symm.trans H; with_reducible exact H2_) | with_reducible exact H | (rw [hy206]; exact H) | exact H
                                      have Ny206 := Aside0.mk hy206
                                      clear hy206
                                      obtain rfl := Option.some.inj H
                                      have hcz73_0 : wc.cell? ⟨gb162, 0, none⟩ = some (.string a0_0) := (blk_cell BK162.out 0).trans rfl
                                      have hcz73_1 : wc.cell? ⟨gb162, 1, none⟩ = some (.int .u32 a0_1) := (blk_cell BK162.out 1).trans rfl
                                      have hcz73_2 : wc.cell? ⟨gb162, 2, none⟩ = some (.int .u32 a0_2) := (blk_cell BK162.out 2).trans rfl
                                      have hcz73_3 : wc.cell? ⟨gb162, 3, none⟩ = some (.int .u32 a0_3) := (blk_cell BK162.out 3).trans rfl
                                      have hcz73_4 : wc.cell? ⟨gb162, 4, none⟩ = some (.string a0_4) := (blk_cell BK162.out 4).trans rfl
                                      have hcz73_5 : wc.cell? ⟨gb162, 5, none⟩ = some (.int .u32 a0_5) := (blk_cell BK162.out 5).trans rfl
                                      have hcz73_6 : wc.cell? ⟨gb162, 6, none⟩ = some (.int .u32 a0_6) := (blk_cell BK162.out 6).trans rfl
                                      have hcz73_7 : wc.cell? ⟨gb162, 7, none⟩ = some (.string a0_7) := (blk_cell BK162.out 7).trans rfl
                                      have hcz73_8 : wc.cell? ⟨gb162, 8, none⟩ = some (.string a0_8) := (blk_cell BK162.out 8).trans rfl
                                      have hcz73_9 : wc.cell? ⟨gb162, 9, none⟩ = some (.string a0_9) := (blk_cell BK162.out 9).trans rfl
                                      have hcz73_10 : wc.cell? ⟨gb162, 10, none⟩ = some (.string a0_10) := (blk_cell BK162.out 10).trans rfl
                                      have hcz73_11 : wc.cell? ⟨gb162, 11, none⟩ = some (.string a0_11) := (blk_cell BK162.out 11).trans rfl
                                      have hcz73_12 : wc.cell? ⟨gb162, 12, none⟩ = some (.int .i64 a0_12) := (blk_cell BK162.out 12).trans rfl
                                      have hfz73_0 := blk_frozen BK162.out 0
                                      have hfz73_1 := blk_frozen BK162.out 1
                                      have hfz73_2 := blk_frozen BK162.out 2
                                      have hfz73_3 := blk_frozen BK162.out 3
                                      have hfz73_4 := blk_frozen BK162.out 4
                                      have hfz73_5 := blk_frozen BK162.out 5
                                      have hfz73_6 := blk_frozen BK162.out 6
                                      have hfz73_7 := blk_frozen BK162.out 7
                                      have hfz73_8 := blk_frozen BK162.out 8
                                      have hfz73_9 := blk_frozen BK162.out 9
                                      have hfz73_10 := blk_frozen BK162.out 10
                                      have hfz73_11 := blk_frozen BK162.out 11
                                      have hfz73_12 := blk_frozen BK162.out 12
                                      go_wp2_with (first | ((with_reducible refine gate_callee (f := 26) rfl ?_); refine goesL_ (some 98) rfl rfl Tryz.func26 (by kernel_rfl) rfl #[.int .i64 a0_12] rfl (by (try simp only [List.map_toArray, List.map_cons, List.map_nil]); first | done | rfl | (simp only [List.length_drop, List.length_take]; rfl)) ?_; (with_reducible refine (spec_seconds.calls kj61 a0_12 t204 _ A70.out).mono ?_); rintro e w' ⟨rfl, ⟨nd, rfl⟩⟩; refine ⟨_, rfl, ?_⟩) | ((with_reducible refine gate_callee (f := 24) rfl ?_); refine goesL_ (some 99) rfl rfl Tryz.func24 (by kernel_rfl) rfl #[.string (⟨#[70, 82, 65, 77, 69, 45, 82, 65, 84, 69]⟩ : ByteArray), .string t204, .bool false] rfl (by (try simp only [List.map_toArray, List.map_cons, List.map_nil]); first | done | rfl | (simp only [List.length_drop, List.length_take]; rfl)) ?_; (with_reducible refine (spec_Line.calls (⟨#[70, 82, 65, 77, 69, 45, 82, 65, 84, 69]⟩ : ByteArray) t204 false t205 _ A71.out).mono ?_); rintro e w' ⟨rfl, ⟨nd, rfl⟩⟩; refine ⟨_, rfl, ?_⟩) | ((with_reducible refine gate_builtin (b := .append) (xs := #[.tmp 95, .tmp 100]) rfl ?_); at_builtin; refine Kd.R_append Kd.string (w0 := w) w.heap.size rfl (.tmp 95) (.tmp 100) 50 9 (.string ⟨#[]⟩) 16 rfl Tryz.underlying50 info9 rfl (by decide) (by omega) u3 x3_61 t205 [.string t205] (fun _ => True) (fun _ => False) rfl rfl ?aP (fun _ hk => hk.elim) ?aF ?aO ?aB ?aS ?aL ?_; (case aP => exact rfl); (case aB => exact (by repeat (first | (with_reducible first | exact HB.out | apply below_alloc | apply pw_below_drewN | apply below_drew1 | refine below_set ?_ GE162.out) | exact HB.out))); (case aF => exact (fun _ _ => trivial)); (case aO => exact (by (with_reducible repeat (first | apply Kd.R_alloc | apply Kd.R_drewN | apply Kd.R_drew)); exact HO_3.out)); (case aS => exact (below_size (by repeat (first | (with_reducible first | exact HB.out | apply below_alloc | apply pw_below_drewN | apply below_drew1 | refine below_set ?_ GE162.out) | exact HB.out)))); (case aL => have := LMc72.out; omega); intro v207 w74 ho hb hg hat; rw [← Ny206.out] at ho; have n0_ := Aside0.mk (blk_grown (g := gb162) (o := .cells #[.string a0_0, .int .u32 a0_1, .int .u32 a0_2, .int .u32 a0_3, .string a0_4, .int .u32 a0_5, .int .u32 a0_6, .string a0_7, .string a0_8, .string a0_9, .string a0_10, .string a0_11, .int .i64 a0_12] 44 (0, 0)) (by (with_reducible repeat (first | refine blk_drewN ?_ _ | refine blk_drew ?_ | refine blk_alloc ?_ _)); exact BK162.out) hg (Kd.R_ne HO_3.out BK162.out (by decide))); have n1_ := Aside0.mk (hb); have n2_ := Aside0.mk (ho); clear BK162; clear HB; clear HO_3; have BK162 := n0_; have HB := n1_; have HO208 := n2_; clear n0_ n1_ n2_; clear ho hb hg hat))
                                      go_ret
                                      exact ⟨_, by first | rfl | (simp [errW_none, errW_some] <;> rfl) | (simp [*, errW_none, errW_some] <;> rfl), by (with_reducible repeat (first | apply Kd.R_alloc | apply Kd.R_drewN | apply Kd.R_drew)); exact HO208.out, by repeat (first | (with_reducible first | exact HB.out | apply below_alloc | apply pw_below_drewN | apply below_drew1 | refine below_set ?_ GE162.out) | exact HB.out)⟩
                                    · rw [if_neg c72] at H
                                      exact absurd H (by simp)
                                  · rw [if_neg c69] at H
                                    have c69b0 : decide (0 < a0_12) = false := decide_eq_false c69
                                    clear c69
                                    obtain rfl := Option.some.inj H
                                    have hcz75_0 : wc.cell? ⟨gb162, 0, none⟩ = some (.string a0_0) := (blk_cell BK162.out 0).trans rfl
                                    have hcz75_1 : wc.cell? ⟨gb162, 1, none⟩ = some (.int .u32 a0_1) := (blk_cell BK162.out 1).trans rfl
                                    have hcz75_2 : wc.cell? ⟨gb162, 2, none⟩ = some (.int .u32 a0_2) := (blk_cell BK162.out 2).trans rfl
                                    have hcz75_3 : wc.cell? ⟨gb162, 3, none⟩ = some (.int .u32 a0_3) := (blk_cell BK162.out 3).trans rfl
                                    have hcz75_4 : wc.cell? ⟨gb162, 4, none⟩ = some (.string a0_4) := (blk_cell BK162.out 4).trans rfl
                                    have hcz75_5 : wc.cell? ⟨gb162, 5, none⟩ = some (.int .u32 a0_5) := (blk_cell BK162.out 5).trans rfl
                                    have hcz75_6 : wc.cell? ⟨gb162, 6, none⟩ = some (.int .u32 a0_6) := (blk_cell BK162.out 6).trans rfl
                                    have hcz75_7 : wc.cell? ⟨gb162, 7, none⟩ = some (.string a0_7) := (blk_cell BK162.out 7).trans rfl
                                    have hcz75_8 : wc.cell? ⟨gb162, 8, none⟩ = some (.string a0_8) := (blk_cell BK162.out 8).trans rfl
                                    have hcz75_9 : wc.cell? ⟨gb162, 9, none⟩ = some (.string a0_9) := (blk_cell BK162.out 9).trans rfl
                                    have hcz75_10 : wc.cell? ⟨gb162, 10, none⟩ = some (.string a0_10) := (blk_cell BK162.out 10).trans rfl
                                    have hcz75_11 : wc.cell? ⟨gb162, 11, none⟩ = some (.string a0_11) := (blk_cell BK162.out 11).trans rfl
                                    have hcz75_12 : wc.cell? ⟨gb162, 12, none⟩ = some (.int .i64 a0_12) := (blk_cell BK162.out 12).trans rfl
                                    have hfz75_0 := blk_frozen BK162.out 0
                                    have hfz75_1 := blk_frozen BK162.out 1
                                    have hfz75_2 := blk_frozen BK162.out 2
                                    have hfz75_3 := blk_frozen BK162.out 3
                                    have hfz75_4 := blk_frozen BK162.out 4
                                    have hfz75_5 := blk_frozen BK162.out 5
                                    have hfz75_6 := blk_frozen BK162.out 6
                                    have hfz75_7 := blk_frozen BK162.out 7
                                    have hfz75_8 := blk_frozen BK162.out 8
                                    have hfz75_9 := blk_frozen BK162.out 9
                                    have hfz75_10 := blk_frozen BK162.out 10
                                    have hfz75_11 := blk_frozen BK162.out 11
                                    have hfz75_12 := blk_frozen BK162.out 12
                                    go_wp2
                                    go_ret
                                    exact ⟨_, by first | rfl | (simp [errW_none, errW_some] <;> rfl) | (simp [*, errW_none, errW_some] <;> rfl), by (with_reducible repeat (first | apply Kd.R_alloc | apply Kd.R_drewN | apply Kd.R_drew)); exact HO_3.out, by repeat (first | (with_reducible first | exact HB.out | apply below_alloc | apply pw_below_drewN | apply below_drew1 | refine below_set ?_ GE162.out) | exact HB.out)⟩
end Go.Proofs.YtlghdacdpkaoeaaGreatDoor.PFnMasterLoose
