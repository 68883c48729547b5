import Derived.Test.YtlghdacdpkaoeaaGreatDoorK11
import Derived.Test.YtlghdacdpkaoeaaGreatDoorK14
import Derived.Test.YtlghdacdpkaoeaaGreatDoorK16
namespace Go.Proofs.YtlghdacdpkaoeaaGreatDoor.PFnMasterLoose
open Go.RowKit Go.Proofs.YtlghdacdpkaoeaaGreatDoorW.PrintWords Go.Proofs.YtlghdacdpkaoeaaGreatDoorW.PrintLast Go.Proofs.YtlghdacdpkaoeaaGreatDoorW.PrintMore
attribute [local go_sem] max2_int min2_int max_two min_two max_three min_three max_four min_four
set_option linter.unusedVariables false
set_option linter.unusedSimpArgs false
mutual
def spec_Variant_Frames.j0 : Nat → ByteArray → ByteArray → Int → Int → Int → ByteArray → Int → Int → ByteArray → ByteArray → ByteArray → ByteArray → ByteArray → Int → Option (ByteArray)
  | 0, _, _, _, _, _, _, _, _, _, _, _, _, _, _ => none
  | k + 1, x3, x154000, x154001, x154002, x154003, x154004, x154005, x154006, x154007, x154008, x154009, x154010, x154011, x154012 => if x154004.toList = ([] : List UInt8) then (spec_Variant_Frames.j1 k x3 x154000 x154001 x154002 x154003 x154004 x154005 x154006 x154007 x154008 x154009 x154010 x154011 x154012) else (if 9 + x154004.size ≤ 9223372036854775807 then (if ((⟨#[44, 67, 79, 68, 69, 67, 83, 61, 34]⟩ : ByteArray) ++ x154004).size + 1 ≤ 9223372036854775807 then (if x3.size + (((⟨#[44, 67, 79, 68, 69, 67, 83, 61, 34]⟩ : ByteArray) ++ x154004) ++ (⟨#[34]⟩ : ByteArray)).size ≤ 9223372036854775807 then (spec_Variant_Frames.j1 k (x3 ++ (((⟨#[44, 67, 79, 68, 69, 67, 83, 61, 34]⟩ : ByteArray) ++ x154004) ++ (⟨#[34]⟩ : ByteArray))) x154000 x154001 x154002 x154003 x154004 x154005 x154006 x154007 x154008 x154009 x154010 x154011 x154012) else (none)) else (none)) else (none))
def spec_Variant_Frames.j1 : Nat → ByteArray → ByteArray → Int → Int → Int → ByteArray → Int → Int → ByteArray → ByteArray → ByteArray → ByteArray → ByteArray → Int → Option (ByteArray)
  | 0, _, _, _, _, _, _, _, _, _, _, _, _, _, _ => none
  | k + 1, x3, x154000, x154001, x154002, x154003, x154004, x154005, x154006, x154007, x154008, x154009, x154010, x154011, x154012 => if x154005 > 0 then ((spec_Variant_Resolution.f k x154000 x154001 x154002 x154003 x154004 x154005 x154006 x154007 x154008 x154009 x154010 x154011 x154012).bind fun t157 => (if 12 + t157.size ≤ 9223372036854775807 then (if x3.size + ((⟨#[44, 82, 69, 83, 79, 76, 85, 84, 73, 79, 78, 61]⟩ : ByteArray) ++ t157).size ≤ 9223372036854775807 then (if x154008.toList = ([] : List UInt8) then (if (x3 ++ ((⟨#[44, 82, 69, 83, 79, 76, 85, 84, 73, 79, 78, 61]⟩ : ByteArray) ++ t157)).size + 6 ≤ 9223372036854775807 then (if ((x3 ++ ((⟨#[44, 82, 69, 83, 79, 76, 85, 84, 73, 79, 78, 61]⟩ : ByteArray) ++ t157)) ++ (⟨#[44, 85, 82, 73, 61, 34]⟩ : ByteArray)).size + x154000.size ≤ 9223372036854775807 then (if (((x3 ++ ((⟨#[44, 82, 69, 83, 79, 76, 85, 84, 73, 79, 78, 61]⟩ : ByteArray) ++ t157)) ++ (⟨#[44, 85, 82, 73, 61, 34]⟩ : ByteArray)) ++ x154000).size + 2 ≤ 9223372036854775807 then (some ((((x3 ++ ((⟨#[44, 82, 69, 83, 79, 76, 85, 84, 73, 79, 78, 61]⟩ : ByteArray) ++ t157)) ++ (⟨#[44, 85, 82, 73, 61, 34]⟩ : ByteArray)) ++ x154000) ++ (⟨#[34, 10]⟩ : ByteArray))) else (none)) else (none)) else (none)) else (if 8 + x154008.size ≤ 9223372036854775807 then (if ((⟨#[44, 86, 73, 68, 69, 79, 61, 34]⟩ : ByteArray) ++ x154008).size + 1 ≤ 9223372036854775807 then (if (x3 ++ ((⟨#[44, 82, 69, 83, 79, 76, 85, 84, 73, 79, 78, 61]⟩ : ByteArray) ++ t157)).size + (((⟨#[44, 86, 73, 68, 69, 79, 61, 34]⟩ : ByteArray) ++ x154008) ++ (⟨#[34]⟩ : ByteArray)).size ≤ 9223372036854775807 then (if ((x3 ++ ((⟨#[44, 82, 69, 83, 79, 76, 85, 84, 73, 79, 78, 61]⟩ : ByteArray) ++ t157)) ++ (((⟨#[44, 86, 73, 68, 69, 79, 61, 34]⟩ : ByteArray) ++ x154008) ++ (⟨#[34]⟩ : ByteArray))).size + 6 ≤ 9223372036854775807 then (if (((x3 ++ ((⟨#[44, 82, 69, 83, 79, 76, 85, 84, 73, 79, 78, 61]⟩ : ByteArray) ++ t157)) ++ (((⟨#[44, 86, 73, 68, 69, 79, 61, 34]⟩ : ByteArray) ++ x154008) ++ (⟨#[34]⟩ : ByteArray))) ++ (⟨#[44, 85, 82, 73, 61, 34]⟩ : ByteArray)).size + x154000.size ≤ 9223372036854775807 then (if ((((x3 ++ ((⟨#[44, 82, 69, 83, 79, 76, 85, 84, 73, 79, 78, 61]⟩ : ByteArray) ++ t157)) ++ (((⟨#[44, 86, 73, 68, 69, 79, 61, 34]⟩ : ByteArray) ++ x154008) ++ (⟨#[34]⟩ : ByteArray))) ++ (⟨#[44, 85, 82, 73, 61, 34]⟩ : ByteArray)) ++ x154000).size + 2 ≤ 9223372036854775807 then (some (((((x3 ++ ((⟨#[44, 82, 69, 83, 79, 76, 85, 84, 73, 79, 78, 61]⟩ : ByteArray) ++ t157)) ++ (((⟨#[44, 86, 73, 68, 69, 79, 61, 34]⟩ : ByteArray) ++ x154008) ++ (⟨#[34]⟩ : ByteArray))) ++ (⟨#[44, 85, 82, 73, 61, 34]⟩ : ByteArray)) ++ x154000) ++ (⟨#[34, 10]⟩ : ByteArray))) else (none)) else (none)) else (none)) else (none)) else (none)) else (none))) else (none)) else (none))) else (if x154008.toList = ([] : List UInt8) then (if x3.size + 6 ≤ 9223372036854775807 then (if (x3 ++ (⟨#[44, 85, 82, 73, 61, 34]⟩ : ByteArray)).size + x154000.size ≤ 9223372036854775807 then (if ((x3 ++ (⟨#[44, 85, 82, 73, 61, 34]⟩ : ByteArray)) ++ x154000).size + 2 ≤ 9223372036854775807 then (some (((x3 ++ (⟨#[44, 85, 82, 73, 61, 34]⟩ : ByteArray)) ++ x154000) ++ (⟨#[34, 10]⟩ : ByteArray))) else (none)) else (none)) else (none)) else (if 8 + x154008.size ≤ 9223372036854775807 then (if ((⟨#[44, 86, 73, 68, 69, 79, 61, 34]⟩ : ByteArray) ++ x154008).size + 1 ≤ 9223372036854775807 then (if x3.size + (((⟨#[44, 86, 73, 68, 69, 79, 61, 34]⟩ : ByteArray) ++ x154008) ++ (⟨#[34]⟩ : ByteArray)).size ≤ 9223372036854775807 then (if (x3 ++ (((⟨#[44, 86, 73, 68, 69, 79, 61, 34]⟩ : ByteArray) ++ x154008) ++ (⟨#[34]⟩ : ByteArray))).size + 6 ≤ 9223372036854775807 then (if ((x3 ++ (((⟨#[44, 86, 73, 68, 69, 79, 61, 34]⟩ : ByteArray) ++ x154008) ++ (⟨#[34]⟩ : ByteArray))) ++ (⟨#[44, 85, 82, 73, 61, 34]⟩ : ByteArray)).size + x154000.size ≤ 9223372036854775807 then (if (((x3 ++ (((⟨#[44, 86, 73, 68, 69, 79, 61, 34]⟩ : ByteArray) ++ x154008) ++ (⟨#[34]⟩ : ByteArray))) ++ (⟨#[44, 85, 82, 73, 61, 34]⟩ : ByteArray)) ++ x154000).size + 2 ≤ 9223372036854775807 then (some ((((x3 ++ (((⟨#[44, 86, 73, 68, 69, 79, 61, 34]⟩ : ByteArray) ++ x154008) ++ (⟨#[34]⟩ : ByteArray))) ++ (⟨#[44, 85, 82, 73, 61, 34]⟩ : ByteArray)) ++ x154000) ++ (⟨#[34, 10]⟩ : ByteArray))) else (none)) else (none)) else (none)) else (none)) else (none)) else (none)))
end
def spec_Variant_Frames.f (k : Nat) (a0_0 : ByteArray) (a0_1 : Int) (a0_2 : Int) (a0_3 : Int) (a0_4 : ByteArray) (a0_5 : Int) (a0_6 : Int) (a0_7 : ByteArray) (a0_8 : ByteArray) (a0_9 : ByteArray) (a0_10 : ByteArray) (a0_11 : ByteArray) (a0_12 : Int) : Option (ByteArray) := (spec_Decimal.f k (IntKind.u64.wrap (a0_1))).bind fun t154 => (if 37 + t154.size ≤ 9223372036854775807 then (if ((⟨#[35, 69, 88, 84, 45, 88, 45, 73, 45, 70, 82, 65, 77, 69, 45, 83, 84, 82, 69, 65, 77, 45, 73, 78, 70, 58, 80, 82, 79, 71, 82, 65, 77, 45, 73, 68, 61]⟩ : ByteArray) ++ t154).size + 11 ≤ 9223372036854775807 then ((spec_Decimal.f k (IntKind.u64.wrap (a0_2))).bind fun t155 => (if (((⟨#[35, 69, 88, 84, 45, 88, 45, 73, 45, 70, 82, 65, 77, 69, 45, 83, 84, 82, 69, 65, 77, 45, 73, 78, 70, 58, 80, 82, 79, 71, 82, 65, 77, 45, 73, 68, 61]⟩ : ByteArray) ++ t154) ++ (⟨#[44, 66, 65, 78, 68, 87, 73, 68, 84, 72, 61]⟩ : ByteArray)).size + t155.size ≤ 9223372036854775807 then (if a0_3 > 0 then ((spec_Decimal.f k (IntKind.u64.wrap (a0_3))).bind fun t156 => (if 19 + t156.size ≤ 9223372036854775807 then (if ((((⟨#[35, 69, 88, 84, 45, 88, 45, 73, 45, 70, 82, 65, 77, 69, 45, 83, 84, 82, 69, 65, 77, 45, 73, 78, 70, 58, 80, 82, 79, 71, 82, 65, 77, 45, 73, 68, 61]⟩ : ByteArray) ++ t154) ++ (⟨#[44, 66, 65, 78, 68, 87, 73, 68, 84, 72, 61]⟩ : ByteArray)) ++ t155).size + ((⟨#[44, 65, 86, 69, 82, 65, 71, 69, 45, 66, 65, 78, 68, 87, 73, 68, 84, 72, 61]⟩ : ByteArray) ++ t156).size ≤ 9223372036854775807 then (spec_Variant_Frames.j0 k (((((⟨#[35, 69, 88, 84, 45, 88, 45, 73, 45, 70, 82, 65, 77, 69, 45, 83, 84, 82, 69, 65, 77, 45, 73, 78, 70, 58, 80, 82, 79, 71, 82, 65, 77, 45, 73, 68, 61]⟩ : ByteArray) ++ t154) ++ (⟨#[44, 66, 65, 78, 68, 87, 73, 68, 84, 72, 61]⟩ : ByteArray)) ++ t155) ++ ((⟨#[44, 65, 86, 69, 82, 65, 71, 69, 45, 66, 65, 78, 68, 87, 73, 68, 84, 72, 61]⟩ : ByteArray) ++ t156)) a0_0 a0_1 a0_2 a0_3 a0_4 a0_5 a0_6 a0_7 a0_8 a0_9 a0_10 a0_11 a0_12) else (none)) else (none))) else (spec_Variant_Frames.j0 k ((((⟨#[35, 69, 88, 84, 45, 88, 45, 73, 45, 70, 82, 65, 77, 69, 45, 83, 84, 82, 69, 65, 77, 45, 73, 78, 70, 58, 80, 82, 79, 71, 82, 65, 77, 45, 73, 68, 61]⟩ : ByteArray) ++ t154) ++ (⟨#[44, 66, 65, 78, 68, 87, 73, 68, 84, 72, 61]⟩ : ByteArray)) ++ t155) a0_0 a0_1 a0_2 a0_3 a0_4 a0_5 a0_6 a0_7 a0_8 a0_9 a0_10 a0_11 a0_12)) else (none))) else (none)) else (none))
set_option maxHeartbeats 8000000 in
set_option maxRecDepth 100000 in
theorem spec_Variant_Frames.calls (k : Nat) (a0_0 : ByteArray) (a0_1 : Int) (a0_2 : Int) (a0_3 : Int) (a0_4 : ByteArray) (a0_5 : Int) (a0_6 : Int) (a0_7 : ByteArray) (a0_8 : ByteArray) (a0_9 : ByteArray) (a0_10 : ByteArray) (a0_11 : ByteArray) (a0_12 : Int) (r : ByteArray) (w : World) (h : spec_Variant_Frames.f k a0_0 a0_1 a0_2 a0_3 a0_4 a0_5 a0_6 a0_7 a0_8 a0_9 a0_10 a0_11 a0_12 = some r) :
    Calls Tryz.prog 15 #[.agg #[.string a0_0, .int .u32 a0_1, .int .u32 a0_2, .int .u32 a0_3, .string a0_4, .int .u32 a0_5, .int .u32 a0_6, .string a0_7, .string a0_8, .string a0_9, .string a0_10, .string a0_11, .int .i64 a0_12]] w fun e w' => e = .returned (.string r) ∧ Below w.heap.size w w' := by
  have hu44 := Tryz.underlying44
  have HB := Aside0.mk (Below.refl w.heap.size w)
  have H : ((spec_Decimal.f k (IntKind.u64.wrap (a0_1))).bind fun t154 => (if 37 + t154.size ≤ 9223372036854775807 then (if ((⟨#[35, 69, 88, 84, 45, 88, 45, 73, 45, 70, 82, 65, 77, 69, 45, 83, 84, 82, 69, 65, 77, 45, 73, 78, 70, 58, 80, 82, 79, 71, 82, 65, 77, 45, 73, 68, 61]⟩ : ByteArray) ++ t154).size + 11 ≤ 9223372036854775807 then ((spec_Decimal.f k (IntKind.u64.wrap (a0_2))).bind fun t155 => (if (((⟨#[35, 69, 88, 84, 45, 88, 45, 73, 45, 70, 82, 65, 77, 69, 45, 83, 84, 82, 69, 65, 77, 45, 73, 78, 70, 58, 80, 82, 79, 71, 82, 65, 77, 45, 73, 68, 61]⟩ : ByteArray) ++ t154) ++ (⟨#[44, 66, 65, 78, 68, 87, 73, 68, 84, 72, 61]⟩ : ByteArray)).size + t155.size ≤ 9223372036854775807 then (if a0_3 > 0 then ((spec_Decimal.f k (IntKind.u64.wrap (a0_3))).bind fun t156 => (if 19 + t156.size ≤ 9223372036854775807 then (if ((((⟨#[35, 69, 88, 84, 45, 88, 45, 73, 45, 70, 82, 65, 77, 69, 45, 83, 84, 82, 69, 65, 77, 45, 73, 78, 70, 58, 80, 82, 79, 71, 82, 65, 77, 45, 73, 68, 61]⟩ : ByteArray) ++ t154) ++ (⟨#[44, 66, 65, 78, 68, 87, 73, 68, 84, 72, 61]⟩ : ByteArray)) ++ t155).size + ((⟨#[44, 65, 86, 69, 82, 65, 71, 69, 45, 66, 65, 78, 68, 87, 73, 68, 84, 72, 61]⟩ : ByteArray) ++ t156).size ≤ 9223372036854775807 then (spec_Variant_Frames.j0 k (((((⟨#[35, 69, 88, 84, 45, 88, 45, 73, 45, 70, 82, 65, 77, 69, 45, 83, 84, 82, 69, 65, 77, 45, 73, 78, 70, 58, 80, 82, 79, 71, 82, 65, 77, 45, 73, 68, 61]⟩ : ByteArray) ++ t154) ++ (⟨#[44, 66, 65, 78, 68, 87, 73, 68, 84, 72, 61]⟩ : ByteArray)) ++ t155) ++ ((⟨#[44, 65, 86, 69, 82, 65, 71, 69, 45, 66, 65, 78, 68, 87, 73, 68, 84, 72, 61]⟩ : ByteArray) ++ t156)) a0_0 a0_1 a0_2 a0_3 a0_4 a0_5 a0_6 a0_7 a0_8 a0_9 a0_10 a0_11 a0_12) else (none)) else (none))) else (spec_Variant_Frames.j0 k ((((⟨#[35, 69, 88, 84, 45, 88, 45, 73, 45, 70, 82, 65, 77, 69, 45, 83, 84, 82, 69, 65, 77, 45, 73, 78, 70, 58, 80, 82, 79, 71, 82, 65, 77, 45, 73, 68, 61]⟩ : ByteArray) ++ t154) ++ (⟨#[44, 66, 65, 78, 68, 87, 73, 68, 84, 72, 61]⟩ : ByteArray)) ++ t155) a0_0 a0_1 a0_2 a0_3 a0_4 a0_5 a0_6 a0_7 a0_8 a0_9 a0_10 a0_11 a0_12)) else (none))) else (none)) else (none))) = some r := h
  clear h
  replace H := Option.bind_eq_some_iff.mp H
  obtain ⟨t154, A20, H⟩ := H
  replace H : (if 37 + t154.size ≤ 9223372036854775807 then (if ((⟨#[35, 69, 88, 84, 45, 88, 45, 73, 45, 70, 82, 65, 77, 69, 45, 83, 84, 82, 69, 65, 77, 45, 73, 78, 70, 58, 80, 82, 79, 71, 82, 65, 77, 45, 73, 68, 61]⟩ : ByteArray) ++ t154).size + 11 ≤ 9223372036854775807 then ((spec_Decimal.f k (IntKind.u64.wrap (a0_2))).bind fun t155 => (if (((⟨#[35, 69, 88, 84, 45, 88, 45, 73, 45, 70, 82, 65, 77, 69, 45, 83, 84, 82, 69, 65, 77, 45, 73, 78, 70, 58, 80, 82, 79, 71, 82, 65, 77, 45, 73, 68, 61]⟩ : ByteArray) ++ t154) ++ (⟨#[44, 66, 65, 78, 68, 87, 73, 68, 84, 72, 61]⟩ : ByteArray)).size + t155.size ≤ 9223372036854775807 then (if a0_3 > 0 then ((spec_Decimal.f k (IntKind.u64.wrap (a0_3))).bind fun t156 => (if 19 + t156.size ≤ 9223372036854775807 then (if ((((⟨#[35, 69, 88, 84, 45, 88, 45, 73, 45, 70, 82, 65, 77, 69, 45, 83, 84, 82, 69, 65, 77, 45, 73, 78, 70, 58, 80, 82, 79, 71, 82, 65, 77, 45, 73, 68, 61]⟩ : ByteArray) ++ t154) ++ (⟨#[44, 66, 65, 78, 68, 87, 73, 68, 84, 72, 61]⟩ : ByteArray)) ++ t155).size + ((⟨#[44, 65, 86, 69, 82, 65, 71, 69, 45, 66, 65, 78, 68, 87, 73, 68, 84, 72, 61]⟩ : ByteArray) ++ t156).size ≤ 9223372036854775807 then (spec_Variant_Frames.j0 k (((((⟨#[35, 69, 88, 84, 45, 88, 45, 73, 45, 70, 82, 65, 77, 69, 45, 83, 84, 82, 69, 65, 77, 45, 73, 78, 70, 58, 80, 82, 79, 71, 82, 65, 77, 45, 73, 68, 61]⟩ : ByteArray) ++ t154) ++ (⟨#[44, 66, 65, 78, 68, 87, 73, 68, 84, 72, 61]⟩ : ByteArray)) ++ t155) ++ ((⟨#[44, 65, 86, 69, 82, 65, 71, 69, 45, 66, 65, 78, 68, 87, 73, 68, 84, 72, 61]⟩ : ByteArray) ++ t156)) a0_0 a0_1 a0_2 a0_3 a0_4 a0_5 a0_6 a0_7 a0_8 a0_9 a0_10 a0_11 a0_12) else (none)) else (none))) else (spec_Variant_Frames.j0 k ((((⟨#[35, 69, 88, 84, 45, 88, 45, 73, 45, 70, 82, 65, 77, 69, 45, 83, 84, 82, 69, 65, 77, 45, 73, 78, 70, 58, 80, 82, 79, 71, 82, 65, 77, 45, 73, 68, 61]⟩ : ByteArray) ++ t154) ++ (⟨#[44, 66, 65, 78, 68, 87, 73, 68, 84, 72, 61]⟩ : ByteArray)) ++ t155) a0_0 a0_1 a0_2 a0_3 a0_4 a0_5 a0_6 a0_7 a0_8 a0_9 a0_10 a0_11 a0_12)) else (none))) else (none)) else (none)) = some r := H
  have A2 := Aside0.mk A20
  clear A20
  by_cases c3 : 37 + t154.size ≤ 9223372036854775807
  · rw [if_pos c3] at H
    have c3b0 := eq_true c3
    have c3b1 : decide (37 + t154.size ≤ 9223372036854775807) = true := decide_eq_true c3
    try have c3b2 : (9223372036854775807 < 37 + t154.size) = False := eq_false (Nat.not_lt.2 c3)
    try (have c3b3 := c3; simp only [ByteArray.size_append, lit_size, List.length_cons, List.length_nil, Nat.zero_add, Nat.reduceAdd] at c3b3)
    by_cases c4 : ((⟨#[35, 69, 88, 84, 45, 88, 45, 73, 45, 70, 82, 65, 77, 69, 45, 83, 84, 82, 69, 65, 77, 45, 73, 78, 70, 58, 80, 82, 79, 71, 82, 65, 77, 45, 73, 68, 61]⟩ : ByteArray) ++ t154).size + 11 ≤ 9223372036854775807
    · rw [if_pos c4] at H
      have c4b0 := eq_true c4
      have c4b1 : decide (((⟨#[35, 69, 88, 84, 45, 88, 45, 73, 45, 70, 82, 65, 77, 69, 45, 83, 84, 82, 69, 65, 77, 45, 73, 78, 70, 58, 80, 82, 79, 71, 82, 65, 77, 45, 73, 68, 61]⟩ : ByteArray) ++ t154).size + 11 ≤ 9223372036854775807) = true := decide_eq_true c4
      try have c4b2 : (9223372036854775807 < ((⟨#[35, 69, 88, 84, 45, 88, 45, 73, 45, 70, 82, 65, 77, 69, 45, 83, 84, 82, 69, 65, 77, 45, 73, 78, 70, 58, 80, 82, 79, 71, 82, 65, 77, 45, 73, 68, 61]⟩ : ByteArray) ++ t154).size + 11) = False := eq_false (Nat.not_lt.2 c4)
      try (have c4b3 := c4; simp only [ByteArray.size_append, lit_size, List.length_cons, List.length_nil, Nat.zero_add, Nat.reduceAdd] at c4b3)
      replace H := Option.bind_eq_some_iff.mp H
      obtain ⟨t155, A50, H⟩ := H
      replace H : (if (((⟨#[35, 69, 88, 84, 45, 88, 45, 73, 45, 70, 82, 65, 77, 69, 45, 83, 84, 82, 69, 65, 77, 45, 73, 78, 70, 58, 80, 82, 79, 71, 82, 65, 77, 45, 73, 68, 61]⟩ : ByteArray) ++ t154) ++ (⟨#[44, 66, 65, 78, 68, 87, 73, 68, 84, 72, 61]⟩ : ByteArray)).size + t155.size ≤ 9223372036854775807 then (if a0_3 > 0 then ((spec_Decimal.f k (IntKind.u64.wrap (a0_3))).bind fun t156 => (if 19 + t156.size ≤ 9223372036854775807 then (if ((((⟨#[35, 69, 88, 84, 45, 88, 45, 73, 45, 70, 82, 65, 77, 69, 45, 83, 84, 82, 69, 65, 77, 45, 73, 78, 70, 58, 80, 82, 79, 71, 82, 65, 77, 45, 73, 68, 61]⟩ : ByteArray) ++ t154) ++ (⟨#[44, 66, 65, 78, 68, 87, 73, 68, 84, 72, 61]⟩ : ByteArray)) ++ t155).size + ((⟨#[44, 65, 86, 69, 82, 65, 71, 69, 45, 66, 65, 78, 68, 87, 73, 68, 84, 72, 61]⟩ : ByteArray) ++ t156).size ≤ 9223372036854775807 then (spec_Variant_Frames.j0 k (((((⟨#[35, 69, 88, 84, 45, 88, 45, 73, 45, 70, 82, 65, 77, 69, 45, 83, 84, 82, 69, 65, 77, 45, 73, 78, 70, 58, 80, 82, 79, 71, 82, 65, 77, 45, 73, 68, 61]⟩ : ByteArray) ++ t154) ++ (⟨#[44, 66, 65, 78, 68, 87, 73, 68, 84, 72, 61]⟩ : ByteArray)) ++ t155) ++ ((⟨#[44, 65, 86, 69, 82, 65, 71, 69, 45, 66, 65, 78, 68, 87, 73, 68, 84, 72, 61]⟩ : ByteArray) ++ t156)) a0_0 a0_1 a0_2 a0_3 a0_4 a0_5 a0_6 a0_7 a0_8 a0_9 a0_10 a0_11 a0_12) else (none)) else (none))) else (spec_Variant_Frames.j0 k ((((⟨#[35, 69, 88, 84, 45, 88, 45, 73, 45, 70, 82, 65, 77, 69, 45, 83, 84, 82, 69, 65, 77, 45, 73, 78, 70, 58, 80, 82, 79, 71, 82, 65, 77, 45, 73, 68, 61]⟩ : ByteArray) ++ t154) ++ (⟨#[44, 66, 65, 78, 68, 87, 73, 68, 84, 72, 61]⟩ : ByteArray)) ++ t155) a0_0 a0_1 a0_2 a0_3 a0_4 a0_5 a0_6 a0_7 a0_8 a0_9 a0_10 a0_11 a0_12)) else (none)) = some r := H
      have A5 := Aside0.mk A50
      clear A50
      by_cases c6 : (((⟨#[35, 69, 88, 84, 45, 88, 45, 73, 45, 70, 82, 65, 77, 69, 45, 83, 84, 82, 69, 65, 77, 45, 73, 78, 70, 58, 80, 82, 79, 71, 82, 65, 77, 45, 73, 68, 61]⟩ : ByteArray) ++ t154) ++ (⟨#[44, 66, 65, 78, 68, 87, 73, 68, 84, 72, 61]⟩ : ByteArray)).size + t155.size ≤ 9223372036854775807
      · rw [if_pos c6] at H
        have c6b0 := eq_true c6
        have c6b1 : decide ((((⟨#[35, 69, 88, 84, 45, 88, 45, 73, 45, 70, 82, 65, 77, 69, 45, 83, 84, 82, 69, 65, 77, 45, 73, 78, 70, 58, 80, 82, 79, 71, 82, 65, 77, 45, 73, 68, 61]⟩ : ByteArray) ++ t154) ++ (⟨#[44, 66, 65, 78, 68, 87, 73, 68, 84, 72, 61]⟩ : ByteArray)).size + t155.size ≤ 9223372036854775807) = true := decide_eq_true c6
        try have c6b2 : (9223372036854775807 < (((⟨#[35, 69, 88, 84, 45, 88, 45, 73, 45, 70, 82, 65, 77, 69, 45, 83, 84, 82, 69, 65, 77, 45, 73, 78, 70, 58, 80, 82, 79, 71, 82, 65, 77, 45, 73, 68, 61]⟩ : ByteArray) ++ t154) ++ (⟨#[44, 66, 65, 78, 68, 87, 73, 68, 84, 72, 61]⟩ : ByteArray)).size + t155.size) = False := eq_false (Nat.not_lt.2 c6)
        try (have c6b3 := c6; simp only [ByteArray.size_append, lit_size, List.length_cons, List.length_nil, Nat.zero_add, Nat.reduceAdd] at c6b3)
        have HC7 := Aside0.mk H
        clear H
        go_enter Tryz.func15, Tryz.ntmps15
        go_upto_if 17 with (first | ((with_reducible refine gate_dst (N := 1) rfl ?_); refine box_event ?hg (N := 1) ?hd (cs := #[.string a0_0, .int .u32 a0_1, .int .u32 a0_2, .int .u32 a0_3, .string a0_4, .int .u32 a0_5, .int .u32 a0_6, .string a0_7, .string a0_8, .string a0_9, .string a0_10, .string a0_11, .int .i64 a0_12]) (t := 44) ?hr ?_; (case hd => rfl); (case hg => rfl); (case hr => first | (go_simp; done) | (go_simp; rfl)); intro gb153 hg w8 hbox hb; have n0_ := Aside0.mk (below_step (by repeat (first | (with_reducible first | exact HB.out | apply below_alloc | apply pw_below_drewN | apply below_drew1) | exact HB.out)) hb); have n1_ := Aside0.mk (hbox); have n2_ := Aside0.mk ((by rw [hg]; exact (below_size (by repeat (first | (with_reducible first | exact HB.out | apply below_alloc | apply pw_below_drewN | apply below_drew1) | exact HB.out))) : w.heap.size ≤ gb153)); have n3_ := Aside0.mk ((by rw [hg]; exact (below_size (by repeat (first | (with_reducible first | exact HB.out | apply below_alloc | apply pw_below_drewN | apply below_drew1) | exact HB.out))) : w.heap.size ≤ gb153)); clear HB; have HB := n0_; have BK153 := n1_; have GW153 := n2_; have GE153 := n3_; clear n0_ n1_ n2_ n3_; clear hb hbox hg; have hcz9_0 : w8.cell? ⟨gb153, 0, none⟩ = some (.string a0_0) := (blk_cell BK153.out 0).trans rfl; have hcz9_1 : w8.cell? ⟨gb153, 1, none⟩ = some (.int .u32 a0_1) := (blk_cell BK153.out 1).trans rfl; have hcz9_2 : w8.cell? ⟨gb153, 2, none⟩ = some (.int .u32 a0_2) := (blk_cell BK153.out 2).trans rfl; have hcz9_3 : w8.cell? ⟨gb153, 3, none⟩ = some (.int .u32 a0_3) := (blk_cell BK153.out 3).trans rfl; have hcz9_4 : w8.cell? ⟨gb153, 4, none⟩ = some (.string a0_4) := (blk_cell BK153.out 4).trans rfl; have hcz9_5 : w8.cell? ⟨gb153, 5, none⟩ = some (.int .u32 a0_5) := (blk_cell BK153.out 5).trans rfl; have hcz9_6 : w8.cell? ⟨gb153, 6, none⟩ = some (.int .u32 a0_6) := (blk_cell BK153.out 6).trans rfl; have hcz9_7 : w8.cell? ⟨gb153, 7, none⟩ = some (.string a0_7) := (blk_cell BK153.out 7).trans rfl; have hcz9_8 : w8.cell? ⟨gb153, 8, none⟩ = some (.string a0_8) := (blk_cell BK153.out 8).trans rfl; have hcz9_9 : w8.cell? ⟨gb153, 9, none⟩ = some (.string a0_9) := (blk_cell BK153.out 9).trans rfl; have hcz9_10 : w8.cell? ⟨gb153, 10, none⟩ = some (.string a0_10) := (blk_cell BK153.out 10).trans rfl; have hcz9_11 : w8.cell? ⟨gb153, 11, none⟩ = some (.string a0_11) := (blk_cell BK153.out 11).trans rfl; have hcz9_12 : w8.cell? ⟨gb153, 12, none⟩ = some (.int .i64 a0_12) := (blk_cell BK153.out 12).trans rfl; have hfz9_0 := blk_frozen BK153.out 0; have hfz9_1 := blk_frozen BK153.out 1; have hfz9_2 := blk_frozen BK153.out 2; have hfz9_3 := blk_frozen BK153.out 3; have hfz9_4 := blk_frozen BK153.out 4; have hfz9_5 := blk_frozen BK153.out 5; have hfz9_6 := blk_frozen BK153.out 6; have hfz9_7 := blk_frozen BK153.out 7; have hfz9_8 := blk_frozen BK153.out 8; have hfz9_9 := blk_frozen BK153.out 9; have hfz9_10 := blk_frozen BK153.out 10; have hfz9_11 := blk_frozen BK153.out 11; have hfz9_12 := blk_frozen BK153.out 12) | (go_at_call 11; (with_reducible refine (spec_Decimal.calls k (IntKind.u64.wrap (a0_1)) t154 _ A2.out).mono ?_); rintro e w' ⟨rfl, ⟨nd, rfl⟩⟩; (try first | exact ⟨rfl, _, World.drewN_drewN _ _ _⟩ | exact ⟨rfl, _, Eq.trans (World.drewN_drewN _ _ _) (congrArg (World.drewN _) (Nat.add_assoc _ _ _))⟩)) | (go_at_call 11; (with_reducible refine (spec_Decimal.calls k (IntKind.u64.wrap (a0_2)) t155 _ A5.out).mono ?_); rintro e w' ⟨rfl, ⟨nd, rfl⟩⟩; (try first | exact ⟨rfl, _, World.drewN_drewN _ _ _⟩ | exact ⟨rfl, _, Eq.trans (World.drewN_drewN _ _ _) (congrArg (World.drewN _) (Nat.add_assoc _ _ _))⟩)))
        repeat (go_quiet (first | ((with_reducible refine gate_dst (N := 1) rfl ?_); refine box_event ?hg (N := 1) ?hd (cs := #[.string a0_0, .int .u32 a0_1, .int .u32 a0_2, .int .u32 a0_3, .string a0_4, .int .u32 a0_5, .int .u32 a0_6, .string a0_7, .string a0_8, .string a0_9, .string a0_10, .string a0_11, .int .i64 a0_12]) (t := 44) ?hr ?_; (case hd => rfl); (case hg => rfl); (case hr => first | (go_simp; done) | (go_simp; rfl)); intro gb153 hg w8 hbox hb; have n0_ := Aside0.mk (below_step (by repeat (first | (with_reducible first | exact HB.out | apply below_alloc | apply pw_below_drewN | apply below_drew1) | exact HB.out)) hb); have n1_ := Aside0.mk (hbox); have n2_ := Aside0.mk ((by rw [hg]; exact (below_size (by repeat (first | (with_reducible first | exact HB.out | apply below_alloc | apply pw_below_drewN | apply below_drew1) | exact HB.out))) : w.heap.size ≤ gb153)); have n3_ := Aside0.mk ((by rw [hg]; exact (below_size (by repeat (first | (with_reducible first | exact HB.out | apply below_alloc | apply pw_below_drewN | apply below_drew1) | exact HB.out))) : w.heap.size ≤ gb153)); clear HB; have HB := n0_; have BK153 := n1_; have GW153 := n2_; have GE153 := n3_; clear n0_ n1_ n2_ n3_; clear hb hbox hg; have hcz9_0 : w8.cell? ⟨gb153, 0, none⟩ = some (.string a0_0) := (blk_cell BK153.out 0).trans rfl; have hcz9_1 : w8.cell? ⟨gb153, 1, none⟩ = some (.int .u32 a0_1) := (blk_cell BK153.out 1).trans rfl; have hcz9_2 : w8.cell? ⟨gb153, 2, none⟩ = some (.int .u32 a0_2) := (blk_cell BK153.out 2).trans rfl; have hcz9_3 : w8.cell? ⟨gb153, 3, none⟩ = some (.int .u32 a0_3) := (blk_cell BK153.out 3).trans rfl; have hcz9_4 : w8.cell? ⟨gb153, 4, none⟩ = some (.string a0_4) := (blk_cell BK153.out 4).trans rfl; have hcz9_5 : w8.cell? ⟨gb153, 5, none⟩ = some (.int .u32 a0_5) := (blk_cell BK153.out 5).trans rfl; have hcz9_6 : w8.cell? ⟨gb153, 6, none⟩ = some (.int .u32 a0_6) := (blk_cell BK153.out 6).trans rfl; have hcz9_7 : w8.cell? ⟨gb153, 7, none⟩ = some (.string a0_7) := (blk_cell BK153.out 7).trans rfl; have hcz9_8 : w8.cell? ⟨gb153, 8, none⟩ = some (.string a0_8) := (blk_cell BK153.out 8).trans rfl; have hcz9_9 : w8.cell? ⟨gb153, 9, none⟩ = some (.string a0_9) := (blk_cell BK153.out 9).trans rfl; have hcz9_10 : w8.cell? ⟨gb153, 10, none⟩ = some (.string a0_10) := (blk_cell BK153.out 10).trans rfl; have hcz9_11 : w8.cell? ⟨gb153, 11, none⟩ = some (.string a0_11) := (blk_cell BK153.out 11).trans rfl; have hcz9_12 : w8.cell? ⟨gb153, 12, none⟩ = some (.int .i64 a0_12) := (blk_cell BK153.out 12).trans rfl; have hfz9_0 := blk_frozen BK153.out 0; have hfz9_1 := blk_frozen BK153.out 1; have hfz9_2 := blk_frozen BK153.out 2; have hfz9_3 := blk_frozen BK153.out 3; have hfz9_4 := blk_frozen BK153.out 4; have hfz9_5 := blk_frozen BK153.out 5; have hfz9_6 := blk_frozen BK153.out 6; have hfz9_7 := blk_frozen BK153.out 7; have hfz9_8 := blk_frozen BK153.out 8; have hfz9_9 := blk_frozen BK153.out 9; have hfz9_10 := blk_frozen BK153.out 10; have hfz9_11 := blk_frozen BK153.out 11; have hfz9_12 := blk_frozen BK153.out 12) | (go_at_call 11; (with_reducible refine (spec_Decimal.calls k (IntKind.u64.wrap (a0_1)) t154 _ A2.out).mono ?_); rintro e w' ⟨rfl, ⟨nd, rfl⟩⟩; (try first | exact ⟨rfl, _, World.drewN_drewN _ _ _⟩ | exact ⟨rfl, _, Eq.trans (World.drewN_drewN _ _ _) (congrArg (World.drewN _) (Nat.add_assoc _ _ _))⟩)) | (go_at_call 11; (with_reducible refine (spec_Decimal.calls k (IntKind.u64.wrap (a0_2)) t155 _ A5.out).mono ?_); rintro e w' ⟨rfl, ⟨nd, rfl⟩⟩; (try first | exact ⟨rfl, _, World.drewN_drewN _ _ _⟩ | exact ⟨rfl, _, Eq.trans (World.drewN_drewN _ _ _) (congrArg (World.drewN _) (Nat.add_assoc _ _ _))⟩))); go_upto_if 17 with (first | ((with_reducible refine gate_dst (N := 1) rfl ?_); refine box_event ?hg (N := 1) ?hd (cs := #[.string a0_0, .int .u32 a0_1, .int .u32 a0_2, .int .u32 a0_3, .string a0_4, .int .u32 a0_5, .int .u32 a0_6, .string a0_7, .string a0_8, .string a0_9, .string a0_10, .string a0_11, .int .i64 a0_12]) (t := 44) ?hr ?_; (case hd => rfl); (case hg => rfl); (case hr => first | (go_simp; done) | (go_simp; rfl)); intro gb153 hg w8 hbox hb; have n0_ := Aside0.mk (below_step (by repeat (first | (with_reducible first | exact HB.out | apply below_alloc | apply pw_below_drewN | apply below_drew1) | exact HB.out)) hb); have n1_ := Aside0.mk (hbox); have n2_ := Aside0.mk ((by rw [hg]; exact (below_size (by repeat (first | (with_reducible first | exact HB.out | apply below_alloc | apply pw_below_drewN | apply below_drew1) | exact HB.out))) : w.heap.size ≤ gb153)); have n3_ := Aside0.mk ((by rw [hg]; exact (below_size (by repeat (first | (with_reducible first | exact HB.out | apply below_alloc | apply pw_below_drewN | apply below_drew1) | exact HB.out))) : w.heap.size ≤ gb153)); clear HB; have HB := n0_; have BK153 := n1_; have GW153 := n2_; have GE153 := n3_; clear n0_ n1_ n2_ n3_; clear hb hbox hg; have hcz9_0 : w8.cell? ⟨gb153, 0, none⟩ = some (.string a0_0) := (blk_cell BK153.out 0).trans rfl; have hcz9_1 : w8.cell? ⟨gb153, 1, none⟩ = some (.int .u32 a0_1) := (blk_cell BK153.out 1).trans rfl; have hcz9_2 : w8.cell? ⟨gb153, 2, none⟩ = some (.int .u32 a0_2) := (blk_cell BK153.out 2).trans rfl; have hcz9_3 : w8.cell? ⟨gb153, 3, none⟩ = some (.int .u32 a0_3) := (blk_cell BK153.out 3).trans rfl; have hcz9_4 : w8.cell? ⟨gb153, 4, none⟩ = some (.string a0_4) := (blk_cell BK153.out 4).trans rfl; have hcz9_5 : w8.cell? ⟨gb153, 5, none⟩ = some (.int .u32 a0_5) := (blk_cell BK153.out 5).trans rfl; have hcz9_6 : w8.cell? ⟨gb153, 6, none⟩ = some (.int .u32 a0_6) := (blk_cell BK153.out 6).trans rfl; have hcz9_7 : w8.cell? ⟨gb153, 7, none⟩ = some (.string a0_7) := (blk_cell BK153.out 7).trans rfl; have hcz9_8 : w8.cell? ⟨gb153, 8, none⟩ = some (.string a0_8) := (blk_cell BK153.out 8).trans rfl; have hcz9_9 : w8.cell? ⟨gb153, 9, none⟩ = some (.string a0_9) := (blk_cell BK153.out 9).trans rfl; have hcz9_10 : w8.cell? ⟨gb153, 10, none⟩ = some (.string a0_10) := (blk_cell BK153.out 10).trans rfl; have hcz9_11 : w8.cell? ⟨gb153, 11, none⟩ = some (.string a0_11) := (blk_cell BK153.out 11).trans rfl; have hcz9_12 : w8.cell? ⟨gb153, 12, none⟩ = some (.int .i64 a0_12) := (blk_cell BK153.out 12).trans rfl; have hfz9_0 := blk_frozen BK153.out 0; have hfz9_1 := blk_frozen BK153.out 1; have hfz9_2 := blk_frozen BK153.out 2; have hfz9_3 := blk_frozen BK153.out 3; have hfz9_4 := blk_frozen BK153.out 4; have hfz9_5 := blk_frozen BK153.out 5; have hfz9_6 := blk_frozen BK153.out 6; have hfz9_7 := blk_frozen BK153.out 7; have hfz9_8 := blk_frozen BK153.out 8; have hfz9_9 := blk_frozen BK153.out 9; have hfz9_10 := blk_frozen BK153.out 10; have hfz9_11 := blk_frozen BK153.out 11; have hfz9_12 := blk_frozen BK153.out 12) | (go_at_call 11; (with_reducible refine (spec_Decimal.calls k (IntKind.u64.wrap (a0_1)) t154 _ A2.out).mono ?_); rintro e w' ⟨rfl, ⟨nd, rfl⟩⟩; (try first | exact ⟨rfl, _, World.drewN_drewN _ _ _⟩ | exact ⟨rfl, _, Eq.trans (World.drewN_drewN _ _ _) (congrArg (World.drewN _) (Nat.add_assoc _ _ _))⟩)) | (go_at_call 11; (with_reducible refine (spec_Decimal.calls k (IntKind.u64.wrap (a0_2)) t155 _ A5.out).mono ?_); rintro e w' ⟨rfl, ⟨nd, rfl⟩⟩; (try first | exact ⟨rfl, _, World.drewN_drewN _ _ _⟩ | exact ⟨rfl, _, Eq.trans (World.drewN_drewN _ _ _) (congrArg (World.drewN _) (Nat.add_assoc _ _ _))⟩))))
        (try simp only [Act.put, List.setIfInBounds_toArray, List.set_cons_zero, List.set_cons_succ])
        go_cut [3] (fun v3 wc => ∃ (kq : Nat) (x3_6 : ByteArray), v3 = .string x3_6 ∧ Aside0 (spec_Variant_Frames.j0 kq x3_6 a0_0 a0_1 a0_2 a0_3 a0_4 a0_5 a0_6 a0_7 a0_8 a0_9 a0_10 a0_11 a0_12 = some r) ∧ Aside0 (kq ≤ k) ∧ Aside0 (wc.heap[gb153]? = some (.cells #[.string a0_0, .int .u32 a0_1, .int .u32 a0_2, .int .u32 a0_3, .string a0_4, .int .u32 a0_5, .int .u32 a0_6, .string a0_7, .string a0_8, .string a0_9, .string a0_10, .string a0_11, .int .i64 a0_12] 44 (0, 0))) ∧ Aside0 (Below w.heap.size w wc))
        case first =>
          have H := HC7.out
          clear HC7
          by_cases c10 : a0_3 > 0
          · rw [if_pos c10] at H
            have c10b0 : decide (0 < a0_3) = true := decide_eq_true c10
            clear c10
            (first | rw [c10b0] | rw [c10b3] | rw [c10b2] | (simp only [i64_w, i32_w]; rw [c10b0]) | skip)
            replace H := Option.bind_eq_some_iff.mp H
            obtain ⟨t156, A110, H⟩ := H
            replace H : (if 19 + t156.size ≤ 9223372036854775807 then (if ((((⟨#[35, 69, 88, 84, 45, 88, 45, 73, 45, 70, 82, 65, 77, 69, 45, 83, 84, 82, 69, 65, 77, 45, 73, 78, 70, 58, 80, 82, 79, 71, 82, 65, 77, 45, 73, 68, 61]⟩ : ByteArray) ++ t154) ++ (⟨#[44, 66, 65, 78, 68, 87, 73, 68, 84, 72, 61]⟩ : ByteArray)) ++ t155).size + ((⟨#[44, 65, 86, 69, 82, 65, 71, 69, 45, 66, 65, 78, 68, 87, 73, 68, 84, 72, 61]⟩ : ByteArray) ++ t156).size ≤ 9223372036854775807 then (spec_Variant_Frames.j0 k (((((⟨#[35, 69, 88, 84, 45, 88, 45, 73, 45, 70, 82, 65, 77, 69, 45, 83, 84, 82, 69, 65, 77, 45, 73, 78, 70, 58, 80, 82, 79, 71, 82, 65, 77, 45, 73, 68, 61]⟩ : ByteArray) ++ t154) ++ (⟨#[44, 66, 65, 78, 68, 87, 73, 68, 84, 72, 61]⟩ : ByteArray)) ++ t155) ++ ((⟨#[44, 65, 86, 69, 82, 65, 71, 69, 45, 66, 65, 78, 68, 87, 73, 68, 84, 72, 61]⟩ : ByteArray) ++ t156)) a0_0 a0_1 a0_2 a0_3 a0_4 a0_5 a0_6 a0_7 a0_8 a0_9 a0_10 a0_11 a0_12) else (none)) else (none)) = some r := H
            have A11 := Aside0.mk A110
            clear A110
            by_cases c12 : 19 + t156.size ≤ 9223372036854775807
            · rw [if_pos c12] at H
              have c12b0 := eq_true c12
              have c12b1 : decide (19 + t156.size ≤ 9223372036854775807) = true := decide_eq_true c12
              try have c12b2 : (9223372036854775807 < 19 + t156.size) = False := eq_false (Nat.not_lt.2 c12)
              try (have c12b3 := c12; simp only [ByteArray.size_append, lit_size, List.length_cons, List.length_nil, Nat.zero_add, Nat.reduceAdd] at c12b3)
              by_cases c13 : ((((⟨#[35, 69, 88, 84, 45, 88, 45, 73, 45, 70, 82, 65, 77, 69, 45, 83, 84, 82, 69, 65, 77, 45, 73, 78, 70, 58, 80, 82, 79, 71, 82, 65, 77, 45, 73, 68, 61]⟩ : ByteArray) ++ t154) ++ (⟨#[44, 66, 65, 78, 68, 87, 73, 68, 84, 72, 61]⟩ : ByteArray)) ++ t155).size + ((⟨#[44, 65, 86, 69, 82, 65, 71, 69, 45, 66, 65, 78, 68, 87, 73, 68, 84, 72, 61]⟩ : ByteArray) ++ t156).size ≤ 9223372036854775807
              · rw [if_pos c13] at H
                have c13b0 := eq_true c13
                have c13b1 : decide (((((⟨#[35, 69, 88, 84, 45, 88, 45, 73, 45, 70, 82, 65, 77, 69, 45, 83, 84, 82, 69, 65, 77, 45, 73, 78, 70, 58, 80, 82, 79, 71, 82, 65, 77, 45, 73, 68, 61]⟩ : ByteArray) ++ t154) ++ (⟨#[44, 66, 65, 78, 68, 87, 73, 68, 84, 72, 61]⟩ : ByteArray)) ++ t155).size + ((⟨#[44, 65, 86, 69, 82, 65, 71, 69, 45, 66, 65, 78, 68, 87, 73, 68, 84, 72, 61]⟩ : ByteArray) ++ t156).size ≤ 9223372036854775807) = true := decide_eq_true c13
                try have c13b2 : (9223372036854775807 < ((((⟨#[35, 69, 88, 84, 45, 88, 45, 73, 45, 70, 82, 65, 77, 69, 45, 83, 84, 82, 69, 65, 77, 45, 73, 78, 70, 58, 80, 82, 79, 71, 82, 65, 77, 45, 73, 68, 61]⟩ : ByteArray) ++ t154) ++ (⟨#[44, 66, 65, 78, 68, 87, 73, 68, 84, 72, 61]⟩ : ByteArray)) ++ t155).size + ((⟨#[44, 65, 86, 69, 82, 65, 71, 69, 45, 66, 65, 78, 68, 87, 73, 68, 84, 72, 61]⟩ : ByteArray) ++ t156).size) = False := eq_false (Nat.not_lt.2 c13)
                try (have c13b3 := c13; simp only [ByteArray.size_append, lit_size, List.length_cons, List.length_nil, Nat.zero_add, Nat.reduceAdd] at c13b3)
                have H' := Aside0.mk H
                clear H
                have hcz14_0 : w8.cell? ⟨gb153, 0, none⟩ = some (.string a0_0) := (blk_cell BK153.out 0).trans rfl
                have hcz14_1 : w8.cell? ⟨gb153, 1, none⟩ = some (.int .u32 a0_1) := (blk_cell BK153.out 1).trans rfl
                have hcz14_2 : w8.cell? ⟨gb153, 2, none⟩ = some (.int .u32 a0_2) := (blk_cell BK153.out 2).trans rfl
                have hcz14_3 : w8.cell? ⟨gb153, 3, none⟩ = some (.int .u32 a0_3) := (blk_cell BK153.out 3).trans rfl
                have hcz14_4 : w8.cell? ⟨gb153, 4, none⟩ = some (.string a0_4) := (blk_cell BK153.out 4).trans rfl
                have hcz14_5 : w8.cell? ⟨gb153, 5, none⟩ = some (.int .u32 a0_5) := (blk_cell BK153.out 5).trans rfl
                have hcz14_6 : w8.cell? ⟨gb153, 6, none⟩ = some (.int .u32 a0_6) := (blk_cell BK153.out 6).trans rfl
                have hcz14_7 : w8.cell? ⟨gb153, 7, none⟩ = some (.string a0_7) := (blk_cell BK153.out 7).trans rfl
                have hcz14_8 : w8.cell? ⟨gb153, 8, none⟩ = some (.string a0_8) := (blk_cell BK153.out 8).trans rfl
                have hcz14_9 : w8.cell? ⟨gb153, 9, none⟩ = some (.string a0_9) := (blk_cell BK153.out 9).trans rfl
                have hcz14_10 : w8.cell? ⟨gb153, 10, none⟩ = some (.string a0_10) := (blk_cell BK153.out 10).trans rfl
                have hcz14_11 : w8.cell? ⟨gb153, 11, none⟩ = some (.string a0_11) := (blk_cell BK153.out 11).trans rfl
                have hcz14_12 : w8.cell? ⟨gb153, 12, none⟩ = some (.int .i64 a0_12) := (blk_cell BK153.out 12).trans rfl
                have hfz14_0 := blk_frozen BK153.out 0
                have hfz14_1 := blk_frozen BK153.out 1
                have hfz14_2 := blk_frozen BK153.out 2
                have hfz14_3 := blk_frozen BK153.out 3
                have hfz14_4 := blk_frozen BK153.out 4
                have hfz14_5 := blk_frozen BK153.out 5
                have hfz14_6 := blk_frozen BK153.out 6
                have hfz14_7 := blk_frozen BK153.out 7
                have hfz14_8 := blk_frozen BK153.out 8
                have hfz14_9 := blk_frozen BK153.out 9
                have hfz14_10 := blk_frozen BK153.out 10
                have hfz14_11 := blk_frozen BK153.out 11
                have hfz14_12 := blk_frozen BK153.out 12
                go_wp2_with (first | (go_at_call 11; (with_reducible refine (spec_Decimal.calls k (IntKind.u64.wrap (a0_3)) t156 _ A11.out).mono ?_); rintro e w' ⟨rfl, ⟨nd, rfl⟩⟩; (try first | exact ⟨rfl, _, World.drewN_drewN _ _ _⟩ | exact ⟨rfl, _, Eq.trans (World.drewN_drewN _ _ _) (congrArg (World.drewN _) (Nat.add_assoc _ _ _))⟩)))
                repeat (go_quiet (first | (go_at_call 11; (with_reducible refine (spec_Decimal.calls k (IntKind.u64.wrap (a0_3)) t156 _ A11.out).mono ?_); rintro e w' ⟨rfl, ⟨nd, rfl⟩⟩; (try first | exact ⟨rfl, _, World.drewN_drewN _ _ _⟩ | exact ⟨rfl, _, Eq.trans (World.drewN_drewN _ _ _) (congrArg (World.drewN _) (Nat.add_assoc _ _ _))⟩))); try go_wp2_with (first | (go_at_call 11; (with_reducible refine (spec_Decimal.calls k (IntKind.u64.wrap (a0_3)) t156 _ A11.out).mono ?_); rintro e w' ⟨rfl, ⟨nd, rfl⟩⟩; (try first | exact ⟨rfl, _, World.drewN_drewN _ _ _⟩ | exact ⟨rfl, _, Eq.trans (World.drewN_drewN _ _ _) (congrArg (World.drewN _) (Nat.add_assoc _ _ _))⟩))))
                go_meet
                case rel => exact ⟨_, (((((⟨#[35, 69, 88, 84, 45, 88, 45, 73, 45, 70, 82, 65, 77, 69, 45, 83, 84, 82, 69, 65, 77, 45, 73, 78, 70, 58, 80, 82, 79, 71, 82, 65, 77, 45, 73, 68, 61]⟩ : ByteArray) ++ t154) ++ (⟨#[44, 66, 65, 78, 68, 87, 73, 68, 84, 72, 61]⟩ : ByteArray)) ++ t155) ++ ((⟨#[44, 65, 86, 69, 82, 65, 71, 69, 45, 66, 65, 78, 68, 87, 73, 68, 84, 72, 61]⟩ : ByteArray) ++ t156)), (by first | rfl | (simp; done) | (simp [*]; done)), H', ⟨by first | omega | exact Nat.le_refl _⟩, ⟨by (with_reducible repeat (first | refine blk_drewN ?_ _ | refine blk_drew ?_ | refine blk_alloc ?_ _)); exact BK153.out⟩, ⟨by repeat (first | (with_reducible first | exact HB.out | apply below_alloc | apply pw_below_drewN | apply below_drew1 | refine below_set ?_ GE153.out) | exact HB.out)⟩⟩
              · rw [if_neg c13] at H
                exact absurd H (by simp)
            · rw [if_neg c12] at H
              exact absurd H (by simp)
          · rw [if_neg c10] at H
            have c10b0 : decide (0 < a0_3) = false := decide_eq_false c10
            clear c10
            (first | rw [c10b0] | rw [c10b3] | rw [c10b2] | (simp only [i64_w, i32_w]; rw [c10b0]) | skip)
            have H' := Aside0.mk H
            clear H
            go_wp2
            repeat (go_quiet (fail); try go_wp2)
            go_meet
            case rel => exact ⟨_, ((((⟨#[35, 69, 88, 84, 45, 88, 45, 73, 45, 70, 82, 65, 77, 69, 45, 83, 84, 82, 69, 65, 77, 45, 73, 78, 70, 58, 80, 82, 79, 71, 82, 65, 77, 45, 73, 68, 61]⟩ : ByteArray) ++ t154) ++ (⟨#[44, 66, 65, 78, 68, 87, 73, 68, 84, 72, 61]⟩ : ByteArray)) ++ t155), (by first | rfl | (simp; done) | (simp [*]; done)), H', ⟨by first | omega | exact Nat.le_refl _⟩, ⟨by (with_reducible repeat (first | refine blk_drewN ?_ _ | refine blk_drew ?_ | refine blk_alloc ?_ _)); exact BK153.out⟩, ⟨by repeat (first | (with_reducible first | exact HB.out | apply below_alloc | apply pw_below_drewN | apply below_drew1 | refine below_set ?_ GE153.out) | exact HB.out)⟩⟩
        case rest =>
          clear HC7
          clear c3 c3b0 c3b1 c3b2 c4 c4b0 c4b1 c4b2 c6 c6b0 c6b1 c6b2 hcz9_0 hcz9_1 hcz9_10 hcz9_11 hcz9_12 hcz9_2 hcz9_3 hcz9_4 hcz9_5 hcz9_6 hcz9_7 hcz9_8 hcz9_9 hfz9_0 hfz9_1 hfz9_10 hfz9_11 hfz9_12 hfz9_2 hfz9_3 hfz9_4 hfz9_5 hfz9_6 hfz9_7 hfz9_8 hfz9_9
          obtain ⟨kq, x3_6, rfl, HA, HJ6, BK153, HB⟩ := hcut
          cases kq with
          | zero => exact absurd HA.out (by simp [spec_Variant_Frames.j0])
          | succ kj6 =>
            have H := HA.out
            clear HA
            simp only [spec_Variant_Frames.j0] at H
            have HC15 := Aside0.mk H
            clear H
            have hcz16_0 : wc.cell? ⟨gb153, 0, none⟩ = some (.string a0_0) := (blk_cell BK153.out 0).trans rfl
            have hcz16_1 : wc.cell? ⟨gb153, 1, none⟩ = some (.int .u32 a0_1) := (blk_cell BK153.out 1).trans rfl
            have hcz16_2 : wc.cell? ⟨gb153, 2, none⟩ = some (.int .u32 a0_2) := (blk_cell BK153.out 2).trans rfl
            have hcz16_3 : wc.cell? ⟨gb153, 3, none⟩ = some (.int .u32 a0_3) := (blk_cell BK153.out 3).trans rfl
            have hcz16_4 : wc.cell? ⟨gb153, 4, none⟩ = some (.string a0_4) := (blk_cell BK153.out 4).trans rfl
            have hcz16_5 : wc.cell? ⟨gb153, 5, none⟩ = some (.int .u32 a0_5) := (blk_cell BK153.out 5).trans rfl
            have hcz16_6 : wc.cell? ⟨gb153, 6, none⟩ = some (.int .u32 a0_6) := (blk_cell BK153.out 6).trans rfl
            have hcz16_7 : wc.cell? ⟨gb153, 7, none⟩ = some (.string a0_7) := (blk_cell BK153.out 7).trans rfl
            have hcz16_8 : wc.cell? ⟨gb153, 8, none⟩ = some (.string a0_8) := (blk_cell BK153.out 8).trans rfl
            have hcz16_9 : wc.cell? ⟨gb153, 9, none⟩ = some (.string a0_9) := (blk_cell BK153.out 9).trans rfl
            have hcz16_10 : wc.cell? ⟨gb153, 10, none⟩ = some (.string a0_10) := (blk_cell BK153.out 10).trans rfl
            have hcz16_11 : wc.cell? ⟨gb153, 11, none⟩ = some (.string a0_11) := (blk_cell BK153.out 11).trans rfl
            have hcz16_12 : wc.cell? ⟨gb153, 12, none⟩ = some (.int .i64 a0_12) := (blk_cell BK153.out 12).trans rfl
            have hfz16_0 := blk_frozen BK153.out 0
            have hfz16_1 := blk_frozen BK153.out 1
            have hfz16_2 := blk_frozen BK153.out 2
            have hfz16_3 := blk_frozen BK153.out 3
            have hfz16_4 := blk_frozen BK153.out 4
            have hfz16_5 := blk_frozen BK153.out 5
            have hfz16_6 := blk_frozen BK153.out 6
            have hfz16_7 := blk_frozen BK153.out 7
            have hfz16_8 := blk_frozen BK153.out 8
            have hfz16_9 := blk_frozen BK153.out 9
            have hfz16_10 := blk_frozen BK153.out 10
            have hfz16_11 := blk_frozen BK153.out 11
            have hfz16_12 := blk_frozen BK153.out 12
            go_upto_if 27 with (fail)
            repeat (go_quiet (fail); go_upto_if 27 with (fail))
            go_cut [3] (fun v3 wc => ∃ (kq : Nat) (x3_14 : ByteArray), v3 = .string x3_14 ∧ Aside0 (spec_Variant_Frames.j1 kq x3_14 a0_0 a0_1 a0_2 a0_3 a0_4 a0_5 a0_6 a0_7 a0_8 a0_9 a0_10 a0_11 a0_12 = some r) ∧ Aside0 (kq ≤ kj6) ∧ Aside0 (wc.heap[gb153]? = some (.cells #[.string a0_0, .int .u32 a0_1, .int .u32 a0_2, .int .u32 a0_3, .string a0_4, .int .u32 a0_5, .int .u32 a0_6, .string a0_7, .string a0_8, .string a0_9, .string a0_10, .string a0_11, .int .i64 a0_12] 44 (0, 0))) ∧ Aside0 (Below w.heap.size w wc))
            case first =>
              have H := HC15.out
              clear HC15
              by_cases c17 : a0_4.toList = ([] : List UInt8)
              · rw [if_pos c17] at H
                have c17b0 : (a0_4.toList == ([] : List UInt8)) = true := beq_iff_eq.mpr c17
                have c17b1 : (a0_4.toList != ([] : List UInt8)) = false := bne_eq_false_iff_eq.mpr c17
                (try (have c17b2 : a0_4.toList.isEmpty = true := by simpa using c17))
                (try (have c17b3 : (!a0_4.toList.isEmpty) = false := by simpa using c17))
                clear c17
                (first | rw [c17b0] | rw [c17b3] | rw [c17b2] | (simp only [i64_w, i32_w]; rw [c17b0]) | skip)
                have H' := Aside0.mk H
                clear H
                go_wp2
                repeat (go_quiet (fail); try go_wp2)
                go_meet
                case rel => exact ⟨_, (x3_6), (by first | rfl | (simp; done) | (simp [*]; done)), H', ⟨by have := HJ6.out; first | omega | exact Nat.le_refl _⟩, ⟨by (with_reducible repeat (first | refine blk_drewN ?_ _ | refine blk_drew ?_ | refine blk_alloc ?_ _)); exact BK153.out⟩, ⟨by repeat (first | (with_reducible first | exact HB.out | apply below_alloc | apply pw_below_drewN | apply below_drew1 | refine below_set ?_ GE153.out) | exact HB.out)⟩⟩
              · rw [if_neg c17] at H
                have c17b0 : (a0_4.toList == ([] : List UInt8)) = false := beq_eq_false_iff_ne.mpr c17
                have c17b1 : (a0_4.toList != ([] : List UInt8)) = true := bne_iff_ne.mpr c17
                (try (have c17b2 : a0_4.toList.isEmpty = false := by simpa using c17))
                (try (have c17b3 : (!a0_4.toList.isEmpty) = true := by simpa using c17))
                (first | rw [c17b0] | rw [c17b3] | rw [c17b2] | (simp only [i64_w, i32_w]; rw [c17b0]) | skip)
                by_cases c18 : 9 + a0_4.size ≤ 9223372036854775807
                · rw [if_pos c18] at H
                  have c18b0 := eq_true c18
                  have c18b1 : decide (9 + a0_4.size ≤ 9223372036854775807) = true := decide_eq_true c18
                  try have c18b2 : (9223372036854775807 < 9 + a0_4.size) = False := eq_false (Nat.not_lt.2 c18)
                  try (have c18b3 := c18; simp only [ByteArray.size_append, lit_size, List.length_cons, List.length_nil, Nat.zero_add, Nat.reduceAdd] at c18b3)
                  by_cases c19 : ((⟨#[44, 67, 79, 68, 69, 67, 83, 61, 34]⟩ : ByteArray) ++ a0_4).size + 1 ≤ 9223372036854775807
                  · rw [if_pos c19] at H
                    have c19b0 := eq_true c19
                    have c19b1 : decide (((⟨#[44, 67, 79, 68, 69, 67, 83, 61, 34]⟩ : ByteArray) ++ a0_4).size + 1 ≤ 9223372036854775807) = true := decide_eq_true c19
                    try have c19b2 : (9223372036854775807 < ((⟨#[44, 67, 79, 68, 69, 67, 83, 61, 34]⟩ : ByteArray) ++ a0_4).size + 1) = False := eq_false (Nat.not_lt.2 c19)
                    try (have c19b3 := c19; simp only [ByteArray.size_append, lit_size, List.length_cons, List.length_nil, Nat.zero_add, Nat.reduceAdd] at c19b3)
                    by_cases c20 : x3_6.size + (((⟨#[44, 67, 79, 68, 69, 67, 83, 61, 34]⟩ : ByteArray) ++ a0_4) ++ (⟨#[34]⟩ : ByteArray)).size ≤ 9223372036854775807
                    · rw [if_pos c20] at H
                      have c20b0 := eq_true c20
                      have c20b1 : decide (x3_6.size + (((⟨#[44, 67, 79, 68, 69, 67, 83, 61, 34]⟩ : ByteArray) ++ a0_4) ++ (⟨#[34]⟩ : ByteArray)).size ≤ 9223372036854775807) = true := decide_eq_true c20
                      try have c20b2 : (9223372036854775807 < x3_6.size + (((⟨#[44, 67, 79, 68, 69, 67, 83, 61, 34]⟩ : ByteArray) ++ a0_4) ++ (⟨#[34]⟩ : ByteArray)).size) = False := eq_false (Nat.not_lt.2 c20)
                      try (have c20b3 := c20; simp only [ByteArray.size_append, lit_size, List.length_cons, List.length_nil, Nat.zero_add, Nat.reduceAdd] at c20b3)
                      have H' := Aside0.mk H
                      clear H
                      have hcz21_0 : wc.cell? ⟨gb153, 0, none⟩ = some (.string a0_0) := (blk_cell BK153.out 0).trans rfl
                      have hcz21_1 : wc.cell? ⟨gb153, 1, none⟩ = some (.int .u32 a0_1) := (blk_cell BK153.out 1).trans rfl
                      have hcz21_2 : wc.cell? ⟨gb153, 2, none⟩ = some (.int .u32 a0_2) := (blk_cell BK153.out 2).trans rfl
                      have hcz21_3 : wc.cell? ⟨gb153, 3, none⟩ = some (.int .u32 a0_3) := (blk_cell BK153.out 3).trans rfl
                      have hcz21_4 : wc.cell? ⟨gb153, 4, none⟩ = some (.string a0_4) := (blk_cell BK153.out 4).trans rfl
                      have hcz21_5 : wc.cell? ⟨gb153, 5, none⟩ = some (.int .u32 a0_5) := (blk_cell BK153.out 5).trans rfl
                      have hcz21_6 : wc.cell? ⟨gb153, 6, none⟩ = some (.int .u32 a0_6) := (blk_cell BK153.out 6).trans rfl
                      have hcz21_7 : wc.cell? ⟨gb153, 7, none⟩ = some (.string a0_7) := (blk_cell BK153.out 7).trans rfl
                      have hcz21_8 : wc.cell? ⟨gb153, 8, none⟩ = some (.string a0_8) := (blk_cell BK153.out 8).trans rfl
                      have hcz21_9 : wc.cell? ⟨gb153, 9, none⟩ = some (.string a0_9) := (blk_cell BK153.out 9).trans rfl
                      have hcz21_10 : wc.cell? ⟨gb153, 10, none⟩ = some (.string a0_10) := (blk_cell BK153.out 10).trans rfl
                      have hcz21_11 : wc.cell? ⟨gb153, 11, none⟩ = some (.string a0_11) := (blk_cell BK153.out 11).trans rfl
                      have hcz21_12 : wc.cell? ⟨gb153, 12, none⟩ = some (.int .i64 a0_12) := (blk_cell BK153.out 12).trans rfl
                      have hfz21_0 := blk_frozen BK153.out 0
                      have hfz21_1 := blk_frozen BK153.out 1
                      have hfz21_2 := blk_frozen BK153.out 2
                      have hfz21_3 := blk_frozen BK153.out 3
                      have hfz21_4 := blk_frozen BK153.out 4
                      have hfz21_5 := blk_frozen BK153.out 5
                      have hfz21_6 := blk_frozen BK153.out 6
                      have hfz21_7 := blk_frozen BK153.out 7
                      have hfz21_8 := blk_frozen BK153.out 8
                      have hfz21_9 := blk_frozen BK153.out 9
                      have hfz21_10 := blk_frozen BK153.out 10
                      have hfz21_11 := blk_frozen BK153.out 11
                      have hfz21_12 := blk_frozen BK153.out 12
                      go_wp2
                      repeat (go_quiet (fail); try go_wp2)
                      go_meet
                      case rel => exact ⟨_, (x3_6 ++ (((⟨#[44, 67, 79, 68, 69, 67, 83, 61, 34]⟩ : ByteArray) ++ a0_4) ++ (⟨#[34]⟩ : ByteArray))), (by first | rfl | (simp; done) | (simp [*]; done)), H', ⟨by have := HJ6.out; first | omega | exact Nat.le_refl _⟩, ⟨by (with_reducible repeat (first | refine blk_drewN ?_ _ | refine blk_drew ?_ | refine blk_alloc ?_ _)); exact BK153.out⟩, ⟨by repeat (first | (with_reducible first | exact HB.out | apply below_alloc | apply pw_below_drewN | apply below_drew1 | refine below_set ?_ GE153.out) | exact HB.out)⟩⟩
                    · rw [if_neg c20] at H
                      exact absurd H (by simp)
                  · rw [if_neg c19] at H
                    exact absurd H (by simp)
                · rw [if_neg c18] at H
                  exact absurd H (by simp)
            case rest =>
              clear HC15
              clear hcz16_0 hcz16_1 hcz16_10 hcz16_11 hcz16_12 hcz16_2 hcz16_3 hcz16_4 hcz16_5 hcz16_6 hcz16_7 hcz16_8 hcz16_9 hfz16_0 hfz16_1 hfz16_10 hfz16_11 hfz16_12 hfz16_2 hfz16_3 hfz16_4 hfz16_5 hfz16_6 hfz16_7 hfz16_8 hfz16_9
              obtain ⟨kq, x3_14, rfl, HA, HJ14, BK153, HB⟩ := hcut
              cases kq with
              | zero => exact absurd HA.out (by simp [spec_Variant_Frames.j1])
              | succ kj14 =>
                have H := HA.out
                clear HA
                simp only [spec_Variant_Frames.j1] at H
                by_cases c22 : a0_5 > 0
                · rw [if_pos c22] at H
                  have c22b0 : decide (0 < a0_5) = true := decide_eq_true c22
                  clear c22
                  replace H := Option.bind_eq_some_iff.mp H
                  obtain ⟨t157, A230, H⟩ := H
                  replace H : (if 12 + t157.size ≤ 9223372036854775807 then (if x3_14.size + ((⟨#[44, 82, 69, 83, 79, 76, 85, 84, 73, 79, 78, 61]⟩ : ByteArray) ++ t157).size ≤ 9223372036854775807 then (if a0_8.toList = ([] : List UInt8) then (if (x3_14 ++ ((⟨#[44, 82, 69, 83, 79, 76, 85, 84, 73, 79, 78, 61]⟩ : ByteArray) ++ t157)).size + 6 ≤ 9223372036854775807 then (if ((x3_14 ++ ((⟨#[44, 82, 69, 83, 79, 76, 85, 84, 73, 79, 78, 61]⟩ : ByteArray) ++ t157)) ++ (⟨#[44, 85, 82, 73, 61, 34]⟩ : ByteArray)).size + a0_0.size ≤ 9223372036854775807 then (if (((x3_14 ++ ((⟨#[44, 82, 69, 83, 79, 76, 85, 84, 73, 79, 78, 61]⟩ : ByteArray) ++ t157)) ++ (⟨#[44, 85, 82, 73, 61, 34]⟩ : ByteArray)) ++ a0_0).size + 2 ≤ 9223372036854775807 then (some ((((x3_14 ++ ((⟨#[44, 82, 69, 83, 79, 76, 85, 84, 73, 79, 78, 61]⟩ : ByteArray) ++ t157)) ++ (⟨#[44, 85, 82, 73, 61, 34]⟩ : ByteArray)) ++ a0_0) ++ (⟨#[34, 10]⟩ : ByteArray))) else (none)) else (none)) else (none)) else (if 8 + a0_8.size ≤ 9223372036854775807 then (if ((⟨#[44, 86, 73, 68, 69, 79, 61, 34]⟩ : ByteArray) ++ a0_8).size + 1 ≤ 9223372036854775807 then (if (x3_14 ++ ((⟨#[44, 82, 69, 83, 79, 76, 85, 84, 73, 79, 78, 61]⟩ : ByteArray) ++ t157)).size + (((⟨#[44, 86, 73, 68, 69, 79, 61, 34]⟩ : ByteArray) ++ a0_8) ++ (⟨#[34]⟩ : ByteArray)).size ≤ 9223372036854775807 then (if ((x3_14 ++ ((⟨#[44, 82, 69, 83, 79, 76, 85, 84, 73, 79, 78, 61]⟩ : ByteArray) ++ t157)) ++ (((⟨#[44, 86, 73, 68, 69, 79, 61, 34]⟩ : ByteArray) ++ a0_8) ++ (⟨#[34]⟩ : ByteArray))).size + 6 ≤ 9223372036854775807 then (if (((x3_14 ++ ((⟨#[44, 82, 69, 83, 79, 76, 85, 84, 73, 79, 78, 61]⟩ : ByteArray) ++ t157)) ++ (((⟨#[44, 86, 73, 68, 69, 79, 61, 34]⟩ : ByteArray) ++ a0_8) ++ (⟨#[34]⟩ : ByteArray))) ++ (⟨#[44, 85, 82, 73, 61, 34]⟩ : ByteArray)).size + a0_0.size ≤ 9223372036854775807 then (if ((((x3_14 ++ ((⟨#[44, 82, 69, 83, 79, 76, 85, 84, 73, 79, 78, 61]⟩ : ByteArray) ++ t157)) ++ (((⟨#[44, 86, 73, 68, 69, 79, 61, 34]⟩ : ByteArray) ++ a0_8) ++ (⟨#[34]⟩ : ByteArray))) ++ (⟨#[44, 85, 82, 73, 61, 34]⟩ : ByteArray)) ++ a0_0).size + 2 ≤ 9223372036854775807 then (some (((((x3_14 ++ ((⟨#[44, 82, 69, 83, 79, 76, 85, 84, 73, 79, 78, 61]⟩ : ByteArray) ++ t157)) ++ (((⟨#[44, 86, 73, 68, 69, 79, 61, 34]⟩ : ByteArray) ++ a0_8) ++ (⟨#[34]⟩ : ByteArray))) ++ (⟨#[44, 85, 82, 73, 61, 34]⟩ : ByteArray)) ++ a0_0) ++ (⟨#[34, 10]⟩ : ByteArray))) else (none)) else (none)) else (none)) else (none)) else (none)) else (none))) else (none)) else (none)) = some r := H
                  have A23 := Aside0.mk A230
                  clear A230
                  by_cases c24 : 12 + t157.size ≤ 9223372036854775807
                  · rw [if_pos c24] at H
                    have c24b0 := eq_true c24
                    have c24b1 : decide (12 + t157.size ≤ 9223372036854775807) = true := decide_eq_true c24
                    try have c24b2 : (9223372036854775807 < 12 + t157.size) = False := eq_false (Nat.not_lt.2 c24)
                    try (have c24b3 := c24; simp only [ByteArray.size_append, lit_size, List.length_cons, List.length_nil, Nat.zero_add, Nat.reduceAdd] at c24b3)
                    by_cases c25 : x3_14.size + ((⟨#[44, 82, 69, 83, 79, 76, 85, 84, 73, 79, 78, 61]⟩ : ByteArray) ++ t157).size ≤ 9223372036854775807
                    · rw [if_pos c25] at H
                      have c25b0 := eq_true c25
                      have c25b1 : decide (x3_14.size + ((⟨#[44, 82, 69, 83, 79, 76, 85, 84, 73, 79, 78, 61]⟩ : ByteArray) ++ t157).size ≤ 9223372036854775807) = true := decide_eq_true c25
                      try have c25b2 : (9223372036854775807 < x3_14.size + ((⟨#[44, 82, 69, 83, 79, 76, 85, 84, 73, 79, 78, 61]⟩ : ByteArray) ++ t157).size) = False := eq_false (Nat.not_lt.2 c25)
                      try (have c25b3 := c25; simp only [ByteArray.size_append, lit_size, List.length_cons, List.length_nil, Nat.zero_add, Nat.reduceAdd] at c25b3)
                      by_cases c26 : a0_8.toList = ([] : List UInt8)
                      · rw [if_pos c26] at H
                        have c26b0 : (a0_8.toList == ([] : List UInt8)) = true := beq_iff_eq.mpr c26
                        have c26b1 : (a0_8.toList != ([] : List UInt8)) = false := bne_eq_false_iff_eq.mpr c26
                        (try (have c26b2 : a0_8.toList.isEmpty = true := by simpa using c26))
                        (try (have c26b3 : (!a0_8.toList.isEmpty) = false := by simpa using c26))
                        clear c26
                        by_cases c27 : (x3_14 ++ ((⟨#[44, 82, 69, 83, 79, 76, 85, 84, 73, 79, 78, 61]⟩ : ByteArray) ++ t157)).size + 6 ≤ 9223372036854775807
                        · rw [if_pos c27] at H
                          have c27b0 := eq_true c27
                          have c27b1 : decide ((x3_14 ++ ((⟨#[44, 82, 69, 83, 79, 76, 85, 84, 73, 79, 78, 61]⟩ : ByteArray) ++ t157)).size + 6 ≤ 9223372036854775807) = true := decide_eq_true c27
                          try have c27b2 : (9223372036854775807 < (x3_14 ++ ((⟨#[44, 82, 69, 83, 79, 76, 85, 84, 73, 79, 78, 61]⟩ : ByteArray) ++ t157)).size + 6) = False := eq_false (Nat.not_lt.2 c27)
                          try (have c27b3 := c27; simp only [ByteArray.size_append, lit_size, List.length_cons, List.length_nil, Nat.zero_add, Nat.reduceAdd] at c27b3)
                          by_cases c28 : ((x3_14 ++ ((⟨#[44, 82, 69, 83, 79, 76, 85, 84, 73, 79, 78, 61]⟩ : ByteArray) ++ t157)) ++ (⟨#[44, 85, 82, 73, 61, 34]⟩ : ByteArray)).size + a0_0.size ≤ 9223372036854775807
                          · rw [if_pos c28] at H
                            have c28b0 := eq_true c28
                            have c28b1 : decide (((x3_14 ++ ((⟨#[44, 82, 69, 83, 79, 76, 85, 84, 73, 79, 78, 61]⟩ : ByteArray) ++ t157)) ++ (⟨#[44, 85, 82, 73, 61, 34]⟩ : ByteArray)).size + a0_0.size ≤ 9223372036854775807) = true := decide_eq_true c28
                            try have c28b2 : (9223372036854775807 < ((x3_14 ++ ((⟨#[44, 82, 69, 83, 79, 76, 85, 84, 73, 79, 78, 61]⟩ : ByteArray) ++ t157)) ++ (⟨#[44, 85, 82, 73, 61, 34]⟩ : ByteArray)).size + a0_0.size) = False := eq_false (Nat.not_lt.2 c28)
                            try (have c28b3 := c28; simp only [ByteArray.size_append, lit_size, List.length_cons, List.length_nil, Nat.zero_add, Nat.reduceAdd] at c28b3)
                            by_cases c29 : (((x3_14 ++ ((⟨#[44, 82, 69, 83, 79, 76, 85, 84, 73, 79, 78, 61]⟩ : ByteArray) ++ t157)) ++ (⟨#[44, 85, 82, 73, 61, 34]⟩ : ByteArray)) ++ a0_0).size + 2 ≤ 9223372036854775807
                            · rw [if_pos c29] at H
                              have c29b0 := eq_true c29
                              have c29b1 : decide ((((x3_14 ++ ((⟨#[44, 82, 69, 83, 79, 76, 85, 84, 73, 79, 78, 61]⟩ : ByteArray) ++ t157)) ++ (⟨#[44, 85, 82, 73, 61, 34]⟩ : ByteArray)) ++ a0_0).size + 2 ≤ 9223372036854775807) = true := decide_eq_true c29
                              try have c29b2 : (9223372036854775807 < (((x3_14 ++ ((⟨#[44, 82, 69, 83, 79, 76, 85, 84, 73, 79, 78, 61]⟩ : ByteArray) ++ t157)) ++ (⟨#[44, 85, 82, 73, 61, 34]⟩ : ByteArray)) ++ a0_0).size + 2) = False := eq_false (Nat.not_lt.2 c29)
                              try (have c29b3 := c29; simp only [ByteArray.size_append, lit_size, List.length_cons, List.length_nil, Nat.zero_add, Nat.reduceAdd] at c29b3)
                              obtain rfl := Option.some.inj H
                              have hcz30_0 : wc.cell? ⟨gb153, 0, none⟩ = some (.string a0_0) := (blk_cell BK153.out 0).trans rfl
                              have hcz30_1 : wc.cell? ⟨gb153, 1, none⟩ = some (.int .u32 a0_1) := (blk_cell BK153.out 1).trans rfl
                              have hcz30_2 : wc.cell? ⟨gb153, 2, none⟩ = some (.int .u32 a0_2) := (blk_cell BK153.out 2).trans rfl
                              have hcz30_3 : wc.cell? ⟨gb153, 3, none⟩ = some (.int .u32 a0_3) := (blk_cell BK153.out 3).trans rfl
                              have hcz30_4 : wc.cell? ⟨gb153, 4, none⟩ = some (.string a0_4) := (blk_cell BK153.out 4).trans rfl
                              have hcz30_5 : wc.cell? ⟨gb153, 5, none⟩ = some (.int .u32 a0_5) := (blk_cell BK153.out 5).trans rfl
                              have hcz30_6 : wc.cell? ⟨gb153, 6, none⟩ = some (.int .u32 a0_6) := (blk_cell BK153.out 6).trans rfl
                              have hcz30_7 : wc.cell? ⟨gb153, 7, none⟩ = some (.string a0_7) := (blk_cell BK153.out 7).trans rfl
                              have hcz30_8 : wc.cell? ⟨gb153, 8, none⟩ = some (.string a0_8) := (blk_cell BK153.out 8).trans rfl
                              have hcz30_9 : wc.cell? ⟨gb153, 9, none⟩ = some (.string a0_9) := (blk_cell BK153.out 9).trans rfl
                              have hcz30_10 : wc.cell? ⟨gb153, 10, none⟩ = some (.string a0_10) := (blk_cell BK153.out 10).trans rfl
                              have hcz30_11 : wc.cell? ⟨gb153, 11, none⟩ = some (.string a0_11) := (blk_cell BK153.out 11).trans rfl
                              have hcz30_12 : wc.cell? ⟨gb153, 12, none⟩ = some (.int .i64 a0_12) := (blk_cell BK153.out 12).trans rfl
                              have hfz30_0 := blk_frozen BK153.out 0
                              have hfz30_1 := blk_frozen BK153.out 1
                              have hfz30_2 := blk_frozen BK153.out 2
                              have hfz30_3 := blk_frozen BK153.out 3
                              have hfz30_4 := blk_frozen BK153.out 4
                              have hfz30_5 := blk_frozen BK153.out 5
                              have hfz30_6 := blk_frozen BK153.out 6
                              have hfz30_7 := blk_frozen BK153.out 7
                              have hfz30_8 := blk_frozen BK153.out 8
                              have hfz30_9 := blk_frozen BK153.out 9
                              have hfz30_10 := blk_frozen BK153.out 10
                              have hfz30_11 := blk_frozen BK153.out 11
                              have hfz30_12 := blk_frozen BK153.out 12
                              go_wp2_with (first | (go_at_call 25; (with_reducible refine (spec_Variant_Resolution.calls kj14 a0_0 a0_1 a0_2 a0_3 a0_4 a0_5 a0_6 a0_7 a0_8 a0_9 a0_10 a0_11 a0_12 t157 _ A23.out).mono ?_); rintro e w31 ⟨rfl, hb⟩; have n0_ := Aside0.mk (blk_below (g := gb153) (o := .cells #[.string a0_0, .int .u32 a0_1, .int .u32 a0_2, .int .u32 a0_3, .string a0_4, .int .u32 a0_5, .int .u32 a0_6, .string a0_7, .string a0_8, .string a0_9, .string a0_10, .string a0_11, .int .i64 a0_12] 44 (0, 0)) (by (with_reducible repeat (first | refine blk_drewN ?_ _ | refine blk_drew ?_ | refine blk_alloc ?_ _)); exact BK153.out) hb); have n1_ := Aside0.mk (below_step (by repeat (first | (with_reducible first | exact HB.out | apply below_alloc | apply pw_below_drewN | apply below_drew1 | refine below_set ?_ GE153.out) | exact HB.out)) hb); clear BK153; clear HB; have BK153 := n0_; have HB := n1_; clear n0_ n1_; (try clear hb); (try clear hb2); (try clear hk); (try clear hi); have hcz32_0 : w31.cell? ⟨gb153, 0, none⟩ = some (.string a0_0) := (blk_cell BK153.out 0).trans rfl; have hcz32_1 : w31.cell? ⟨gb153, 1, none⟩ = some (.int .u32 a0_1) := (blk_cell BK153.out 1).trans rfl; have hcz32_2 : w31.cell? ⟨gb153, 2, none⟩ = some (.int .u32 a0_2) := (blk_cell BK153.out 2).trans rfl; have hcz32_3 : w31.cell? ⟨gb153, 3, none⟩ = some (.int .u32 a0_3) := (blk_cell BK153.out 3).trans rfl; have hcz32_4 : w31.cell? ⟨gb153, 4, none⟩ = some (.string a0_4) := (blk_cell BK153.out 4).trans rfl; have hcz32_5 : w31.cell? ⟨gb153, 5, none⟩ = some (.int .u32 a0_5) := (blk_cell BK153.out 5).trans rfl; have hcz32_6 : w31.cell? ⟨gb153, 6, none⟩ = some (.int .u32 a0_6) := (blk_cell BK153.out 6).trans rfl; have hcz32_7 : w31.cell? ⟨gb153, 7, none⟩ = some (.string a0_7) := (blk_cell BK153.out 7).trans rfl; have hcz32_8 : w31.cell? ⟨gb153, 8, none⟩ = some (.string a0_8) := (blk_cell BK153.out 8).trans rfl; have hcz32_9 : w31.cell? ⟨gb153, 9, none⟩ = some (.string a0_9) := (blk_cell BK153.out 9).trans rfl; have hcz32_10 : w31.cell? ⟨gb153, 10, none⟩ = some (.string a0_10) := (blk_cell BK153.out 10).trans rfl; have hcz32_11 : w31.cell? ⟨gb153, 11, none⟩ = some (.string a0_11) := (blk_cell BK153.out 11).trans rfl; have hcz32_12 : w31.cell? ⟨gb153, 12, none⟩ = some (.int .i64 a0_12) := (blk_cell BK153.out 12).trans rfl; have hfz32_0 := blk_frozen BK153.out 0; have hfz32_1 := blk_frozen BK153.out 1; have hfz32_2 := blk_frozen BK153.out 2; have hfz32_3 := blk_frozen BK153.out 3; have hfz32_4 := blk_frozen BK153.out 4; have hfz32_5 := blk_frozen BK153.out 5; have hfz32_6 := blk_frozen BK153.out 6; have hfz32_7 := blk_frozen BK153.out 7; have hfz32_8 := blk_frozen BK153.out 8; have hfz32_9 := blk_frozen BK153.out 9; have hfz32_10 := blk_frozen BK153.out 10; have hfz32_11 := blk_frozen BK153.out 11; have hfz32_12 := blk_frozen BK153.out 12))
                              repeat (go_quiet (first | (go_at_call 25; (with_reducible refine (spec_Variant_Resolution.calls kj14 a0_0 a0_1 a0_2 a0_3 a0_4 a0_5 a0_6 a0_7 a0_8 a0_9 a0_10 a0_11 a0_12 t157 _ A23.out).mono ?_); rintro e w31 ⟨rfl, hb⟩; have n0_ := Aside0.mk (blk_below (g := gb153) (o := .cells #[.string a0_0, .int .u32 a0_1, .int .u32 a0_2, .int .u32 a0_3, .string a0_4, .int .u32 a0_5, .int .u32 a0_6, .string a0_7, .string a0_8, .string a0_9, .string a0_10, .string a0_11, .int .i64 a0_12] 44 (0, 0)) (by (with_reducible repeat (first | refine blk_drewN ?_ _ | refine blk_drew ?_ | refine blk_alloc ?_ _)); exact BK153.out) hb); have n1_ := Aside0.mk (below_step (by repeat (first | (with_reducible first | exact HB.out | apply below_alloc | apply pw_below_drewN | apply below_drew1 | refine below_set ?_ GE153.out) | exact HB.out)) hb); clear BK153; clear HB; have BK153 := n0_; have HB := n1_; clear n0_ n1_; (try clear hb); (try clear hb2); (try clear hk); (try clear hi); have hcz32_0 : w31.cell? ⟨gb153, 0, none⟩ = some (.string a0_0) := (blk_cell BK153.out 0).trans rfl; have hcz32_1 : w31.cell? ⟨gb153, 1, none⟩ = some (.int .u32 a0_1) := (blk_cell BK153.out 1).trans rfl; have hcz32_2 : w31.cell? ⟨gb153, 2, none⟩ = some (.int .u32 a0_2) := (blk_cell BK153.out 2).trans rfl; have hcz32_3 : w31.cell? ⟨gb153, 3, none⟩ = some (.int .u32 a0_3) := (blk_cell BK153.out 3).trans rfl; have hcz32_4 : w31.cell? ⟨gb153, 4, none⟩ = some (.string a0_4) := (blk_cell BK153.out 4).trans rfl; have hcz32_5 : w31.cell? ⟨gb153, 5, none⟩ = some (.int .u32 a0_5) := (blk_cell BK153.out 5).trans rfl; have hcz32_6 : w31.cell? ⟨gb153, 6, none⟩ = some (.int .u32 a0_6) := (blk_cell BK153.out 6).trans rfl; have hcz32_7 : w31.cell? ⟨gb153, 7, none⟩ = some (.string a0_7) := (blk_cell BK153.out 7).trans rfl; have hcz32_8 : w31.cell? ⟨gb153, 8, none⟩ = some (.string a0_8) := (blk_cell BK153.out 8).trans rfl; have hcz32_9 : w31.cell? ⟨gb153, 9, none⟩ = some (.string a0_9) := (blk_cell BK153.out 9).trans rfl; have hcz32_10 : w31.cell? ⟨gb153, 10, none⟩ = some (.string a0_10) := (blk_cell BK153.out 10).trans rfl; have hcz32_11 : w31.cell? ⟨gb153, 11, none⟩ = some (.string a0_11) := (blk_cell BK153.out 11).trans rfl; have hcz32_12 : w31.cell? ⟨gb153, 12, none⟩ = some (.int .i64 a0_12) := (blk_cell BK153.out 12).trans rfl; have hfz32_0 := blk_frozen BK153.out 0; have hfz32_1 := blk_frozen BK153.out 1; have hfz32_2 := blk_frozen BK153.out 2; have hfz32_3 := blk_frozen BK153.out 3; have hfz32_4 := blk_frozen BK153.out 4; have hfz32_5 := blk_frozen BK153.out 5; have hfz32_6 := blk_frozen BK153.out 6; have hfz32_7 := blk_frozen BK153.out 7; have hfz32_8 := blk_frozen BK153.out 8; have hfz32_9 := blk_frozen BK153.out 9; have hfz32_10 := blk_frozen BK153.out 10; have hfz32_11 := blk_frozen BK153.out 11; have hfz32_12 := blk_frozen BK153.out 12)); try go_wp2_with (first | (go_at_call 25; (with_reducible refine (spec_Variant_Resolution.calls kj14 a0_0 a0_1 a0_2 a0_3 a0_4 a0_5 a0_6 a0_7 a0_8 a0_9 a0_10 a0_11 a0_12 t157 _ A23.out).mono ?_); rintro e w31 ⟨rfl, hb⟩; have n0_ := Aside0.mk (blk_below (g := gb153) (o := .cells #[.string a0_0, .int .u32 a0_1, .int .u32 a0_2, .int .u32 a0_3, .string a0_4, .int .u32 a0_5, .int .u32 a0_6, .string a0_7, .string a0_8, .string a0_9, .string a0_10, .string a0_11, .int .i64 a0_12] 44 (0, 0)) (by (with_reducible repeat (first | refine blk_drewN ?_ _ | refine blk_drew ?_ | refine blk_alloc ?_ _)); exact BK153.out) hb); have n1_ := Aside0.mk (below_step (by repeat (first | (with_reducible first | exact HB.out | apply below_alloc | apply pw_below_drewN | apply below_drew1 | refine below_set ?_ GE153.out) | exact HB.out)) hb); clear BK153; clear HB; have BK153 := n0_; have HB := n1_; clear n0_ n1_; (try clear hb); (try clear hb2); (try clear hk); (try clear hi); have hcz32_0 : w31.cell? ⟨gb153, 0, none⟩ = some (.string a0_0) := (blk_cell BK153.out 0).trans rfl; have hcz32_1 : w31.cell? ⟨gb153, 1, none⟩ = some (.int .u32 a0_1) := (blk_cell BK153.out 1).trans rfl; have hcz32_2 : w31.cell? ⟨gb153, 2, none⟩ = some (.int .u32 a0_2) := (blk_cell BK153.out 2).trans rfl; have hcz32_3 : w31.cell? ⟨gb153, 3, none⟩ = some (.int .u32 a0_3) := (blk_cell BK153.out 3).trans rfl; have hcz32_4 : w31.cell? ⟨gb153, 4, none⟩ = some (.string a0_4) := (blk_cell BK153.out 4).trans rfl; have hcz32_5 : w31.cell? ⟨gb153, 5, none⟩ = some (.int .u32 a0_5) := (blk_cell BK153.out 5).trans rfl; have hcz32_6 : w31.cell? ⟨gb153, 6, none⟩ = some (.int .u32 a0_6) := (blk_cell BK153.out 6).trans rfl; have hcz32_7 : w31.cell? ⟨gb153, 7, none⟩ = some (.string a0_7) := (blk_cell BK153.out 7).trans rfl; have hcz32_8 : w31.cell? ⟨gb153, 8, none⟩ = some (.string a0_8) := (blk_cell BK153.out 8).trans rfl; have hcz32_9 : w31.cell? ⟨gb153, 9, none⟩ = some (.string a0_9) := (blk_cell BK153.out 9).trans rfl; have hcz32_10 : w31.cell? ⟨gb153, 10, none⟩ = some (.string a0_10) := (blk_cell BK153.out 10).trans rfl; have hcz32_11 : w31.cell? ⟨gb153, 11, none⟩ = some (.string a0_11) := (blk_cell BK153.out 11).trans rfl; have hcz32_12 : w31.cell? ⟨gb153, 12, none⟩ = some (.int .i64 a0_12) := (blk_cell BK153.out 12).trans rfl; have hfz32_0 := blk_frozen BK153.out 0; have hfz32_1 := blk_frozen BK153.out 1; have hfz32_2 := blk_frozen BK153.out 2; have hfz32_3 := blk_frozen BK153.out 3; have hfz32_4 := blk_frozen BK153.out 4; have hfz32_5 := blk_frozen BK153.out 5; have hfz32_6 := blk_frozen BK153.out 6; have hfz32_7 := blk_frozen BK153.out 7; have hfz32_8 := blk_frozen BK153.out 8; have hfz32_9 := blk_frozen BK153.out 9; have hfz32_10 := blk_frozen BK153.out 10; have hfz32_11 := blk_frozen BK153.out 11; have hfz32_12 := blk_frozen BK153.out 12)))
                              go_ret
                              exact ⟨by first | rfl | (simp [errW_none, errW_some] <;> rfl) | (simp [*, errW_none, errW_some] <;> rfl), by repeat (first | (with_reducible first | exact HB.out | apply below_alloc | apply pw_below_drewN | apply below_drew1 | refine below_set ?_ GE153.out) | exact HB.out)⟩
                            · rw [if_neg c29] at H
                              exact absurd H (by simp)
                          · rw [if_neg c28] at H
                            exact absurd H (by simp)
                        · rw [if_neg c27] at H
                          exact absurd H (by simp)
                      · rw [if_neg c26] at H
                        have c26b0 : (a0_8.toList == ([] : List UInt8)) = false := beq_eq_false_iff_ne.mpr c26
                        have c26b1 : (a0_8.toList != ([] : List UInt8)) = true := bne_iff_ne.mpr c26
                        (try (have c26b2 : a0_8.toList.isEmpty = false := by simpa using c26))
                        (try (have c26b3 : (!a0_8.toList.isEmpty) = true := by simpa using c26))
                        by_cases c33 : 8 + a0_8.size ≤ 9223372036854775807
                        · rw [if_pos c33] at H
                          have c33b0 := eq_true c33
                          have c33b1 : decide (8 + a0_8.size ≤ 9223372036854775807) = true := decide_eq_true c33
                          try have c33b2 : (9223372036854775807 < 8 + a0_8.size) = False := eq_false (Nat.not_lt.2 c33)
                          try (have c33b3 := c33; simp only [ByteArray.size_append, lit_size, List.length_cons, List.length_nil, Nat.zero_add, Nat.reduceAdd] at c33b3)
                          by_cases c34 : ((⟨#[44, 86, 73, 68, 69, 79, 61, 34]⟩ : ByteArray) ++ a0_8).size + 1 ≤ 9223372036854775807
                          · rw [if_pos c34] at H
                            have c34b0 := eq_true c34
                            have c34b1 : decide (((⟨#[44, 86, 73, 68, 69, 79, 61, 34]⟩ : ByteArray) ++ a0_8).size + 1 ≤ 9223372036854775807) = true := decide_eq_true c34
                            try have c34b2 : (9223372036854775807 < ((⟨#[44, 86, 73, 68, 69, 79, 61, 34]⟩ : ByteArray) ++ a0_8).size + 1) = False := eq_false (Nat.not_lt.2 c34)
                            try (have c34b3 := c34; simp only [ByteArray.size_append, lit_size, List.length_cons, List.length_nil, Nat.zero_add, Nat.reduceAdd] at c34b3)
                            by_cases c35 : (x3_14 ++ ((⟨#[44, 82, 69, 83, 79, 76, 85, 84, 73, 79, 78, 61]⟩ : ByteArray) ++ t157)).size + (((⟨#[44, 86, 73, 68, 69, 79, 61, 34]⟩ : ByteArray) ++ a0_8) ++ (⟨#[34]⟩ : ByteArray)).size ≤ 9223372036854775807
                            · rw [if_pos c35] at H
                              have c35b0 := eq_true c35
                              have c35b1 : decide ((x3_14 ++ ((⟨#[44, 82, 69, 83, 79, 76, 85, 84, 73, 79, 78, 61]⟩ : ByteArray) ++ t157)).size + (((⟨#[44, 86, 73, 68, 69, 79, 61, 34]⟩ : ByteArray) ++ a0_8) ++ (⟨#[34]⟩ : ByteArray)).size ≤ 9223372036854775807) = true := decide_eq_true c35
                              try have c35b2 : (9223372036854775807 < (x3_14 ++ ((⟨#[44, 82, 69, 83, 79, 76, 85, 84, 73, 79, 78, 61]⟩ : ByteArray) ++ t157)).size + (((⟨#[44, 86, 73, 68, 69, 79, 61, 34]⟩ : ByteArray) ++ a0_8) ++ (⟨#[34]⟩ : ByteArray)).size) = False := eq_false (Nat.not_lt.2 c35)
                              try (have c35b3 := c35; simp only [ByteArray.size_append, lit_size, List.length_cons, List.length_nil, Nat.zero_add, Nat.reduceAdd] at c35b3)
                              by_cases c36 : ((x3_14 ++ ((⟨#[44, 82, 69, 83, 79, 76, 85, 84, 73, 79, 78, 61]⟩ : ByteArray) ++ t157)) ++ (((⟨#[44, 86, 73, 68, 69, 79, 61, 34]⟩ : ByteArray) ++ a0_8) ++ (⟨#[34]⟩ : ByteArray))).size + 6 ≤ 9223372036854775807
                              · rw [if_pos c36] at H
                                have c36b0 := eq_true c36
                                have c36b1 : decide (((x3_14 ++ ((⟨#[44, 82, 69, 83, 79, 76, 85, 84, 73, 79, 78, 61]⟩ : ByteArray) ++ t157)) ++ (((⟨#[44, 86, 73, 68, 69, 79, 61, 34]⟩ : ByteArray) ++ a0_8) ++ (⟨#[34]⟩ : ByteArray))).size + 6 ≤ 9223372036854775807) = true := decide_eq_true c36
                                try have c36b2 : (9223372036854775807 < ((x3_14 ++ ((⟨#[44, 82, 69, 83, 79, 76, 85, 84, 73, 79, 78, 61]⟩ : ByteArray) ++ t157)) ++ (((⟨#[44, 86, 73, 68, 69, 79, 61, 34]⟩ : ByteArray) ++ a0_8) ++ (⟨#[34]⟩ : ByteArray))).size + 6) = False := eq_false (Nat.not_lt.2 c36)
                                try (have c36b3 := c36; simp only [ByteArray.size_append, lit_size, List.length_cons, List.length_nil, Nat.zero_add, Nat.reduceAdd] at c36b3)
                                by_cases c37 : (((x3_14 ++ ((⟨#[44, 82, 69, 83, 79, 76, 85, 84, 73, 79, 78, 61]⟩ : ByteArray) ++ t157)) ++ (((⟨#[44, 86, 73, 68, 69, 79, 61, 34]⟩ : ByteArray) ++ a0_8) ++ (⟨#[34]⟩ : ByteArray))) ++ (⟨#[44, 85, 82, 73, 61, 34]⟩ : ByteArray)).size + a0_0.size ≤ 9223372036854775807
                                · rw [if_pos c37] at H
                                  have c37b0 := eq_true c37
                                  have c37b1 : decide ((((x3_14 ++ ((⟨#[44, 82, 69, 83, 79, 76, 85, 84, 73, 79, 78, 61]⟩ : ByteArray) ++ t157)) ++ (((⟨#[44, 86, 73, 68, 69, 79, 61, 34]⟩ : ByteArray) ++ a0_8) ++ (⟨#[34]⟩ : ByteArray))) ++ (⟨#[44, 85, 82, 73, 61, 34]⟩ : ByteArray)).size + a0_0.size ≤ 9223372036854775807) = true := decide_eq_true c37
                                  try have c37b2 : (9223372036854775807 < (((x3_14 ++ ((⟨#[44, 82, 69, 83, 79, 76, 85, 84, 73, 79, 78, 61]⟩ : ByteArray) ++ t157)) ++ (((⟨#[44, 86, 73, 68, 69, 79, 61, 34]⟩ : ByteArray) ++ a0_8) ++ (⟨#[34]⟩ : ByteArray))) ++ (⟨#[44, 85, 82, 73, 61, 34]⟩ : ByteArray)).size + a0_0.size) = False := eq_false (Nat.not_lt.2 c37)
                                  try (have c37b3 := c37; simp only [ByteArray.size_append, lit_size, List.length_cons, List.length_nil, Nat.zero_add, Nat.reduceAdd] at c37b3)
                                  by_cases c38 : ((((x3_14 ++ ((⟨#[44, 82, 69, 83, 79, 76, 85, 84, 73, 79, 78, 61]⟩ : ByteArray) ++ t157)) ++ (((⟨#[44, 86, 73, 68, 69, 79, 61, 34]⟩ : ByteArray) ++ a0_8) ++ (⟨#[34]⟩ : ByteArray))) ++ (⟨#[44, 85, 82, 73, 61, 34]⟩ : ByteArray)) ++ a0_0).size + 2 ≤ 9223372036854775807
                                  · rw [if_pos c38] at H
                                    have c38b0 := eq_true c38
                                    have c38b1 : decide (((((x3_14 ++ ((⟨#[44, 82, 69, 83, 79, 76, 85, 84, 73, 79, 78, 61]⟩ : ByteArray) ++ t157)) ++ (((⟨#[44, 86, 73, 68, 69, 79, 61, 34]⟩ : ByteArray) ++ a0_8) ++ (⟨#[34]⟩ : ByteArray))) ++ (⟨#[44, 85, 82, 73, 61, 34]⟩ : ByteArray)) ++ a0_0).size + 2 ≤ 9223372036854775807) = true := decide_eq_true c38
                                    try have c38b2 : (9223372036854775807 < ((((x3_14 ++ ((⟨#[44, 82, 69, 83, 79, 76, 85, 84, 73, 79, 78, 61]⟩ : ByteArray) ++ t157)) ++ (((⟨#[44, 86, 73, 68, 69, 79, 61, 34]⟩ : ByteArray) ++ a0_8) ++ (⟨#[34]⟩ : ByteArray))) ++ (⟨#[44, 85, 82, 73, 61, 34]⟩ : ByteArray)) ++ a0_0).size + 2) = False := eq_false (Nat.not_lt.2 c38)
                                    try (have c38b3 := c38; simp only [ByteArray.size_append, lit_size, List.length_cons, List.length_nil, Nat.zero_add, Nat.reduceAdd] at c38b3)
                                    obtain rfl := Option.some.inj H
                                    have hcz39_0 : wc.cell? ⟨gb153, 0, none⟩ = some (.string a0_0) := (blk_cell BK153.out 0).trans rfl
                                    have hcz39_1 : wc.cell? ⟨gb153, 1, none⟩ = some (.int .u32 a0_1) := (blk_cell BK153.out 1).trans rfl
                                    have hcz39_2 : wc.cell? ⟨gb153, 2, none⟩ = some (.int .u32 a0_2) := (blk_cell BK153.out 2).trans rfl
                                    have hcz39_3 : wc.cell? ⟨gb153, 3, none⟩ = some (.int .u32 a0_3) := (blk_cell BK153.out 3).trans rfl
                                    have hcz39_4 : wc.cell? ⟨gb153, 4, none⟩ = some (.string a0_4) := (blk_cell BK153.out 4).trans rfl
                                    have hcz39_5 : wc.cell? ⟨gb153, 5, none⟩ = some (.int .u32 a0_5) := (blk_cell BK153.out 5).trans rfl
                                    have hcz39_6 : wc.cell? ⟨gb153, 6, none⟩ = some (.int .u32 a0_6) := (blk_cell BK153.out 6).trans rfl
                                    have hcz39_7 : wc.cell? ⟨gb153, 7, none⟩ = some (.string a0_7) := (blk_cell BK153.out 7).trans rfl
                                    have hcz39_8 : wc.cell? ⟨gb153, 8, none⟩ = some (.string a0_8) := (blk_cell BK153.out 8).trans rfl
                                    have hcz39_9 : wc.cell? ⟨gb153, 9, none⟩ = some (.string a0_9) := (blk_cell BK153.out 9).trans rfl
                                    have hcz39_10 : wc.cell? ⟨gb153, 10, none⟩ = some (.string a0_10) := (blk_cell BK153.out 10).trans rfl
                                    have hcz39_11 : wc.cell? ⟨gb153, 11, none⟩ = some (.string a0_11) := (blk_cell BK153.out 11).trans rfl
                                    have hcz39_12 : wc.cell? ⟨gb153, 12, none⟩ = some (.int .i64 a0_12) := (blk_cell BK153.out 12).trans rfl
                                    have hfz39_0 := blk_frozen BK153.out 0
                                    have hfz39_1 := blk_frozen BK153.out 1
                                    have hfz39_2 := blk_frozen BK153.out 2
                                    have hfz39_3 := blk_frozen BK153.out 3
                                    have hfz39_4 := blk_frozen BK153.out 4
                                    have hfz39_5 := blk_frozen BK153.out 5
                                    have hfz39_6 := blk_frozen BK153.out 6
                                    have hfz39_7 := blk_frozen BK153.out 7
                                    have hfz39_8 := blk_frozen BK153.out 8
                                    have hfz39_9 := blk_frozen BK153.out 9
                                    have hfz39_10 := blk_frozen BK153.out 10
                                    have hfz39_11 := blk_frozen BK153.out 11
                                    have hfz39_12 := blk_frozen BK153.out 12
                                    go_wp2_with (first | (go_at_call 25; (with_reducible refine (spec_Variant_Resolution.calls kj14 a0_0 a0_1 a0_2 a0_3 a0_4 a0_5 a0_6 a0_7 a0_8 a0_9 a0_10 a0_11 a0_12 t157 _ A23.out).mono ?_); rintro e w40 ⟨rfl, hb⟩; have n0_ := Aside0.mk (blk_below (g := gb153) (o := .cells #[.string a0_0, .int .u32 a0_1, .int .u32 a0_2, .int .u32 a0_3, .string a0_4, .int .u32 a0_5, .int .u32 a0_6, .string a0_7, .string a0_8, .string a0_9, .string a0_10, .string a0_11, .int .i64 a0_12] 44 (0, 0)) (by (with_reducible repeat (first | refine blk_drewN ?_ _ | refine blk_drew ?_ | refine blk_alloc ?_ _)); exact BK153.out) hb); have n1_ := Aside0.mk (below_step (by repeat (first | (with_reducible first | exact HB.out | apply below_alloc | apply pw_below_drewN | apply below_drew1 | refine below_set ?_ GE153.out) | exact HB.out)) hb); clear BK153; clear HB; have BK153 := n0_; have HB := n1_; clear n0_ n1_; (try clear hb); (try clear hb2); (try clear hk); (try clear hi); have hcz41_0 : w40.cell? ⟨gb153, 0, none⟩ = some (.string a0_0) := (blk_cell BK153.out 0).trans rfl; have hcz41_1 : w40.cell? ⟨gb153, 1, none⟩ = some (.int .u32 a0_1) := (blk_cell BK153.out 1).trans rfl; have hcz41_2 : w40.cell? ⟨gb153, 2, none⟩ = some (.int .u32 a0_2) := (blk_cell BK153.out 2).trans rfl; have hcz41_3 : w40.cell? ⟨gb153, 3, none⟩ = some (.int .u32 a0_3) := (blk_cell BK153.out 3).trans rfl; have hcz41_4 : w40.cell? ⟨gb153, 4, none⟩ = some (.string a0_4) := (blk_cell BK153.out 4).trans rfl; have hcz41_5 : w40.cell? ⟨gb153, 5, none⟩ = some (.int .u32 a0_5) := (blk_cell BK153.out 5).trans rfl; have hcz41_6 : w40.cell? ⟨gb153, 6, none⟩ = some (.int .u32 a0_6) := (blk_cell BK153.out 6).trans rfl; have hcz41_7 : w40.cell? ⟨gb153, 7, none⟩ = some (.string a0_7) := (blk_cell BK153.out 7).trans rfl; have hcz41_8 : w40.cell? ⟨gb153, 8, none⟩ = some (.string a0_8) := (blk_cell BK153.out 8).trans rfl; have hcz41_9 : w40.cell? ⟨gb153, 9, none⟩ = some (.string a0_9) := (blk_cell BK153.out 9).trans rfl; have hcz41_10 : w40.cell? ⟨gb153, 10, none⟩ = some (.string a0_10) := (blk_cell BK153.out 10).trans rfl; have hcz41_11 : w40.cell? ⟨gb153, 11, none⟩ = some (.string a0_11) := (blk_cell BK153.out 11).trans rfl; have hcz41_12 : w40.cell? ⟨gb153, 12, none⟩ = some (.int .i64 a0_12) := (blk_cell BK153.out 12).trans rfl; have hfz41_0 := blk_frozen BK153.out 0; have hfz41_1 := blk_frozen BK153.out 1; have hfz41_2 := blk_frozen BK153.out 2; have hfz41_3 := blk_frozen BK153.out 3; have hfz41_4 := blk_frozen BK153.out 4; have hfz41_5 := blk_frozen BK153.out 5; have hfz41_6 := blk_frozen BK153.out 6; have hfz41_7 := blk_frozen BK153.out 7; have hfz41_8 := blk_frozen BK153.out 8; have hfz41_9 := blk_frozen BK153.out 9; have hfz41_10 := blk_frozen BK153.out 10; have hfz41_11 := blk_frozen BK153.out 11; have hfz41_12 := blk_frozen BK153.out 12))
                                    repeat (go_quiet (first | (go_at_call 25; (with_reducible refine (spec_Variant_Resolution.calls kj14 a0_0 a0_1 a0_2 a0_3 a0_4 a0_5 a0_6 a0_7 a0_8 a0_9 a0_10 a0_11 a0_12 t157 _ A23.out).mono ?_); rintro e w40 ⟨rfl, hb⟩; have n0_ := Aside0.mk (blk_below (g := gb153) (o := .cells #[.string a0_0, .int .u32 a0_1, .int .u32 a0_2, .int .u32 a0_3, .string a0_4, .int .u32 a0_5, .int .u32 a0_6, .string a0_7, .string a0_8, .string a0_9, .string a0_10, .string a0_11, .int .i64 a0_12] 44 (0, 0)) (by (with_reducible repeat (first | refine blk_drewN ?_ _ | refine blk_drew ?_ | refine blk_alloc ?_ _)); exact BK153.out) hb); have n1_ := Aside0.mk (below_step (by repeat (first | (with_reducible first | exact HB.out | apply below_alloc | apply pw_below_drewN | apply below_drew1 | refine below_set ?_ GE153.out) | exact HB.out)) hb); clear BK153; clear HB; have BK153 := n0_; have HB := n1_; clear n0_ n1_; (try clear hb); (try clear hb2); (try clear hk); (try clear hi); have hcz41_0 : w40.cell? ⟨gb153, 0, none⟩ = some (.string a0_0) := (blk_cell BK153.out 0).trans rfl; have hcz41_1 : w40.cell? ⟨gb153, 1, none⟩ = some (.int .u32 a0_1) := (blk_cell BK153.out 1).trans rfl; have hcz41_2 : w40.cell? ⟨gb153, 2, none⟩ = some (.int .u32 a0_2) := (blk_cell BK153.out 2).trans rfl; have hcz41_3 : w40.cell? ⟨gb153, 3, none⟩ = some (.int .u32 a0_3) := (blk_cell BK153.out 3).trans rfl; have hcz41_4 : w40.cell? ⟨gb153, 4, none⟩ = some (.string a0_4) := (blk_cell BK153.out 4).trans rfl; have hcz41_5 : w40.cell? ⟨gb153, 5, none⟩ = some (.int .u32 a0_5) := (blk_cell BK153.out 5).trans rfl; have hcz41_6 : w40.cell? ⟨gb153, 6, none⟩ = some (.int .u32 a0_6) := (blk_cell BK153.out 6).trans rfl; have hcz41_7 : w40.cell? ⟨gb153, 7, none⟩ = some (.string a0_7) := (blk_cell BK153.out 7).trans rfl; have hcz41_8 : w40.cell? ⟨gb153, 8, none⟩ = some (.string a0_8) := (blk_cell BK153.out 8).trans rfl; have hcz41_9 : w40.cell? ⟨gb153, 9, none⟩ = some (.string a0_9) := (blk_cell BK153.out 9).trans rfl; have hcz41_10 : w40.cell? ⟨gb153, 10, none⟩ = some (.string a0_10) := (blk_cell BK153.out 10).trans rfl; have hcz41_11 : w40.cell? ⟨gb153, 11, none⟩ = some (.string a0_11) := (blk_cell BK153.out 11).trans rfl; have hcz41_12 : w40.cell? ⟨gb153, 12, none⟩ = some (.int .i64 a0_12) := (blk_cell BK153.out 12).trans rfl; have hfz41_0 := blk_frozen BK153.out 0; have hfz41_1 := blk_frozen BK153.out 1; have hfz41_2 := blk_frozen BK153.out 2; have hfz41_3 := blk_frozen BK153.out 3; have hfz41_4 := blk_frozen BK153.out 4; have hfz41_5 := blk_frozen BK153.out 5; have hfz41_6 := blk_frozen BK153.out 6; have hfz41_7 := blk_frozen BK153.out 7; have hfz41_8 := blk_frozen BK153.out 8; have hfz41_9 := blk_frozen BK153.out 9; have hfz41_10 := blk_frozen BK153.out 10; have hfz41_11 := blk_frozen BK153.out 11; have hfz41_12 := blk_frozen BK153.out 12)); try go_wp2_with (first | (go_at_call 25; (with_reducible refine (spec_Variant_Resolution.calls kj14 a0_0 a0_1 a0_2 a0_3 a0_4 a0_5 a0_6 a0_7 a0_8 a0_9 a0_10 a0_11 a0_12 t157 _ A23.out).mono ?_); rintro e w40 ⟨rfl, hb⟩; have n0_ := Aside0.mk (blk_below (g := gb153) (o := .cells #[.string a0_0, .int .u32 a0_1, .int .u32 a0_2, .int .u32 a0_3, .string a0_4, .int .u32 a0_5, .int .u32 a0_6, .string a0_7, .string a0_8, .string a0_9, .string a0_10, .string a0_11, .int .i64 a0_12] 44 (0, 0)) (by (with_reducible repeat (first | refine blk_drewN ?_ _ | refine blk_drew ?_ | refine blk_alloc ?_ _)); exact BK153.out) hb); have n1_ := Aside0.mk (below_step (by repeat (first | (with_reducible first | exact HB.out | apply below_alloc | apply pw_below_drewN | apply below_drew1 | refine below_set ?_ GE153.out) | exact HB.out)) hb); clear BK153; clear HB; have BK153 := n0_; have HB := n1_; clear n0_ n1_; (try clear hb); (try clear hb2); (try clear hk); (try clear hi); have hcz41_0 : w40.cell? ⟨gb153, 0, none⟩ = some (.string a0_0) := (blk_cell BK153.out 0).trans rfl; have hcz41_1 : w40.cell? ⟨gb153, 1, none⟩ = some (.int .u32 a0_1) := (blk_cell BK153.out 1).trans rfl; have hcz41_2 : w40.cell? ⟨gb153, 2, none⟩ = some (.int .u32 a0_2) := (blk_cell BK153.out 2).trans rfl; have hcz41_3 : w40.cell? ⟨gb153, 3, none⟩ = some (.int .u32 a0_3) := (blk_cell BK153.out 3).trans rfl; have hcz41_4 : w40.cell? ⟨gb153, 4, none⟩ = some (.string a0_4) := (blk_cell BK153.out 4).trans rfl; have hcz41_5 : w40.cell? ⟨gb153, 5, none⟩ = some (.int .u32 a0_5) := (blk_cell BK153.out 5).trans rfl; have hcz41_6 : w40.cell? ⟨gb153, 6, none⟩ = some (.int .u32 a0_6) := (blk_cell BK153.out 6).trans rfl; have hcz41_7 : w40.cell? ⟨gb153, 7, none⟩ = some (.string a0_7) := (blk_cell BK153.out 7).trans rfl; have hcz41_8 : w40.cell? ⟨gb153, 8, none⟩ = some (.string a0_8) := (blk_cell BK153.out 8).trans rfl; have hcz41_9 : w40.cell? ⟨gb153, 9, none⟩ = some (.string a0_9) := (blk_cell BK153.out 9).trans rfl; have hcz41_10 : w40.cell? ⟨gb153, 10, none⟩ = some (.string a0_10) := (blk_cell BK153.out 10).trans rfl; have hcz41_11 : w40.cell? ⟨gb153, 11, none⟩ = some (.string a0_11) := (blk_cell BK153.out 11).trans rfl; have hcz41_12 : w40.cell? ⟨gb153, 12, none⟩ = some (.int .i64 a0_12) := (blk_cell BK153.out 12).trans rfl; have hfz41_0 := blk_frozen BK153.out 0; have hfz41_1 := blk_frozen BK153.out 1; have hfz41_2 := blk_frozen BK153.out 2; have hfz41_3 := blk_frozen BK153.out 3; have hfz41_4 := blk_frozen BK153.out 4; have hfz41_5 := blk_frozen BK153.out 5; have hfz41_6 := blk_frozen BK153.out 6; have hfz41_7 := blk_frozen BK153.out 7; have hfz41_8 := blk_frozen BK153.out 8; have hfz41_9 := blk_frozen BK153.out 9; have hfz41_10 := blk_frozen BK153.out 10; have hfz41_11 := blk_frozen BK153.out 11; have hfz41_12 := blk_frozen BK153.out 12)))
                                    go_ret
                                    exact ⟨by first | rfl | (simp [errW_none, errW_some] <;> rfl) | (simp [*, errW_none, errW_some] <;> rfl), by repeat (first | (with_reducible first | exact HB.out | apply below_alloc | apply pw_below_drewN | apply below_drew1 | refine below_set ?_ GE153.out) | exact HB.out)⟩
                                  · rw [if_neg c38] at H
                                    exact absurd H (by simp)
                                · rw [if_neg c37] at H
                                  exact absurd H (by simp)
                              · rw [if_neg c36] at H
                                exact absurd H (by simp)
                            · rw [if_neg c35] at H
                              exact absurd H (by simp)
                          · rw [if_neg c34] at H
                            exact absurd H (by simp)
                        · rw [if_neg c33] at H
                          exact absurd H (by simp)
                    · rw [if_neg c25] at H
                      exact absurd H (by simp)
                  · rw [if_neg c24] at H
                    exact absurd H (by simp)
                · rw [if_neg c22] at H
                  have c22b0 : decide (0 < a0_5) = false := decide_eq_false c22
                  clear c22
                  by_cases c42 : a0_8.toList = ([] : List UInt8)
                  · rw [if_pos c42] at H
                    have c42b0 : (a0_8.toList == ([] : List UInt8)) = true := beq_iff_eq.mpr c42
                    have c42b1 : (a0_8.toList != ([] : List UInt8)) = false := bne_eq_false_iff_eq.mpr c42
                    (try (have c42b2 : a0_8.toList.isEmpty = true := by simpa using c42))
                    (try (have c42b3 : (!a0_8.toList.isEmpty) = false := by simpa using c42))
                    clear c42
                    by_cases c43 : x3_14.size + 6 ≤ 9223372036854775807
                    · rw [if_pos c43] at H
                      have c43b0 := eq_true c43
                      have c43b1 : decide (x3_14.size + 6 ≤ 9223372036854775807) = true := decide_eq_true c43
                      try have c43b2 : (9223372036854775807 < x3_14.size + 6) = False := eq_false (Nat.not_lt.2 c43)
                      try (have c43b3 := c43; simp only [ByteArray.size_append, lit_size, List.length_cons, List.length_nil, Nat.zero_add, Nat.reduceAdd] at c43b3)
                      by_cases c44 : (x3_14 ++ (⟨#[44, 85, 82, 73, 61, 34]⟩ : ByteArray)).size + a0_0.size ≤ 9223372036854775807
                      · rw [if_pos c44] at H
                        have c44b0 := eq_true c44
                        have c44b1 : decide ((x3_14 ++ (⟨#[44, 85, 82, 73, 61, 34]⟩ : ByteArray)).size + a0_0.size ≤ 9223372036854775807) = true := decide_eq_true c44
                        try have c44b2 : (9223372036854775807 < (x3_14 ++ (⟨#[44, 85, 82, 73, 61, 34]⟩ : ByteArray)).size + a0_0.size) = False := eq_false (Nat.not_lt.2 c44)
                        try (have c44b3 := c44; simp only [ByteArray.size_append, lit_size, List.length_cons, List.length_nil, Nat.zero_add, Nat.reduceAdd] at c44b3)
                        by_cases c45 : ((x3_14 ++ (⟨#[44, 85, 82, 73, 61, 34]⟩ : ByteArray)) ++ a0_0).size + 2 ≤ 9223372036854775807
                        · rw [if_pos c45] at H
                          have c45b0 := eq_true c45
                          have c45b1 : decide (((x3_14 ++ (⟨#[44, 85, 82, 73, 61, 34]⟩ : ByteArray)) ++ a0_0).size + 2 ≤ 9223372036854775807) = true := decide_eq_true c45
                          try have c45b2 : (9223372036854775807 < ((x3_14 ++ (⟨#[44, 85, 82, 73, 61, 34]⟩ : ByteArray)) ++ a0_0).size + 2) = False := eq_false (Nat.not_lt.2 c45)
                          try (have c45b3 := c45; simp only [ByteArray.size_append, lit_size, List.length_cons, List.length_nil, Nat.zero_add, Nat.reduceAdd] at c45b3)
                          obtain rfl := Option.some.inj H
                          have hcz46_0 : wc.cell? ⟨gb153, 0, none⟩ = some (.string a0_0) := (blk_cell BK153.out 0).trans rfl
                          have hcz46_1 : wc.cell? ⟨gb153, 1, none⟩ = some (.int .u32 a0_1) := (blk_cell BK153.out 1).trans rfl
                          have hcz46_2 : wc.cell? ⟨gb153, 2, none⟩ = some (.int .u32 a0_2) := (blk_cell BK153.out 2).trans rfl
                          have hcz46_3 : wc.cell? ⟨gb153, 3, none⟩ = some (.int .u32 a0_3) := (blk_cell BK153.out 3).trans rfl
                          have hcz46_4 : wc.cell? ⟨gb153, 4, none⟩ = some (.string a0_4) := (blk_cell BK153.out 4).trans rfl
                          have hcz46_5 : wc.cell? ⟨gb153, 5, none⟩ = some (.int .u32 a0_5) := (blk_cell BK153.out 5).trans rfl
                          have hcz46_6 : wc.cell? ⟨gb153, 6, none⟩ = some (.int .u32 a0_6) := (blk_cell BK153.out 6).trans rfl
                          have hcz46_7 : wc.cell? ⟨gb153, 7, none⟩ = some (.string a0_7) := (blk_cell BK153.out 7).trans rfl
                          have hcz46_8 : wc.cell? ⟨gb153, 8, none⟩ = some (.string a0_8) := (blk_cell BK153.out 8).trans rfl
                          have hcz46_9 : wc.cell? ⟨gb153, 9, none⟩ = some (.string a0_9) := (blk_cell BK153.out 9).trans rfl
                          have hcz46_10 : wc.cell? ⟨gb153, 10, none⟩ = some (.string a0_10) := (blk_cell BK153.out 10).trans rfl
                          have hcz46_11 : wc.cell? ⟨gb153, 11, none⟩ = some (.string a0_11) := (blk_cell BK153.out 11).trans rfl
                          have hcz46_12 : wc.cell? ⟨gb153, 12, none⟩ = some (.int .i64 a0_12) := (blk_cell BK153.out 12).trans rfl
                          have hfz46_0 := blk_frozen BK153.out 0
                          have hfz46_1 := blk_frozen BK153.out 1
                          have hfz46_2 := blk_frozen BK153.out 2
                          have hfz46_3 := blk_frozen BK153.out 3
                          have hfz46_4 := blk_frozen BK153.out 4
                          have hfz46_5 := blk_frozen BK153.out 5
                          have hfz46_6 := blk_frozen BK153.out 6
                          have hfz46_7 := blk_frozen BK153.out 7
                          have hfz46_8 := blk_frozen BK153.out 8
                          have hfz46_9 := blk_frozen BK153.out 9
                          have hfz46_10 := blk_frozen BK153.out 10
                          have hfz46_11 := blk_frozen BK153.out 11
                          have hfz46_12 := blk_frozen BK153.out 12
                          go_wp2
                          repeat (go_quiet (fail); try go_wp2)
                          go_ret
                          exact ⟨by first | rfl | (simp [errW_none, errW_some] <;> rfl) | (simp [*, errW_none, errW_some] <;> rfl), by repeat (first | (with_reducible first | exact HB.out | apply below_alloc | apply pw_below_drewN | apply below_drew1 | refine below_set ?_ GE153.out) | exact HB.out)⟩
                        · rw [if_neg c45] at H
                          exact absurd H (by simp)
                      · rw [if_neg c44] at H
                        exact absurd H (by simp)
                    · rw [if_neg c43] at H
                      exact absurd H (by simp)
                  · rw [if_neg c42] at H
                    have c42b0 : (a0_8.toList == ([] : List UInt8)) = false := beq_eq_false_iff_ne.mpr c42
                    have c42b1 : (a0_8.toList != ([] : List UInt8)) = true := bne_iff_ne.mpr c42
                    (try (have c42b2 : a0_8.toList.isEmpty = false := by simpa using c42))
                    (try (have c42b3 : (!a0_8.toList.isEmpty) = true := by simpa using c42))
                    by_cases c47 : 8 + a0_8.size ≤ 9223372036854775807
                    · rw [if_pos c47] at H
                      have c47b0 := eq_true c47
                      have c47b1 : decide (8 + a0_8.size ≤ 9223372036854775807) = true := decide_eq_true c47
                      try have c47b2 : (9223372036854775807 < 8 + a0_8.size) = False := eq_false (Nat.not_lt.2 c47)
                      try (have c47b3 := c47; simp only [ByteArray.size_append, lit_size, List.length_cons, List.length_nil, Nat.zero_add, Nat.reduceAdd] at c47b3)
                      by_cases c48 : ((⟨#[44, 86, 73, 68, 69, 79, 61, 34]⟩ : ByteArray) ++ a0_8).size + 1 ≤ 9223372036854775807
                      · rw [if_pos c48] at H
                        have c48b0 := eq_true c48
                        have c48b1 : decide (((⟨#[44, 86, 73, 68, 69, 79, 61, 34]⟩ : ByteArray) ++ a0_8).size + 1 ≤ 9223372036854775807) = true := decide_eq_true c48
                        try have c48b2 : (9223372036854775807 < ((⟨#[44, 86, 73, 68, 69, 79, 61, 34]⟩ : ByteArray) ++ a0_8).size + 1) = False := eq_false (Nat.not_lt.2 c48)
                        try (have c48b3 := c48; simp only [ByteArray.size_append, lit_size, List.length_cons, List.length_nil, Nat.zero_add, Nat.reduceAdd] at c48b3)
                        by_cases c49 : x3_14.size + (((⟨#[44, 86, 73, 68, 69, 79, 61, 34]⟩ : ByteArray) ++ a0_8) ++ (⟨#[34]⟩ : ByteArray)).size ≤ 9223372036854775807
                        · rw [if_pos c49] at H
                          have c49b0 := eq_true c49
                          have c49b1 : decide (x3_14.size + (((⟨#[44, 86, 73, 68, 69, 79, 61, 34]⟩ : ByteArray) ++ a0_8) ++ (⟨#[34]⟩ : ByteArray)).size ≤ 9223372036854775807) = true := decide_eq_true c49
                          try have c49b2 : (9223372036854775807 < x3_14.size + (((⟨#[44, 86, 73, 68, 69, 79, 61, 34]⟩ : ByteArray) ++ a0_8) ++ (⟨#[34]⟩ : ByteArray)).size) = False := eq_false (Nat.not_lt.2 c49)
                          try (have c49b3 := c49; simp only [ByteArray.size_append, lit_size, List.length_cons, List.length_nil, Nat.zero_add, Nat.reduceAdd] at c49b3)
                          by_cases c50 : (x3_14 ++ (((⟨#[44, 86, 73, 68, 69, 79, 61, 34]⟩ : ByteArray) ++ a0_8) ++ (⟨#[34]⟩ : ByteArray))).size + 6 ≤ 9223372036854775807
                          · rw [if_pos c50] at H
                            have c50b0 := eq_true c50
                            have c50b1 : decide ((x3_14 ++ (((⟨#[44, 86, 73, 68, 69, 79, 61, 34]⟩ : ByteArray) ++ a0_8) ++ (⟨#[34]⟩ : ByteArray))).size + 6 ≤ 9223372036854775807) = true := decide_eq_true c50
                            try have c50b2 : (9223372036854775807 < (x3_14 ++ (((⟨#[44, 86, 73, 68, 69, 79, 61, 34]⟩ : ByteArray) ++ a0_8) ++ (⟨#[34]⟩ : ByteArray))).size + 6) = False := eq_false (Nat.not_lt.2 c50)
                            try (have c50b3 := c50; simp only [ByteArray.size_append, lit_size, List.length_cons, List.length_nil, Nat.zero_add, Nat.reduceAdd] at c50b3)
                            by_cases c51 : ((x3_14 ++ (((⟨#[44, 86, 73, 68, 69, 79, 61, 34]⟩ : ByteArray) ++ a0_8) ++ (⟨#[34]⟩ : ByteArray))) ++ (⟨#[44, 85, 82, 73, 61, 34]⟩ : ByteArray)).size + a0_0.size ≤ 9223372036854775807
                            · rw [if_pos c51] at H
                              have c51b0 := eq_true c51
                              have c51b1 : decide (((x3_14 ++ (((⟨#[44, 86, 73, 68, 69, 79, 61, 34]⟩ : ByteArray) ++ a0_8) ++ (⟨#[34]⟩ : ByteArray))) ++ (⟨#[44, 85, 82, 73, 61, 34]⟩ : ByteArray)).size + a0_0.size ≤ 9223372036854775807) = true := decide_eq_true c51
                              try have c51b2 : (9223372036854775807 < ((x3_14 ++ (((⟨#[44, 86, 73, 68, 69, 79, 61, 34]⟩ : ByteArray) ++ a0_8) ++ (⟨#[34]⟩ : ByteArray))) ++ (⟨#[44, 85, 82, 73, 61, 34]⟩ : ByteArray)).size + a0_0.size) = False := eq_false (Nat.not_lt.2 c51)
                              try (have c51b3 := c51; simp only [ByteArray.size_append, lit_size, List.length_cons, List.length_nil, Nat.zero_add, Nat.reduceAdd] at c51b3)
                              by_cases c52 : (((x3_14 ++ (((⟨#[44, 86, 73, 68, 69, 79, 61, 34]⟩ : ByteArray) ++ a0_8) ++ (⟨#[34]⟩ : ByteArray))) ++ (⟨#[44, 85, 82, 73, 61, 34]⟩ : ByteArray)) ++ a0_0).size + 2 ≤ 9223372036854775807
                              · rw [if_pos c52] at H
                                have c52b0 := eq_true c52
                                have c52b1 : decide ((((x3_14 ++ (((⟨#[44, 86, 73, 68, 69, 79, 61, 34]⟩ : ByteArray) ++ a0_8) ++ (⟨#[34]⟩ : ByteArray))) ++ (⟨#[44, 85, 82, 73, 61, 34]⟩ : ByteArray)) ++ a0_0).size + 2 ≤ 9223372036854775807) = true := decide_eq_true c52
                                try have c52b2 : (9223372036854775807 < (((x3_14 ++ (((⟨#[44, 86, 73, 68, 69, 79, 61, 34]⟩ : ByteArray) ++ a0_8) ++ (⟨#[34]⟩ : ByteArray))) ++ (⟨#[44, 85, 82, 73, 61, 34]⟩ : ByteArray)) ++ a0_0).size + 2) = False := eq_false (Nat.not_lt.2 c52)
                                try (have c52b3 := c52; simp only [ByteArray.size_append, lit_size, List.length_cons, List.length_nil, Nat.zero_add, Nat.reduceAdd] at c52b3)
                                obtain rfl := Option.some.inj H
                                have hcz53_0 : wc.cell? ⟨gb153, 0, none⟩ = some (.string a0_0) := (blk_cell BK153.out 0).trans rfl
                                have hcz53_1 : wc.cell? ⟨gb153, 1, none⟩ = some (.int .u32 a0_1) := (blk_cell BK153.out 1).trans rfl
                                have hcz53_2 : wc.cell? ⟨gb153, 2, none⟩ = some (.int .u32 a0_2) := (blk_cell BK153.out 2).trans rfl
                                have hcz53_3 : wc.cell? ⟨gb153, 3, none⟩ = some (.int .u32 a0_3) := (blk_cell BK153.out 3).trans rfl
                                have hcz53_4 : wc.cell? ⟨gb153, 4, none⟩ = some (.string a0_4) := (blk_cell BK153.out 4).trans rfl
                                have hcz53_5 : wc.cell? ⟨gb153, 5, none⟩ = some (.int .u32 a0_5) := (blk_cell BK153.out 5).trans rfl
                                have hcz53_6 : wc.cell? ⟨gb153, 6, none⟩ = some (.int .u32 a0_6) := (blk_cell BK153.out 6).trans rfl
                                have hcz53_7 : wc.cell? ⟨gb153, 7, none⟩ = some (.string a0_7) := (blk_cell BK153.out 7).trans rfl
                                have hcz53_8 : wc.cell? ⟨gb153, 8, none⟩ = some (.string a0_8) := (blk_cell BK153.out 8).trans rfl
                                have hcz53_9 : wc.cell? ⟨gb153, 9, none⟩ = some (.string a0_9) := (blk_cell BK153.out 9).trans rfl
                                have hcz53_10 : wc.cell? ⟨gb153, 10, none⟩ = some (.string a0_10) := (blk_cell BK153.out 10).trans rfl
                                have hcz53_11 : wc.cell? ⟨gb153, 11, none⟩ = some (.string a0_11) := (blk_cell BK153.out 11).trans rfl
                                have hcz53_12 : wc.cell? ⟨gb153, 12, none⟩ = some (.int .i64 a0_12) := (blk_cell BK153.out 12).trans rfl
                                have hfz53_0 := blk_frozen BK153.out 0
                                have hfz53_1 := blk_frozen BK153.out 1
                                have hfz53_2 := blk_frozen BK153.out 2
                                have hfz53_3 := blk_frozen BK153.out 3
                                have hfz53_4 := blk_frozen BK153.out 4
                                have hfz53_5 := blk_frozen BK153.out 5
                                have hfz53_6 := blk_frozen BK153.out 6
                                have hfz53_7 := blk_frozen BK153.out 7
                                have hfz53_8 := blk_frozen BK153.out 8
                                have hfz53_9 := blk_frozen BK153.out 9
                                have hfz53_10 := blk_frozen BK153.out 10
                                have hfz53_11 := blk_frozen BK153.out 11
                                have hfz53_12 := blk_frozen BK153.out 12
                                go_wp2
                                repeat (go_quiet (fail); try go_wp2)
                                go_ret
                                exact ⟨by first | rfl | (simp [errW_none, errW_some] <;> rfl) | (simp [*, errW_none, errW_some] <;> rfl), by repeat (first | (with_reducible first | exact HB.out | apply below_alloc | apply pw_below_drewN | apply below_drew1 | refine below_set ?_ GE153.out) | exact HB.out)⟩
                              · rw [if_neg c52] at H
                                exact absurd H (by simp)
                            · rw [if_neg c51] at H
                              exact absurd H (by simp)
                          · rw [if_neg c50] at H
                            exact absurd H (by simp)
                        · rw [if_neg c49] at H
                          exact absurd H (by simp)
                      · rw [if_neg c48] at H
                        exact absurd H (by simp)
                    · rw [if_neg c47] at H
                      exact absurd H (by simp)
      · rw [if_neg c6] at H
        exact absurd H (by simp)
    · rw [if_neg c4] at H
      exact absurd H (by simp)
  · rw [if_neg c3] at H
    exact absurd H (by simp)
end Go.Proofs.YtlghdacdpkaoeaaGreatDoor.PFnMasterLoose
