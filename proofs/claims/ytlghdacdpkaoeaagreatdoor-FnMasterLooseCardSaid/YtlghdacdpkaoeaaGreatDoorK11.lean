import Derived.Test.YtlghdacdpkaoeaaGreatDoorProg
import Derived.Test.YtlghdacdpkaoeaaGreatDoorK05
import Derived.Test.YtlghdacdpkaoeaaGreatDoorK01
import Derived.Test.YtlghdacdpkaoeaaGreatDoorK02
import Derived.Test.YtlghdacdpkaoeaaGreatDoorK08
import Derived.Test.YtlghdacdpkaoeaaGreatDoorK03
import Derived.Test.YtlghdacdpkaoeaaGreatDoorK09
import Derived.Test.YtlghdacdpkaoeaaGreatDoorK10
import Derived.Test.YtlghdacdpkaoeaaGreatDoorK04
import Derived.Laws.Runes
import Derived.Below
import Derived.Deep.Draws
import Derived.Deep.AppendLies
import Derived.Maps.AppendAt
import Derived.OwnWalk
import Derived.Laws.BytesArg
import Derived.Laws.MakeOwn
import Derived.Laws.OwnMore
import Derived.Deep.OwnRows
import Derived.Tactics
import Derived.Lib.ConvBytes
import Derived.Laws.Slices
import Derived.WalkKit
import Derived.KernelRfl
import Derived.RowKit3
import Derived.Deep.LoopGhost
import Derived.Deep.QuietTactic
import Derived.BigQuiet
import Derived.WideLaws
import Derived.Deep.DeepCutAuto
import Derived.Deep.CutBlock
import Derived.Deep.RegionHeld3
import Derived.Laws.Rows
import Derived.Lib.AppendStr
import Derived.ArgAppend
import Derived.Laws.IdiomCopy
import Derived.OrdersHeld
import Derived.Laws.BitsLemmas
import Derived.RowKit
namespace Go.Proofs.YtlghdacdpkaoeaaGreatDoor.PFnMasterLoose
open Go.RowKit Go.Proofs.YtlghdacdpkaoeaaGreatDoorW.PrintWords Go.Proofs.YtlghdacdpkaoeaaGreatDoorW.PrintLast Go.Proofs.YtlghdacdpkaoeaaGreatDoorW.PrintMore
attribute [local go_sem] max2_int min2_int max_two min_two max_three min_three max_four min_four
set_option linter.unusedVariables false
set_option linter.unusedSimpArgs false
def errW : Option Int → Value
  | none => .nilIface
  | some c => .iface 0 (.int .i64 c)
theorem errW_none : errW none = .nilIface := rfl
theorem errW_some (c : Int) : errW (some c) = .iface 0 (.int .i64 c) := rfl
theorem info9 : (Tryz.prog.info? 9).map (fun i => (i.zero, i.size, i.bytes)) = some (some (.string ⟨#[]⟩), 1, 16) := by kernel_rfl
theorem info55 : (Tryz.prog.info? 55).map (fun i => (i.zero, i.size, i.bytes)) = some (some (.agg #[(.string ⟨#[]⟩), (.string ⟨#[]⟩), (.string ⟨#[]⟩), (.bool false), (.string ⟨#[]⟩), (.string ⟨#[]⟩), (.string ⟨#[]⟩)]), 7, 104) := by kernel_rfl
structure S55 where
  f0 : ByteArray
  f1 : ByteArray
  f2 : ByteArray
  f3 : Bool
  f4 : ByteArray
  f5 : ByteArray
  f6 : ByteArray
def z55 : S55 := ⟨(⟨#[]⟩ : ByteArray), (⟨#[]⟩ : ByteArray), (⟨#[]⟩ : ByteArray), false, (⟨#[]⟩ : ByteArray), (⟨#[]⟩ : ByteArray), (⟨#[]⟩ : ByteArray)⟩
def k55 : Kd S55 := Kd.iso (Kd.pair Kd.string (Kd.pair Kd.string (Kd.pair Kd.string (Kd.pair Kd.bool (Kd.pair Kd.string (Kd.pair Kd.string Kd.string)))))) (fun x : S55 => (x.f0, x.f1, x.f2, x.f3, x.f4, x.f5, x.f6))
theorem k55_open {w : World} {x : S55} {cs : List Value} (h : k55.K w x cs) : cs = [.string x.f0, .string x.f1, .string x.f2, .bool x.f3, .string x.f4, .string x.f5, .string x.f6] := by
  obtain ⟨_, _, rfl, rfl, ⟨_, _, rfl, rfl, ⟨_, _, rfl, rfl, ⟨_, _, rfl, rfl, ⟨_, _, rfl, rfl, ⟨_, _, rfl, rfl, rfl⟩⟩⟩⟩⟩⟩ := h
  exact rfl
theorem k55_mkM (w : World) (base : Nat) (ok : Nat → Prop) (x : S55)  : k55.M w base ok x [.string x.f0, .string x.f1, .string x.f2, .bool x.f3, .string x.f4, .string x.f5, .string x.f6] := ⟨[.string x.f0], [.string x.f1, .string x.f2, .bool x.f3, .string x.f4, .string x.f5, .string x.f6], rfl, rfl, ⟨[.string x.f1], [.string x.f2, .bool x.f3, .string x.f4, .string x.f5, .string x.f6], rfl, rfl, ⟨[.string x.f2], [.bool x.f3, .string x.f4, .string x.f5, .string x.f6], rfl, rfl, ⟨[.bool x.f3], [.string x.f4, .string x.f5, .string x.f6], rfl, rfl, ⟨[.string x.f4], [.string x.f5, .string x.f6], rfl, rfl, ⟨[.string x.f5], [.string x.f6], rfl, rfl, rfl⟩⟩⟩⟩⟩⟩
def rd_T55 (xs : List S55) (i : Int) : S55 := xs.getD i.toNat z55
theorem at_T55 {w : World} {A : Option Addr} {n : Nat} {xs : List S55} (h : Kd.C k55 w A n xs) (i : Int) (h0 : 0 ≤ i) (h1 : i < n) : ∃ ad , A = some ad ∧ w.cell? (ad.add (i.toNat * 7)) = some (.string (rd_T55 xs i).f0) ∧ w.cell? ⟨(ad.add (i.toNat * 7)).block, (ad.add (i.toNat * 7)).off + 1, none⟩ = some (.string (rd_T55 xs i).f1) ∧ w.cell? ⟨(ad.add (i.toNat * 7)).block, (ad.add (i.toNat * 7)).off + 2, none⟩ = some (.string (rd_T55 xs i).f2) ∧ w.cell? ⟨(ad.add (i.toNat * 7)).block, (ad.add (i.toNat * 7)).off + 3, none⟩ = some (.bool (rd_T55 xs i).f3) ∧ w.cell? ⟨(ad.add (i.toNat * 7)).block, (ad.add (i.toNat * 7)).off + 4, none⟩ = some (.string (rd_T55 xs i).f4) ∧ w.cell? ⟨(ad.add (i.toNat * 7)).block, (ad.add (i.toNat * 7)).off + 5, none⟩ = some (.string (rd_T55 xs i).f5) ∧ w.cell? ⟨(ad.add (i.toNat * 7)).block, (ad.add (i.toNat * 7)).off + 6, none⟩ = some (.string (rd_T55 xs i).f6) := by
  obtain ⟨ad, c, e, _, hK, hc0⟩ := Kd.C_get h z55 i h0 h1
  have hc : ∀ j u, c[j]? = some u → w.cell? (ad.add (i.toNat * 7 + j)) = some u := hc0
  obtain rfl := k55_open hK
  exact ⟨ad, e, hc 0 _ rfl, by rw [← add_field _ _ 1 (by omega)]; exact hc 1 _ rfl, by rw [← add_field _ _ 2 (by omega)]; exact hc 2 _ rfl, by rw [← add_field _ _ 3 (by omega)]; exact hc 3 _ rfl, by rw [← add_field _ _ 4 (by omega)]; exact hc 4 _ rfl, by rw [← add_field _ _ 5 (by omega)]; exact hc 5 _ rfl, by rw [← add_field _ _ 6 (by omega)]; exact hc 6 _ rfl⟩
structure S44 where
  f0 : ByteArray
  f1 : Int
  f2 : Int
  f3 : Int
  f4 : ByteArray
  f5 : Int
  f6 : Int
  f7 : ByteArray
  f8 : ByteArray
  f9 : ByteArray
  f10 : ByteArray
  f11 : ByteArray
  f12 : Int
def z44 : S44 := ⟨(⟨#[]⟩ : ByteArray), (0 : Int), (0 : Int), (0 : Int), (⟨#[]⟩ : ByteArray), (0 : Int), (0 : Int), (⟨#[]⟩ : ByteArray), (⟨#[]⟩ : ByteArray), (⟨#[]⟩ : ByteArray), (⟨#[]⟩ : ByteArray), (⟨#[]⟩ : ByteArray), (0 : Int)⟩
def k44 : Kd S44 := Kd.iso (Kd.pair Kd.string (Kd.pair (Kd.int .u32) (Kd.pair (Kd.int .u32) (Kd.pair (Kd.int .u32) (Kd.pair Kd.string (Kd.pair (Kd.int .u32) (Kd.pair (Kd.int .u32) (Kd.pair Kd.string (Kd.pair Kd.string (Kd.pair Kd.string (Kd.pair Kd.string (Kd.pair Kd.string (Kd.int .i64))))))))))))) (fun x : S44 => (x.f0, x.f1, x.f2, x.f3, x.f4, x.f5, x.f6, x.f7, x.f8, x.f9, x.f10, x.f11, x.f12))
theorem k44_open {w : World} {x : S44} {cs : List Value} (h : k44.K w x cs) : cs = [.string x.f0, .int .u32 x.f1, .int .u32 x.f2, .int .u32 x.f3, .string x.f4, .int .u32 x.f5, .int .u32 x.f6, .string x.f7, .string x.f8, .string x.f9, .string x.f10, .string x.f11, .int .i64 x.f12] := by
  obtain ⟨_, _, rfl, rfl, ⟨_, _, rfl, rfl, ⟨_, _, rfl, rfl, ⟨_, _, rfl, rfl, ⟨_, _, rfl, rfl, ⟨_, _, rfl, rfl, ⟨_, _, rfl, rfl, ⟨_, _, rfl, rfl, ⟨_, _, rfl, rfl, ⟨_, _, rfl, rfl, ⟨_, _, rfl, rfl, ⟨_, _, rfl, rfl, rfl⟩⟩⟩⟩⟩⟩⟩⟩⟩⟩⟩⟩ := h
  exact rfl
theorem k44_mkM (w : World) (base : Nat) (ok : Nat → Prop) (x : S44)  : k44.M w base ok x [.string x.f0, .int .u32 x.f1, .int .u32 x.f2, .int .u32 x.f3, .string x.f4, .int .u32 x.f5, .int .u32 x.f6, .string x.f7, .string x.f8, .string x.f9, .string x.f10, .string x.f11, .int .i64 x.f12] := ⟨[.string x.f0], [.int .u32 x.f1, .int .u32 x.f2, .int .u32 x.f3, .string x.f4, .int .u32 x.f5, .int .u32 x.f6, .string x.f7, .string x.f8, .string x.f9, .string x.f10, .string x.f11, .int .i64 x.f12], rfl, rfl, ⟨[.int .u32 x.f1], [.int .u32 x.f2, .int .u32 x.f3, .string x.f4, .int .u32 x.f5, .int .u32 x.f6, .string x.f7, .string x.f8, .string x.f9, .string x.f10, .string x.f11, .int .i64 x.f12], rfl, rfl, ⟨[.int .u32 x.f2], [.int .u32 x.f3, .string x.f4, .int .u32 x.f5, .int .u32 x.f6, .string x.f7, .string x.f8, .string x.f9, .string x.f10, .string x.f11, .int .i64 x.f12], rfl, rfl, ⟨[.int .u32 x.f3], [.string x.f4, .int .u32 x.f5, .int .u32 x.f6, .string x.f7, .string x.f8, .string x.f9, .string x.f10, .string x.f11, .int .i64 x.f12], rfl, rfl, ⟨[.string x.f4], [.int .u32 x.f5, .int .u32 x.f6, .string x.f7, .string x.f8, .string x.f9, .string x.f10, .string x.f11, .int .i64 x.f12], rfl, rfl, ⟨[.int .u32 x.f5], [.int .u32 x.f6, .string x.f7, .string x.f8, .string x.f9, .string x.f10, .string x.f11, .int .i64 x.f12], rfl, rfl, ⟨[.int .u32 x.f6], [.string x.f7, .string x.f8, .string x.f9, .string x.f10, .string x.f11, .int .i64 x.f12], rfl, rfl, ⟨[.string x.f7], [.string x.f8, .string x.f9, .string x.f10, .string x.f11, .int .i64 x.f12], rfl, rfl, ⟨[.string x.f8], [.string x.f9, .string x.f10, .string x.f11, .int .i64 x.f12], rfl, rfl, ⟨[.string x.f9], [.string x.f10, .string x.f11, .int .i64 x.f12], rfl, rfl, ⟨[.string x.f10], [.string x.f11, .int .i64 x.f12], rfl, rfl, ⟨[.string x.f11], [.int .i64 x.f12], rfl, rfl, rfl⟩⟩⟩⟩⟩⟩⟩⟩⟩⟩⟩⟩
def rd_T44 (xs : List S44) (i : Int) : S44 := xs.getD i.toNat z44
theorem at_T44 {w : World} {A : Option Addr} {n : Nat} {xs : List S44} (h : Kd.C k44 w A n xs) (i : Int) (h0 : 0 ≤ i) (h1 : i < n) : ∃ ad , A = some ad ∧ w.cell? (ad.add (i.toNat * 13)) = some (.string (rd_T44 xs i).f0) ∧ w.cell? ⟨(ad.add (i.toNat * 13)).block, (ad.add (i.toNat * 13)).off + 1, none⟩ = some (.int .u32 (rd_T44 xs i).f1) ∧ w.cell? ⟨(ad.add (i.toNat * 13)).block, (ad.add (i.toNat * 13)).off + 2, none⟩ = some (.int .u32 (rd_T44 xs i).f2) ∧ w.cell? ⟨(ad.add (i.toNat * 13)).block, (ad.add (i.toNat * 13)).off + 3, none⟩ = some (.int .u32 (rd_T44 xs i).f3) ∧ w.cell? ⟨(ad.add (i.toNat * 13)).block, (ad.add (i.toNat * 13)).off + 4, none⟩ = some (.string (rd_T44 xs i).f4) ∧ w.cell? ⟨(ad.add (i.toNat * 13)).block, (ad.add (i.toNat * 13)).off + 5, none⟩ = some (.int .u32 (rd_T44 xs i).f5) ∧ w.cell? ⟨(ad.add (i.toNat * 13)).block, (ad.add (i.toNat * 13)).off + 6, none⟩ = some (.int .u32 (rd_T44 xs i).f6) ∧ w.cell? ⟨(ad.add (i.toNat * 13)).block, (ad.add (i.toNat * 13)).off + 7, none⟩ = some (.string (rd_T44 xs i).f7) ∧ w.cell? ⟨(ad.add (i.toNat * 13)).block, (ad.add (i.toNat * 13)).off + 8, none⟩ = some (.string (rd_T44 xs i).f8) ∧ w.cell? ⟨(ad.add (i.toNat * 13)).block, (ad.add (i.toNat * 13)).off + 9, none⟩ = some (.string (rd_T44 xs i).f9) ∧ w.cell? ⟨(ad.add (i.toNat * 13)).block, (ad.add (i.toNat * 13)).off + 10, none⟩ = some (.string (rd_T44 xs i).f10) ∧ w.cell? ⟨(ad.add (i.toNat * 13)).block, (ad.add (i.toNat * 13)).off + 11, none⟩ = some (.string (rd_T44 xs i).f11) ∧ w.cell? ⟨(ad.add (i.toNat * 13)).block, (ad.add (i.toNat * 13)).off + 12, none⟩ = some (.int .i64 (rd_T44 xs i).f12) := by
  obtain ⟨ad, c, e, _, hK, hc0⟩ := Kd.C_get h z44 i h0 h1
  have hc : ∀ j u, c[j]? = some u → w.cell? (ad.add (i.toNat * 13 + j)) = some u := hc0
  obtain rfl := k44_open hK
  exact ⟨ad, e, hc 0 _ rfl, by rw [← add_field _ _ 1 (by omega)]; exact hc 1 _ rfl, by rw [← add_field _ _ 2 (by omega)]; exact hc 2 _ rfl, by rw [← add_field _ _ 3 (by omega)]; exact hc 3 _ rfl, by rw [← add_field _ _ 4 (by omega)]; exact hc 4 _ rfl, by rw [← add_field _ _ 5 (by omega)]; exact hc 5 _ rfl, by rw [← add_field _ _ 6 (by omega)]; exact hc 6 _ rfl, by rw [← add_field _ _ 7 (by omega)]; exact hc 7 _ rfl, by rw [← add_field _ _ 8 (by omega)]; exact hc 8 _ rfl, by rw [← add_field _ _ 9 (by omega)]; exact hc 9 _ rfl, by rw [← add_field _ _ 10 (by omega)]; exact hc 10 _ rfl, by rw [← add_field _ _ 11 (by omega)]; exact hc 11 _ rfl, by rw [← add_field _ _ 12 (by omega)]; exact hc 12 _ rfl⟩
end Go.Proofs.YtlghdacdpkaoeaaGreatDoor.PFnMasterLoose
