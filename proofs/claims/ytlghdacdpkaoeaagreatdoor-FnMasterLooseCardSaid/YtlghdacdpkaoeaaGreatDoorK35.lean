import Derived.Test.YtlghdacdpkaoeaaGreatDoorK34
namespace Go.Proofs.YtlghdacdpkaoeaaGreatDoor
open Go.RowKit Go.Proofs.YtlghdacdpkaoeaaGreatDoorW.PrintWords Go.Maps
open Go.Lib hiding intOf
set_option linter.unusedVariables false
set_option linter.unusedSimpArgs false
attribute [local go_sem] run_store_float
theorem beq75 {j : Nat} (h : j ≠ 75) : (bif Nat.beq j 75 then 6 else 28 + j) = 28 + j := by
  have hb : Nat.beq j 75 = false := by
    cases hb : Nat.beq j 75 with
    | false => rfl
    | true => exact absurd (Nat.eq_of_beq_eq_true hb) h
  rw [hb]; rfl
def ISP5 (B : Nat) (q : Nat) (a0 a5 a6 a7 a8 a9 a10 a11 a13 a14 : ByteArray) (n2 n3 n4 : Int) (b12 : Bool) (r15 : Nat) : Nat → Value → World → Prop
  | 0, v, _ => v = .pointer (some ⟨q, 0, none⟩)
  | 1, v, _ => v = .pointer (some ⟨q, 0, none⟩)
  | 2, v, _ => v = .pointer (some ⟨q, 0, none⟩)
  | 3, v, _ => v = .string a0
  | 4, v, _ => v = .pointer (some ⟨q, 0, none⟩)
  | 5, v, _ => v = .pointer (some ⟨q, 0, none⟩)
  | 6, v, _ => v = .pointer (some ⟨q, 2, none⟩)
  | 7, v, _ => v = .pointer (some ⟨q, 2, none⟩)
  | 8, v, _ => v = .int .u32 n2
  | 9, v, _ => v = .pointer (some ⟨q, 0, none⟩)
  | 10, v, _ => v = .pointer (some ⟨q, 0, none⟩)
  | 11, v, _ => v = .pointer (some ⟨q, 2, none⟩)
  | 12, v, _ => v = .pointer (some ⟨q, 3, none⟩)
  | 13, v, _ => v = .int .u32 n3
  | 14, v, _ => v = .pointer (some ⟨q, 0, none⟩)
  | 15, v, _ => v = .pointer (some ⟨q, 0, none⟩)
  | 16, v, _ => v = .pointer (some ⟨q, 2, none⟩)
  | 17, v, _ => v = .pointer (some ⟨q, 4, none⟩)
  | 18, v, _ => v = .int .u32 n4
  | 19, v, _ => v = .pointer (some ⟨q, 0, none⟩)
  | 20, v, _ => v = .pointer (some ⟨q, 0, none⟩)
  | 21, v, _ => v = .pointer (some ⟨q, 2, none⟩)
  | 22, v, _ => v = .pointer (some ⟨q, 5, none⟩)
  | 23, v, _ => v = .string a5
  | 24, v, _ => v = .pointer (some ⟨q, 0, none⟩)
  | 25, v, _ => v = .pointer (some ⟨q, 0, none⟩)
  | 26, v, _ => v = .pointer (some ⟨q, 2, none⟩)
  | 27, v, _ => v = .pointer (some ⟨q, 6, none⟩)
  | 28, v, _ => v = .string a6
  | 29, v, _ => v = .pointer (some ⟨q, 0, none⟩)
  | 30, v, _ => v = .pointer (some ⟨q, 0, none⟩)
  | 31, v, _ => v = .pointer (some ⟨q, 2, none⟩)
  | 32, v, _ => v = .pointer (some ⟨q, 7, none⟩)
  | 33, v, _ => v = .string a7
  | 34, v, _ => v = .pointer (some ⟨q, 0, none⟩)
  | 35, v, _ => v = .pointer (some ⟨q, 0, none⟩)
  | 36, v, _ => v = .pointer (some ⟨q, 2, none⟩)
  | 37, v, _ => v = .pointer (some ⟨q, 8, none⟩)
  | 38, v, _ => v = .string a8
  | 39, v, _ => v = .pointer (some ⟨q, 0, none⟩)
  | 40, v, _ => v = .pointer (some ⟨q, 0, none⟩)
  | 41, v, _ => v = .pointer (some ⟨q, 2, none⟩)
  | 42, v, _ => v = .pointer (some ⟨q, 9, none⟩)
  | 43, v, _ => v = .string a9
  | 44, v, _ => v = .pointer (some ⟨q, 0, none⟩)
  | 45, v, _ => v = .pointer (some ⟨q, 0, none⟩)
  | 46, v, _ => v = .pointer (some ⟨q, 2, none⟩)
  | 47, v, _ => v = .pointer (some ⟨q, 10, none⟩)
  | 48, v, _ => v = .string a10
  | 49, v, _ => v = .pointer (some ⟨q, 0, none⟩)
  | 50, v, _ => v = .pointer (some ⟨q, 0, none⟩)
  | 51, v, _ => v = .pointer (some ⟨q, 2, none⟩)
  | 52, v, _ => v = .pointer (some ⟨q, 11, none⟩)
  | 53, v, _ => v = .string a11
  | 54, v, _ => v = .pointer (some ⟨q, 0, none⟩)
  | 55, v, _ => v = .pointer (some ⟨q, 0, none⟩)
  | 56, v, _ => v = .pointer (some ⟨q, 2, none⟩)
  | 57, v, _ => v = .pointer (some ⟨q, 12, none⟩)
  | 58, v, _ => v = .bool b12
  | 59, v, _ => v = .pointer (some ⟨q, 0, none⟩)
  | 60, v, _ => v = .pointer (some ⟨q, 0, none⟩)
  | 61, v, _ => v = .pointer (some ⟨q, 2, none⟩)
  | 62, v, _ => v = .pointer (some ⟨q, 13, none⟩)
  | 63, v, _ => v = .string a13
  | 64, v, _ => v = .pointer (some ⟨q, 0, none⟩)
  | 65, v, _ => v = .pointer (some ⟨q, 0, none⟩)
  | 66, v, _ => v = .pointer (some ⟨q, 2, none⟩)
  | 67, v, _ => v = .pointer (some ⟨q, 14, none⟩)
  | 68, v, _ => v = .string a14
  | 69, v, _ => v = .pointer (some ⟨q, 0, none⟩)
  | 70, v, _ => v = .pointer (some ⟨q, 0, none⟩)
  | 71, v, _ => v = .pointer (some ⟨q, 2, none⟩)
  | 72, v, _ => v = .pointer (some ⟨q, 15, none⟩)
  | 73, v, _ => v = .float .f64 r15
  | 74, v, _ => v = .agg #[Value.string a0, .int .u32 n2, .int .u32 n3, .int .u32 n4, .string a5, .string a6, .string a7, .string a8, .string a9, .string a10, .string a11, .bool b12, .string a13, .string a14, .float .f64 r15, .slice none 0 0]
  | 75, v, _ => v = .pointer (some ⟨B, 0, none⟩)
  | _, _, _ => True
theorem ISP5_below {B : Nat} {q : Nat} {a0 a5 a6 a7 a8 a9 a10 a11 a13 a14 : ByteArray} {n2 n3 n4 : Int} {b12 : Bool} {r15 : Nat} : ∀ j v w w', ISP5 B q a0 a5 a6 a7 a8 a9 a10 a11 a13 a14 n2 n3 n4 b12 r15 j v w → Below w.heap.size w w' → ISP5 B q a0 a5 a6 a7 a8 a9 a10 a11 a13 a14 n2 n3 n4 b12 r15 j v w' := by
  intro j v w w' h _
  unfold ISP5 at h ⊢
  split <;> first | exact h | trivial
set_option maxRecDepth 100000 in
set_option maxHeartbeats 8000000 in
theorem irgn5 {Q : Exit → Act → World → Prop} {l : List Value} {df : List Deferred} {w0 : World} (q : Nat) (a0 a5 a6 a7 a8 a9 a10 a11 a13 a14 : ByteArray) (n2 n3 n4 : Int) (b12 : Bool) (r15 : Nat) (sl : Value) (hlen : l.length = 168) (h5 : l.getD 5 undef = .pointer (some ⟨q, 0, none⟩))
    (hV : Lies w0 q 98 #[.string a0, .pointer none, .int .u32 n2, .int .u32 n3, .int .u32 n4, .string a5, .string a6, .string a7, .string a8, .string a9, .string a10, .string a11, .bool b12, .string a13, .string a14, .float .f64 r15, sl])
    (hQ : ∀ us w', us 6 = .pointer (some ⟨w0.heap.size, 0, none⟩) → Lies w' w0.heap.size 41 #[Value.string a0, .int .u32 n2, .int .u32 n3, .int .u32 n4, .string a5, .string a6, .string a7, .string a8, .string a9, .string a10, .string a11, .bool b12, .string a13, .string a14, .float .f64 r15, .slice none 0 0] → Below w0.heap.size w0 w' → Q .normal ⟨Fr 168 (mix (fun t => (Nat.ble 28 t && Nat.ble t 102) || Nat.beq t 6) us (fun k => l.getD k undef)), df⟩ w') :
    (regionOf 5 Tryz.f22).wp Tryz.prog Q ⟨l.toArray, df⟩ w0 := by
  obtain ⟨z, hz⟩ : ∃ z, z = Obj.cells #[Value.string ⟨#[]⟩, .int .u32 0, .int .u32 0, .int .u32 0, .string ⟨#[]⟩, .string ⟨#[]⟩, .string ⟨#[]⟩, .string ⟨#[]⟩, .string ⟨#[]⟩, .string ⟨#[]⟩, .string ⟨#[]⟩, .bool false, .string ⟨#[]⟩, .string ⟨#[]⟩, .float .f64 0, .slice none 0 0] 41 := ⟨_, rfl⟩
  have HQ := Lib.hid hQ
  have HV := Lib.hid hV
  clear hQ hV
  have HVW : ∀ (L : Nat → Bool) (w : World), w = (bif L 75 then w0.drew.alloc z else w0.drew) → Lies w q 98 #[.string a0, .pointer none, .int .u32 n2, .int .u32 n3, .int .u32 n4, .string a5, .string a6, .string a7, .string a8, .string a9, .string a10, .string a11, .bool b12, .string a13, .string a14, .float .f64 r15, sl] := by
    intro L w hw
    subst hw
    cases L 75
    · exact HV.out.below ((Below.refl _ _).drew)
    · exact (HV.out.below ((Below.refl _ _).drew)).alloc _
  show Code.wp Tryz.prog (.region 5 (List.toArray _) true) _ _ _
  rw [Fr_lit, hlen]
  refine region_tbl (N := 76) (by kernel_rfl) (by kernel_rfl) (by kernel_rfl) (by decide) (fun t => (Nat.ble 28 t && Nat.ble t 102) || Nat.beq t 6) (fun j => bif Nat.beq j 75 then 6 else 28 + j) (ISP5 w0.heap.size q a0 a5 a6 a7 a8 a9 a10 a11 a13 a14 n2 n3 n4 b12 r15) (fun L w => w = (bif L 75 then w0.drew.alloc z else w0.drew)) ?_ ?_ ?_ ?_ ?_ ?_
  · intro j hj
    by_cases h : j = 75
    · subst h; rfl
    · rw [beq75 h]; simp; omega
  · intro j k hj hk e
    by_cases h : j = 75 <;> by_cases h' : k = 75
    · omega
    · subst h
      rw [beq75 h'] at e
      have e1 : 6 = 28 + k := e
      omega
    · subst h'
      rw [beq75 h] at e
      have e1 : 28 + j = 6 := e
      omega
    · rw [beq75 h, beq75 h'] at e
      omega
  · exact ISP5_below
  · rfl
  · subst hz
    refine steps_all (steps_cons ?_ (steps_cons ?_ (steps_cons ?_ (steps_cons ?_ (steps_cons ?_ (steps_cons ?_ (steps_cons ?_ (steps_cons ?_ (steps_cons ?_ (steps_cons ?_ (steps_cons ?_ (steps_cons ?_ (steps_cons ?_ (steps_cons ?_ (steps_cons ?_ (steps_cons ?_ (steps_cons ?_ (steps_cons ?_ (steps_cons ?_ (steps_cons ?_ (steps_cons ?_ (steps_cons ?_ (steps_cons ?_ (steps_cons ?_ (steps_cons ?_ (steps_cons ?_ (steps_cons ?_ (steps_cons ?_ (steps_cons ?_ (steps_cons ?_ (steps_cons ?_ (steps_cons ?_ (steps_cons ?_ (steps_cons ?_ (steps_cons ?_ (steps_cons ?_ (steps_cons ?_ (steps_cons ?_ (steps_cons ?_ (steps_cons ?_ (steps_cons ?_ (steps_cons ?_ (steps_cons ?_ (steps_cons ?_ (steps_cons ?_ (steps_cons ?_ (steps_cons ?_ (steps_cons ?_ (steps_cons ?_ (steps_cons ?_ (steps_cons ?_ (steps_cons ?_ (steps_cons ?_ (steps_cons ?_ (steps_cons ?_ (steps_cons ?_ (steps_cons ?_ (steps_cons ?_ (steps_cons ?_ (steps_cons ?_ (steps_cons ?_ (steps_cons ?_ (steps_cons ?_ (steps_cons ?_ (steps_cons ?_ (steps_cons ?_ (steps_cons ?_ (steps_cons ?_ (steps_cons ?_ (steps_cons ?_ (steps_cons ?_ (steps_cons ?_ (steps_cons ?_ (steps_cons ?_ (steps_cons ?_ (steps_cons ?_ ?_))))))))))))))))))))))))))))))))))))))))))))))))))))))))))))))))))))))))))))
    · refine ⟨rfl, fun L us w K a hun hu h0 hw hd hK => ?_⟩
      have HWW := Lib.hid hw
      have e5 := h0 5 (by decide) (by decide)
      rw [h5] at e5
      clear hu h0 hd hw
      go_simp
      exact hK _ _ (Below.refl _ _) HWW.out rfl
    · refine ⟨rfl, fun L us w K a hun hu h0 hw hd hK => ?_⟩
      have HWW := Lib.hid hw
      have e28 := hu 28 (by decide) (by decide)
      rw [show us 28 = _ from hd 0 (by kernel_rfl)] at e28
      clear hu h0 hd hw
      go_simp
      exact hK _ _ (Below.refl _ _) HWW.out rfl
    · refine ⟨rfl, fun L us w K a hun hu h0 hw hd hK => ?_⟩
      have HWW := Lib.hid hw
      have e29 := hu 29 (by decide) (by decide)
      rw [show us 29 = _ from hd 1 (by kernel_rfl)] at e29
      clear hu h0 hd hw
      go_simp
      exact hK _ _ (Below.refl _ _) HWW.out rfl
    · refine ⟨rfl, fun L us w K a hun hu h0 hw hd hK => ?_⟩
      have HWW := Lib.hid hw
      have e30 := hu 30 (by decide) (by decide)
      rw [show us 30 = _ from hd 2 (by kernel_rfl)] at e30
      have hc : w.cell? ⟨q, 0, none⟩ = some (.string a0) := (HVW L w hw).cell 0
      clear hu h0 hd hw
      go_simp
      exact hK _ _ (Below.refl _ _) HWW.out rfl
    · refine ⟨rfl, fun L us w K a hun hu h0 hw hd hK => ?_⟩
      have HWW := Lib.hid hw
      have e5 := h0 5 (by decide) (by decide)
      rw [h5] at e5
      clear hu h0 hd hw
      go_simp
      exact hK _ _ (Below.refl _ _) HWW.out rfl
    · refine ⟨rfl, fun L us w K a hun hu h0 hw hd hK => ?_⟩
      have HWW := Lib.hid hw
      have e32 := hu 32 (by decide) (by decide)
      rw [show us 32 = _ from hd 4 (by kernel_rfl)] at e32
      clear hu h0 hd hw
      go_simp
      exact hK _ _ (Below.refl _ _) HWW.out rfl
    · refine ⟨rfl, fun L us w K a hun hu h0 hw hd hK => ?_⟩
      have HWW := Lib.hid hw
      have e33 := hu 33 (by decide) (by decide)
      rw [show us 33 = _ from hd 5 (by kernel_rfl)] at e33
      clear hu h0 hd hw
      go_simp
      exact hK _ _ (Below.refl _ _) HWW.out rfl
    · refine ⟨rfl, fun L us w K a hun hu h0 hw hd hK => ?_⟩
      have HWW := Lib.hid hw
      have e34 := hu 34 (by decide) (by decide)
      rw [show us 34 = _ from hd 6 (by kernel_rfl)] at e34
      clear hu h0 hd hw
      go_simp
      exact hK _ _ (Below.refl _ _) HWW.out rfl
    · refine ⟨rfl, fun L us w K a hun hu h0 hw hd hK => ?_⟩
      have HWW := Lib.hid hw
      have e35 := hu 35 (by decide) (by decide)
      rw [show us 35 = _ from hd 7 (by kernel_rfl)] at e35
      have hc : w.cell? ⟨q, 2, none⟩ = some (.int .u32 n2) := (HVW L w hw).cell 2
      clear hu h0 hd hw
      go_simp
      exact hK _ _ (Below.refl _ _) HWW.out rfl
    · refine ⟨rfl, fun L us w K a hun hu h0 hw hd hK => ?_⟩
      have HWW := Lib.hid hw
      have e5 := h0 5 (by decide) (by decide)
      rw [h5] at e5
      clear hu h0 hd hw
      go_simp
      exact hK _ _ (Below.refl _ _) HWW.out rfl
    · refine ⟨rfl, fun L us w K a hun hu h0 hw hd hK => ?_⟩
      have HWW := Lib.hid hw
      have e37 := hu 37 (by decide) (by decide)
      rw [show us 37 = _ from hd 9 (by kernel_rfl)] at e37
      clear hu h0 hd hw
      go_simp
      exact hK _ _ (Below.refl _ _) HWW.out rfl
    · refine ⟨rfl, fun L us w K a hun hu h0 hw hd hK => ?_⟩
      have HWW := Lib.hid hw
      have e38 := hu 38 (by decide) (by decide)
      rw [show us 38 = _ from hd 10 (by kernel_rfl)] at e38
      clear hu h0 hd hw
      go_simp
      exact hK _ _ (Below.refl _ _) HWW.out rfl
    · refine ⟨rfl, fun L us w K a hun hu h0 hw hd hK => ?_⟩
      have HWW := Lib.hid hw
      have e39 := hu 39 (by decide) (by decide)
      rw [show us 39 = _ from hd 11 (by kernel_rfl)] at e39
      clear hu h0 hd hw
      go_simp
      exact hK _ _ (Below.refl _ _) HWW.out rfl
    · refine ⟨rfl, fun L us w K a hun hu h0 hw hd hK => ?_⟩
      have HWW := Lib.hid hw
      have e40 := hu 40 (by decide) (by decide)
      rw [show us 40 = _ from hd 12 (by kernel_rfl)] at e40
      have hc : w.cell? ⟨q, 3, none⟩ = some (.int .u32 n3) := (HVW L w hw).cell 3
      clear hu h0 hd hw
      go_simp
      exact hK _ _ (Below.refl _ _) HWW.out rfl
    · refine ⟨rfl, fun L us w K a hun hu h0 hw hd hK => ?_⟩
      have HWW := Lib.hid hw
      have e5 := h0 5 (by decide) (by decide)
      rw [h5] at e5
      clear hu h0 hd hw
      go_simp
      exact hK _ _ (Below.refl _ _) HWW.out rfl
    · refine ⟨rfl, fun L us w K a hun hu h0 hw hd hK => ?_⟩
      have HWW := Lib.hid hw
      have e42 := hu 42 (by decide) (by decide)
      rw [show us 42 = _ from hd 14 (by kernel_rfl)] at e42
      clear hu h0 hd hw
      go_simp
      exact hK _ _ (Below.refl _ _) HWW.out rfl
    · refine ⟨rfl, fun L us w K a hun hu h0 hw hd hK => ?_⟩
      have HWW := Lib.hid hw
      have e43 := hu 43 (by decide) (by decide)
      rw [show us 43 = _ from hd 15 (by kernel_rfl)] at e43
      clear hu h0 hd hw
      go_simp
      exact hK _ _ (Below.refl _ _) HWW.out rfl
    · refine ⟨rfl, fun L us w K a hun hu h0 hw hd hK => ?_⟩
      have HWW := Lib.hid hw
      have e44 := hu 44 (by decide) (by decide)
      rw [show us 44 = _ from hd 16 (by kernel_rfl)] at e44
      clear hu h0 hd hw
      go_simp
      exact hK _ _ (Below.refl _ _) HWW.out rfl
    · refine ⟨rfl, fun L us w K a hun hu h0 hw hd hK => ?_⟩
      have HWW := Lib.hid hw
      have e45 := hu 45 (by decide) (by decide)
      rw [show us 45 = _ from hd 17 (by kernel_rfl)] at e45
      have hc : w.cell? ⟨q, 4, none⟩ = some (.int .u32 n4) := (HVW L w hw).cell 4
      clear hu h0 hd hw
      go_simp
      exact hK _ _ (Below.refl _ _) HWW.out rfl
    · refine ⟨rfl, fun L us w K a hun hu h0 hw hd hK => ?_⟩
      have HWW := Lib.hid hw
      have e5 := h0 5 (by decide) (by decide)
      rw [h5] at e5
      clear hu h0 hd hw
      go_simp
      exact hK _ _ (Below.refl _ _) HWW.out rfl
    · refine ⟨rfl, fun L us w K a hun hu h0 hw hd hK => ?_⟩
      have HWW := Lib.hid hw
      have e47 := hu 47 (by decide) (by decide)
      rw [show us 47 = _ from hd 19 (by kernel_rfl)] at e47
      clear hu h0 hd hw
      go_simp
      exact hK _ _ (Below.refl _ _) HWW.out rfl
    · refine ⟨rfl, fun L us w K a hun hu h0 hw hd hK => ?_⟩
      have HWW := Lib.hid hw
      have e48 := hu 48 (by decide) (by decide)
      rw [show us 48 = _ from hd 20 (by kernel_rfl)] at e48
      clear hu h0 hd hw
      go_simp
      exact hK _ _ (Below.refl _ _) HWW.out rfl
    · refine ⟨rfl, fun L us w K a hun hu h0 hw hd hK => ?_⟩
      have HWW := Lib.hid hw
      have e49 := hu 49 (by decide) (by decide)
      rw [show us 49 = _ from hd 21 (by kernel_rfl)] at e49
      clear hu h0 hd hw
      go_simp
      exact hK _ _ (Below.refl _ _) HWW.out rfl
    · refine ⟨rfl, fun L us w K a hun hu h0 hw hd hK => ?_⟩
      have HWW := Lib.hid hw
      have e50 := hu 50 (by decide) (by decide)
      rw [show us 50 = _ from hd 22 (by kernel_rfl)] at e50
      have hc : w.cell? ⟨q, 5, none⟩ = some (.string a5) := (HVW L w hw).cell 5
      clear hu h0 hd hw
      go_simp
      exact hK _ _ (Below.refl _ _) HWW.out rfl
    · refine ⟨rfl, fun L us w K a hun hu h0 hw hd hK => ?_⟩
      have HWW := Lib.hid hw
      have e5 := h0 5 (by decide) (by decide)
      rw [h5] at e5
      clear hu h0 hd hw
      go_simp
      exact hK _ _ (Below.refl _ _) HWW.out rfl
    · refine ⟨rfl, fun L us w K a hun hu h0 hw hd hK => ?_⟩
      have HWW := Lib.hid hw
      have e52 := hu 52 (by decide) (by decide)
      rw [show us 52 = _ from hd 24 (by kernel_rfl)] at e52
      clear hu h0 hd hw
      go_simp
      exact hK _ _ (Below.refl _ _) HWW.out rfl
    · refine ⟨rfl, fun L us w K a hun hu h0 hw hd hK => ?_⟩
      have HWW := Lib.hid hw
      have e53 := hu 53 (by decide) (by decide)
      rw [show us 53 = _ from hd 25 (by kernel_rfl)] at e53
      clear hu h0 hd hw
      go_simp
      exact hK _ _ (Below.refl _ _) HWW.out rfl
    · refine ⟨rfl, fun L us w K a hun hu h0 hw hd hK => ?_⟩
      have HWW := Lib.hid hw
      have e54 := hu 54 (by decide) (by decide)
      rw [show us 54 = _ from hd 26 (by kernel_rfl)] at e54
      clear hu h0 hd hw
      go_simp
      exact hK _ _ (Below.refl _ _) HWW.out rfl
    · refine ⟨rfl, fun L us w K a hun hu h0 hw hd hK => ?_⟩
      have HWW := Lib.hid hw
      have e55 := hu 55 (by decide) (by decide)
      rw [show us 55 = _ from hd 27 (by kernel_rfl)] at e55
      have hc : w.cell? ⟨q, 6, none⟩ = some (.string a6) := (HVW L w hw).cell 6
      clear hu h0 hd hw
      go_simp
      exact hK _ _ (Below.refl _ _) HWW.out rfl
    · refine ⟨rfl, fun L us w K a hun hu h0 hw hd hK => ?_⟩
      have HWW := Lib.hid hw
      have e5 := h0 5 (by decide) (by decide)
      rw [h5] at e5
      clear hu h0 hd hw
      go_simp
      exact hK _ _ (Below.refl _ _) HWW.out rfl
    · refine ⟨rfl, fun L us w K a hun hu h0 hw hd hK => ?_⟩
      have HWW := Lib.hid hw
      have e57 := hu 57 (by decide) (by decide)
      rw [show us 57 = _ from hd 29 (by kernel_rfl)] at e57
      clear hu h0 hd hw
      go_simp
      exact hK _ _ (Below.refl _ _) HWW.out rfl
    · refine ⟨rfl, fun L us w K a hun hu h0 hw hd hK => ?_⟩
      have HWW := Lib.hid hw
      have e58 := hu 58 (by decide) (by decide)
      rw [show us 58 = _ from hd 30 (by kernel_rfl)] at e58
      clear hu h0 hd hw
      go_simp
      exact hK _ _ (Below.refl _ _) HWW.out rfl
    · refine ⟨rfl, fun L us w K a hun hu h0 hw hd hK => ?_⟩
      have HWW := Lib.hid hw
      have e59 := hu 59 (by decide) (by decide)
      rw [show us 59 = _ from hd 31 (by kernel_rfl)] at e59
      clear hu h0 hd hw
      go_simp
      exact hK _ _ (Below.refl _ _) HWW.out rfl
    · refine ⟨rfl, fun L us w K a hun hu h0 hw hd hK => ?_⟩
      have HWW := Lib.hid hw
      have e60 := hu 60 (by decide) (by decide)
      rw [show us 60 = _ from hd 32 (by kernel_rfl)] at e60
      have hc : w.cell? ⟨q, 7, none⟩ = some (.string a7) := (HVW L w hw).cell 7
      clear hu h0 hd hw
      go_simp
      exact hK _ _ (Below.refl _ _) HWW.out rfl
    · refine ⟨rfl, fun L us w K a hun hu h0 hw hd hK => ?_⟩
      have HWW := Lib.hid hw
      have e5 := h0 5 (by decide) (by decide)
      rw [h5] at e5
      clear hu h0 hd hw
      go_simp
      exact hK _ _ (Below.refl _ _) HWW.out rfl
    · refine ⟨rfl, fun L us w K a hun hu h0 hw hd hK => ?_⟩
      have HWW := Lib.hid hw
      have e62 := hu 62 (by decide) (by decide)
      rw [show us 62 = _ from hd 34 (by kernel_rfl)] at e62
      clear hu h0 hd hw
      go_simp
      exact hK _ _ (Below.refl _ _) HWW.out rfl
    · refine ⟨rfl, fun L us w K a hun hu h0 hw hd hK => ?_⟩
      have HWW := Lib.hid hw
      have e63 := hu 63 (by decide) (by decide)
      rw [show us 63 = _ from hd 35 (by kernel_rfl)] at e63
      clear hu h0 hd hw
      go_simp
      exact hK _ _ (Below.refl _ _) HWW.out rfl
    · refine ⟨rfl, fun L us w K a hun hu h0 hw hd hK => ?_⟩
      have HWW := Lib.hid hw
      have e64 := hu 64 (by decide) (by decide)
      rw [show us 64 = _ from hd 36 (by kernel_rfl)] at e64
      clear hu h0 hd hw
      go_simp
      exact hK _ _ (Below.refl _ _) HWW.out rfl
    · refine ⟨rfl, fun L us w K a hun hu h0 hw hd hK => ?_⟩
      have HWW := Lib.hid hw
      have e65 := hu 65 (by decide) (by decide)
      rw [show us 65 = _ from hd 37 (by kernel_rfl)] at e65
      have hc : w.cell? ⟨q, 8, none⟩ = some (.string a8) := (HVW L w hw).cell 8
      clear hu h0 hd hw
      go_simp
      exact hK _ _ (Below.refl _ _) HWW.out rfl
    · refine ⟨rfl, fun L us w K a hun hu h0 hw hd hK => ?_⟩
      have HWW := Lib.hid hw
      have e5 := h0 5 (by decide) (by decide)
      rw [h5] at e5
      clear hu h0 hd hw
      go_simp
      exact hK _ _ (Below.refl _ _) HWW.out rfl
    · refine ⟨rfl, fun L us w K a hun hu h0 hw hd hK => ?_⟩
      have HWW := Lib.hid hw
      have e67 := hu 67 (by decide) (by decide)
      rw [show us 67 = _ from hd 39 (by kernel_rfl)] at e67
      clear hu h0 hd hw
      go_simp
      exact hK _ _ (Below.refl _ _) HWW.out rfl
    · refine ⟨rfl, fun L us w K a hun hu h0 hw hd hK => ?_⟩
      have HWW := Lib.hid hw
      have e68 := hu 68 (by decide) (by decide)
      rw [show us 68 = _ from hd 40 (by kernel_rfl)] at e68
      clear hu h0 hd hw
      go_simp
      exact hK _ _ (Below.refl _ _) HWW.out rfl
    · refine ⟨rfl, fun L us w K a hun hu h0 hw hd hK => ?_⟩
      have HWW := Lib.hid hw
      have e69 := hu 69 (by decide) (by decide)
      rw [show us 69 = _ from hd 41 (by kernel_rfl)] at e69
      clear hu h0 hd hw
      go_simp
      exact hK _ _ (Below.refl _ _) HWW.out rfl
    · refine ⟨rfl, fun L us w K a hun hu h0 hw hd hK => ?_⟩
      have HWW := Lib.hid hw
      have e70 := hu 70 (by decide) (by decide)
      rw [show us 70 = _ from hd 42 (by kernel_rfl)] at e70
      have hc : w.cell? ⟨q, 9, none⟩ = some (.string a9) := (HVW L w hw).cell 9
      clear hu h0 hd hw
      go_simp
      exact hK _ _ (Below.refl _ _) HWW.out rfl
    · refine ⟨rfl, fun L us w K a hun hu h0 hw hd hK => ?_⟩
      have HWW := Lib.hid hw
      have e5 := h0 5 (by decide) (by decide)
      rw [h5] at e5
      clear hu h0 hd hw
      go_simp
      exact hK _ _ (Below.refl _ _) HWW.out rfl
    · refine ⟨rfl, fun L us w K a hun hu h0 hw hd hK => ?_⟩
      have HWW := Lib.hid hw
      have e72 := hu 72 (by decide) (by decide)
      rw [show us 72 = _ from hd 44 (by kernel_rfl)] at e72
      clear hu h0 hd hw
      go_simp
      exact hK _ _ (Below.refl _ _) HWW.out rfl
    · refine ⟨rfl, fun L us w K a hun hu h0 hw hd hK => ?_⟩
      have HWW := Lib.hid hw
      have e73 := hu 73 (by decide) (by decide)
      rw [show us 73 = _ from hd 45 (by kernel_rfl)] at e73
      clear hu h0 hd hw
      go_simp
      exact hK _ _ (Below.refl _ _) HWW.out rfl
    · refine ⟨rfl, fun L us w K a hun hu h0 hw hd hK => ?_⟩
      have HWW := Lib.hid hw
      have e74 := hu 74 (by decide) (by decide)
      rw [show us 74 = _ from hd 46 (by kernel_rfl)] at e74
      clear hu h0 hd hw
      go_simp
      exact hK _ _ (Below.refl _ _) HWW.out rfl
    · refine ⟨rfl, fun L us w K a hun hu h0 hw hd hK => ?_⟩
      have HWW := Lib.hid hw
      have e75 := hu 75 (by decide) (by decide)
      rw [show us 75 = _ from hd 47 (by kernel_rfl)] at e75
      have hc : w.cell? ⟨q, 10, none⟩ = some (.string a10) := (HVW L w hw).cell 10
      clear hu h0 hd hw
      go_simp
      exact hK _ _ (Below.refl _ _) HWW.out rfl
    · refine ⟨rfl, fun L us w K a hun hu h0 hw hd hK => ?_⟩
      have HWW := Lib.hid hw
      have e5 := h0 5 (by decide) (by decide)
      rw [h5] at e5
      clear hu h0 hd hw
      go_simp
      exact hK _ _ (Below.refl _ _) HWW.out rfl
    · refine ⟨rfl, fun L us w K a hun hu h0 hw hd hK => ?_⟩
      have HWW := Lib.hid hw
      have e77 := hu 77 (by decide) (by decide)
      rw [show us 77 = _ from hd 49 (by kernel_rfl)] at e77
      clear hu h0 hd hw
      go_simp
      exact hK _ _ (Below.refl _ _) HWW.out rfl
    · refine ⟨rfl, fun L us w K a hun hu h0 hw hd hK => ?_⟩
      have HWW := Lib.hid hw
      have e78 := hu 78 (by decide) (by decide)
      rw [show us 78 = _ from hd 50 (by kernel_rfl)] at e78
      clear hu h0 hd hw
      go_simp
      exact hK _ _ (Below.refl _ _) HWW.out rfl
    · refine ⟨rfl, fun L us w K a hun hu h0 hw hd hK => ?_⟩
      have HWW := Lib.hid hw
      have e79 := hu 79 (by decide) (by decide)
      rw [show us 79 = _ from hd 51 (by kernel_rfl)] at e79
      clear hu h0 hd hw
      go_simp
      exact hK _ _ (Below.refl _ _) HWW.out rfl
    · refine ⟨rfl, fun L us w K a hun hu h0 hw hd hK => ?_⟩
      have HWW := Lib.hid hw
      have e80 := hu 80 (by decide) (by decide)
      rw [show us 80 = _ from hd 52 (by kernel_rfl)] at e80
      have hc : w.cell? ⟨q, 11, none⟩ = some (.string a11) := (HVW L w hw).cell 11
      clear hu h0 hd hw
      go_simp
      exact hK _ _ (Below.refl _ _) HWW.out rfl
    · refine ⟨rfl, fun L us w K a hun hu h0 hw hd hK => ?_⟩
      have HWW := Lib.hid hw
      have e5 := h0 5 (by decide) (by decide)
      rw [h5] at e5
      clear hu h0 hd hw
      go_simp
      exact hK _ _ (Below.refl _ _) HWW.out rfl
    · refine ⟨rfl, fun L us w K a hun hu h0 hw hd hK => ?_⟩
      have HWW := Lib.hid hw
      have e82 := hu 82 (by decide) (by decide)
      rw [show us 82 = _ from hd 54 (by kernel_rfl)] at e82
      clear hu h0 hd hw
      go_simp
      exact hK _ _ (Below.refl _ _) HWW.out rfl
    · refine ⟨rfl, fun L us w K a hun hu h0 hw hd hK => ?_⟩
      have HWW := Lib.hid hw
      have e83 := hu 83 (by decide) (by decide)
      rw [show us 83 = _ from hd 55 (by kernel_rfl)] at e83
      clear hu h0 hd hw
      go_simp
      exact hK _ _ (Below.refl _ _) HWW.out rfl
    · refine ⟨rfl, fun L us w K a hun hu h0 hw hd hK => ?_⟩
      have HWW := Lib.hid hw
      have e84 := hu 84 (by decide) (by decide)
      rw [show us 84 = _ from hd 56 (by kernel_rfl)] at e84
      clear hu h0 hd hw
      go_simp
      exact hK _ _ (Below.refl _ _) HWW.out rfl
    · refine ⟨rfl, fun L us w K a hun hu h0 hw hd hK => ?_⟩
      have HWW := Lib.hid hw
      have e85 := hu 85 (by decide) (by decide)
      rw [show us 85 = _ from hd 57 (by kernel_rfl)] at e85
      have hc : w.cell? ⟨q, 12, none⟩ = some (.bool b12) := (HVW L w hw).cell 12
      clear hu h0 hd hw
      go_simp
      exact hK _ _ (Below.refl _ _) HWW.out rfl
    · refine ⟨rfl, fun L us w K a hun hu h0 hw hd hK => ?_⟩
      have HWW := Lib.hid hw
      have e5 := h0 5 (by decide) (by decide)
      rw [h5] at e5
      clear hu h0 hd hw
      go_simp
      exact hK _ _ (Below.refl _ _) HWW.out rfl
    · refine ⟨rfl, fun L us w K a hun hu h0 hw hd hK => ?_⟩
      have HWW := Lib.hid hw
      have e87 := hu 87 (by decide) (by decide)
      rw [show us 87 = _ from hd 59 (by kernel_rfl)] at e87
      clear hu h0 hd hw
      go_simp
      exact hK _ _ (Below.refl _ _) HWW.out rfl
    · refine ⟨rfl, fun L us w K a hun hu h0 hw hd hK => ?_⟩
      have HWW := Lib.hid hw
      have e88 := hu 88 (by decide) (by decide)
      rw [show us 88 = _ from hd 60 (by kernel_rfl)] at e88
      clear hu h0 hd hw
      go_simp
      exact hK _ _ (Below.refl _ _) HWW.out rfl
    · refine ⟨rfl, fun L us w K a hun hu h0 hw hd hK => ?_⟩
      have HWW := Lib.hid hw
      have e89 := hu 89 (by decide) (by decide)
      rw [show us 89 = _ from hd 61 (by kernel_rfl)] at e89
      clear hu h0 hd hw
      go_simp
      exact hK _ _ (Below.refl _ _) HWW.out rfl
    · refine ⟨rfl, fun L us w K a hun hu h0 hw hd hK => ?_⟩
      have HWW := Lib.hid hw
      have e90 := hu 90 (by decide) (by decide)
      rw [show us 90 = _ from hd 62 (by kernel_rfl)] at e90
      have hc : w.cell? ⟨q, 13, none⟩ = some (.string a13) := (HVW L w hw).cell 13
      clear hu h0 hd hw
      go_simp
      exact hK _ _ (Below.refl _ _) HWW.out rfl
    · refine ⟨rfl, fun L us w K a hun hu h0 hw hd hK => ?_⟩
      have HWW := Lib.hid hw
      have e5 := h0 5 (by decide) (by decide)
      rw [h5] at e5
      clear hu h0 hd hw
      go_simp
      exact hK _ _ (Below.refl _ _) HWW.out rfl
    · refine ⟨rfl, fun L us w K a hun hu h0 hw hd hK => ?_⟩
      have HWW := Lib.hid hw
      have e92 := hu 92 (by decide) (by decide)
      rw [show us 92 = _ from hd 64 (by kernel_rfl)] at e92
      clear hu h0 hd hw
      go_simp
      exact hK _ _ (Below.refl _ _) HWW.out rfl
    · refine ⟨rfl, fun L us w K a hun hu h0 hw hd hK => ?_⟩
      have HWW := Lib.hid hw
      have e93 := hu 93 (by decide) (by decide)
      rw [show us 93 = _ from hd 65 (by kernel_rfl)] at e93
      clear hu h0 hd hw
      go_simp
      exact hK _ _ (Below.refl _ _) HWW.out rfl
    · refine ⟨rfl, fun L us w K a hun hu h0 hw hd hK => ?_⟩
      have HWW := Lib.hid hw
      have e94 := hu 94 (by decide) (by decide)
      rw [show us 94 = _ from hd 66 (by kernel_rfl)] at e94
      clear hu h0 hd hw
      go_simp
      exact hK _ _ (Below.refl _ _) HWW.out rfl
    · refine ⟨rfl, fun L us w K a hun hu h0 hw hd hK => ?_⟩
      have HWW := Lib.hid hw
      have e95 := hu 95 (by decide) (by decide)
      rw [show us 95 = _ from hd 67 (by kernel_rfl)] at e95
      have hc : w.cell? ⟨q, 14, none⟩ = some (.string a14) := (HVW L w hw).cell 14
      clear hu h0 hd hw
      go_simp
      exact hK _ _ (Below.refl _ _) HWW.out rfl
    · refine ⟨rfl, fun L us w K a hun hu h0 hw hd hK => ?_⟩
      have HWW := Lib.hid hw
      have e5 := h0 5 (by decide) (by decide)
      rw [h5] at e5
      clear hu h0 hd hw
      go_simp
      exact hK _ _ (Below.refl _ _) HWW.out rfl
    · refine ⟨rfl, fun L us w K a hun hu h0 hw hd hK => ?_⟩
      have HWW := Lib.hid hw
      have e97 := hu 97 (by decide) (by decide)
      rw [show us 97 = _ from hd 69 (by kernel_rfl)] at e97
      clear hu h0 hd hw
      go_simp
      exact hK _ _ (Below.refl _ _) HWW.out rfl
    · refine ⟨rfl, fun L us w K a hun hu h0 hw hd hK => ?_⟩
      have HWW := Lib.hid hw
      have e98 := hu 98 (by decide) (by decide)
      rw [show us 98 = _ from hd 70 (by kernel_rfl)] at e98
      clear hu h0 hd hw
      go_simp
      exact hK _ _ (Below.refl _ _) HWW.out rfl
    · refine ⟨rfl, fun L us w K a hun hu h0 hw hd hK => ?_⟩
      have HWW := Lib.hid hw
      have e99 := hu 99 (by decide) (by decide)
      rw [show us 99 = _ from hd 71 (by kernel_rfl)] at e99
      clear hu h0 hd hw
      go_simp
      exact hK _ _ (Below.refl _ _) HWW.out rfl
    · refine ⟨rfl, fun L us w K a hun hu h0 hw hd hK => ?_⟩
      have HWW := Lib.hid hw
      have e100 := hu 100 (by decide) (by decide)
      rw [show us 100 = _ from hd 72 (by kernel_rfl)] at e100
      have hc : w.cell? ⟨q, 15, none⟩ = some (.float .f64 r15) := (HVW L w hw).cell 15
      clear hu h0 hd hw
      go_simp
      exact hK _ _ (Below.refl _ _) HWW.out rfl
    · refine ⟨rfl, fun L us w K a hun hu h0 hw hd hK => ?_⟩
      have HWW := Lib.hid hw
      have e31 := hu 31 (by decide) (by decide)
      rw [show us 31 = _ from hd 3 (by kernel_rfl)] at e31
      have e36 := hu 36 (by decide) (by decide)
      rw [show us 36 = _ from hd 8 (by kernel_rfl)] at e36
      have e41 := hu 41 (by decide) (by decide)
      rw [show us 41 = _ from hd 13 (by kernel_rfl)] at e41
      have e46 := hu 46 (by decide) (by decide)
      rw [show us 46 = _ from hd 18 (by kernel_rfl)] at e46
      have e51 := hu 51 (by decide) (by decide)
      rw [show us 51 = _ from hd 23 (by kernel_rfl)] at e51
      have e56 := hu 56 (by decide) (by decide)
      rw [show us 56 = _ from hd 28 (by kernel_rfl)] at e56
      have e61 := hu 61 (by decide) (by decide)
      rw [show us 61 = _ from hd 33 (by kernel_rfl)] at e61
      have e66 := hu 66 (by decide) (by decide)
      rw [show us 66 = _ from hd 38 (by kernel_rfl)] at e66
      have e71 := hu 71 (by decide) (by decide)
      rw [show us 71 = _ from hd 43 (by kernel_rfl)] at e71
      have e76 := hu 76 (by decide) (by decide)
      rw [show us 76 = _ from hd 48 (by kernel_rfl)] at e76
      have e81 := hu 81 (by decide) (by decide)
      rw [show us 81 = _ from hd 53 (by kernel_rfl)] at e81
      have e86 := hu 86 (by decide) (by decide)
      rw [show us 86 = _ from hd 58 (by kernel_rfl)] at e86
      have e91 := hu 91 (by decide) (by decide)
      rw [show us 91 = _ from hd 63 (by kernel_rfl)] at e91
      have e96 := hu 96 (by decide) (by decide)
      rw [show us 96 = _ from hd 68 (by kernel_rfl)] at e96
      have e101 := hu 101 (by decide) (by decide)
      rw [show us 101 = _ from hd 73 (by kernel_rfl)] at e101
      clear hu h0 hd hw
      go_simp
      exact hK _ _ (Below.refl _ _) HWW.out rfl
    · refine ⟨rfl, fun L us w K a hun hu h0 hw hd hK => ?_⟩
      have HWW := Lib.hid hw
      have hw1 : w = w0.drew := by rw [hw, hun]; rfl
      clear hu h0 hd hw
      subst hw1
      go_simp
      exact hK _ _ ((Below.refl _ _).alloc (Nat.le_refl _) _) rfl rfl
    · exact steps_stop (by decide)
  · intro L us w hl hw ht
    have hw1 : w = w0.drew.alloc z := by rw [hw, hl 75 (by decide)]; rfl
    have t6 : us 6 = .pointer (some ⟨w0.heap.size, 0, none⟩) := ht 75 (by decide)
    have t102 : us 102 = .agg #[Value.string a0, .int .u32 n2, .int .u32 n3, .int .u32 n4, .string a5, .string a6, .string a7, .string a8, .string a9, .string a10, .string a11, .bool b12, .string a13, .string a14, .float .f64 r15, .slice none 0 0] := ht 74 (by decide)
    have hL : Lies w w0.heap.size 41 #[Value.string ⟨#[]⟩, .int .u32 0, .int .u32 0, .int .u32 0, .string ⟨#[]⟩, .string ⟨#[]⟩, .string ⟨#[]⟩, .string ⟨#[]⟩, .string ⟨#[]⟩, .string ⟨#[]⟩, .string ⟨#[]⟩, .bool false, .string ⟨#[]⟩, .string ⟨#[]⟩, .float .f64 0, .slice none 0 0] := by rw [hw1, hz]; exact heap_alloc_new w0.drew _
    have hb : Below w0.heap.size w0 w := by rw [hw1]; exact ((Below.refl _ _).drew).alloc (Nat.le_refl _) _
    have HL := Lib.hid hL
    have HB := Lib.hid hb
    clear hw ht hl hw1 hL hb HVW HV
    show wpTail _ _ [_] _ _
    refine ⟨rfl, ?_⟩
    obtain ⟨F, hF⟩ : ∃ F, F = Fr 168 (mix (fun t => (Nat.ble 28 t && Nat.ble t 102) || Nat.beq t 6) us (fun k => l.getD k undef)) := ⟨_, rfl⟩
    rw [← hF]
    have e6 : F[6]?.getD undef = .pointer (some ⟨w0.heap.size, 0, none⟩) := by rw [hF]; exact (mix_get (by decide) rfl).trans t6
    have e102 : F[102]?.getD undef = .agg #[Value.string a0, .int .u32 n2, .int .u32 n3, .int .u32 n4, .string a5, .string a6, .string a7, .string a8, .string a9, .string a10, .string a11, .bool b12, .string a13, .string a14, .float .f64 r15, .slice none 0 0] := by rw [hF]; exact (mix_get (by decide) rfl).trans t102
    have HF := Lib.hid hF
    have T6 := Lib.hid t6
    clear hF t6 t102
    have x0 := HL.out.cell 0
    have y0 := HL.out.frozen 0
    have x1 := HL.out.cell 1
    have y1 := HL.out.frozen 1
    have x2 := HL.out.cell 2
    have y2 := HL.out.frozen 2
    have x3 := HL.out.cell 3
    have y3 := HL.out.frozen 3
    have x4 := HL.out.cell 4
    have y4 := HL.out.frozen 4
    have x5 := HL.out.cell 5
    have y5 := HL.out.frozen 5
    have x6 := HL.out.cell 6
    have y6 := HL.out.frozen 6
    have x7 := HL.out.cell 7
    have y7 := HL.out.frozen 7
    have x8 := HL.out.cell 8
    have y8 := HL.out.frozen 8
    have x9 := HL.out.cell 9
    have y9 := HL.out.frozen 9
    have x10 := HL.out.cell 10
    have y10 := HL.out.frozen 10
    have x11 := HL.out.cell 11
    have y11 := HL.out.frozen 11
    have x12 := HL.out.cell 12
    have y12 := HL.out.frozen 12
    have x13 := HL.out.cell 13
    have y13 := HL.out.frozen 13
    have x14 := HL.out.cell 14
    have y14 := HL.out.frozen 14
    have x15 := HL.out.cell 15
    have y15 := HL.out.frozen 15
    simp [Array.getElem?_eq_getElem] at x0 x1 x2 x3 x4 x5 x6 x7 x8 x9 x10 x11 x12 x13 x14 x15
    go_simp
    rw [HF.out]
    refine HQ.out us _ T6.out ?_ ?_
    · have h' := (((((((((((((((HL.out.set 0 (.string a0)).set 1 (.int .u32 n2)).set 2 (.int .u32 n3)).set 3 (.int .u32 n4)).set 4 (.string a5)).set 5 (.string a6)).set 6 (.string a7)).set 7 (.string a8)).set 8 (.string a9)).set 9 (.string a10)).set 10 (.string a11)).set 11 (.bool b12)).set 12 (.string a13)).set 13 (.string a14)).set 14 (.float .f64 r15)).set 15 (.slice none 0 0)
      simp only [List.setIfInBounds_toArray, List.set_cons_zero, List.set_cons_succ] at h'
      exact h'
    · exact (((((((((((((((HB.out.setCell (Nat.le_refl _) _).setCell (Nat.le_refl _) _).setCell (Nat.le_refl _) _).setCell (Nat.le_refl _) _).setCell (Nat.le_refl _) _).setCell (Nat.le_refl _) _).setCell (Nat.le_refl _) _).setCell (Nat.le_refl _) _).setCell (Nat.le_refl _) _).setCell (Nat.le_refl _) _).setCell (Nat.le_refl _) _).setCell (Nat.le_refl _) _).setCell (Nat.le_refl _) _).setCell (Nat.le_refl _) _).setCell (Nat.le_refl _) _).setCell (Nat.le_refl _) _
def ISP9 (B : Nat) (X qa : Nat) (asl : Value) (b0 b1 b2 b3 b4 b6 : ByteArray) (b5 : Bool) : Nat → Value → World → Prop
  | 0, v, _ => v = .pointer (some ⟨X, 15, none⟩)
  | 1, v, _ => v = asl
  | 2, v, _ => v = .pointer (some ⟨qa, 0, none⟩)
  | 3, v, _ => v = .pointer (some ⟨qa, 0, none⟩)
  | 4, v, _ => v = .pointer (some ⟨qa, 0, none⟩)
  | 5, v, _ => v = .string b0
  | 6, v, _ => v = .pointer (some ⟨qa, 0, none⟩)
  | 7, v, _ => v = .pointer (some ⟨qa, 0, none⟩)
  | 8, v, _ => v = .pointer (some ⟨qa, 1, none⟩)
  | 9, v, _ => v = .string b1
  | 10, v, _ => v = .pointer (some ⟨qa, 0, none⟩)
  | 11, v, _ => v = .pointer (some ⟨qa, 0, none⟩)
  | 12, v, _ => v = .pointer (some ⟨qa, 2, none⟩)
  | 13, v, _ => v = .string b2
  | 14, v, _ => v = .pointer (some ⟨qa, 0, none⟩)
  | 15, v, _ => v = .pointer (some ⟨qa, 0, none⟩)
  | 16, v, _ => v = .pointer (some ⟨qa, 3, none⟩)
  | 17, v, _ => v = .string b3
  | 18, v, _ => v = .pointer (some ⟨qa, 0, none⟩)
  | 19, v, _ => v = .pointer (some ⟨qa, 0, none⟩)
  | 20, v, _ => v = .pointer (some ⟨qa, 4, none⟩)
  | 21, v, _ => v = .string b4
  | 22, v, _ => v = .pointer (some ⟨qa, 0, none⟩)
  | 23, v, _ => v = .pointer (some ⟨qa, 0, none⟩)
  | 24, v, _ => v = .pointer (some ⟨qa, 5, none⟩)
  | 25, v, _ => v = .bool b5
  | 26, v, _ => v = .pointer (some ⟨qa, 0, none⟩)
  | 27, v, _ => v = .pointer (some ⟨qa, 0, none⟩)
  | 28, v, _ => v = .pointer (some ⟨qa, 6, none⟩)
  | 29, v, _ => v = .string b6
  | 30, v, _ => v = .pointer (some ⟨qa, 0, none⟩)
  | 31, v, _ => v = .pointer (some ⟨qa, 0, none⟩)
  | 32, v, _ => v = .pointer (some ⟨qa, 7, none⟩)
  | 33, v, _ => v = .string ⟨#[]⟩
  | 34, v, _ => v = .pointer (some ⟨qa, 0, none⟩)
  | 35, v, _ => v = .pointer (some ⟨qa, 0, none⟩)
  | 36, v, _ => v = .pointer (some ⟨qa, 8, none⟩)
  | 37, v, _ => v = .string ⟨#[]⟩
  | 38, v, _ => v = .pointer (some ⟨qa, 0, none⟩)
  | 39, v, _ => v = .pointer (some ⟨qa, 0, none⟩)
  | 40, v, _ => v = .pointer (some ⟨qa, 9, none⟩)
  | 41, v, _ => v = .string ⟨#[]⟩
  | 42, v, _ => v = .agg #[Value.string b0, .string b1, .string b2, .string b3, .string b4, .bool b5, .string b6, .string ⟨#[]⟩, .string ⟨#[]⟩, .string ⟨#[]⟩]
  | 43, v, _ => v = .slice (some ⟨B, 0, none⟩) 1 1
  | _, _, _ => True
theorem ISP9_below {B : Nat} {X qa : Nat} {asl : Value} {b0 b1 b2 b3 b4 b6 : ByteArray} {b5 : Bool} : ∀ j v w w', ISP9 B X qa asl b0 b1 b2 b3 b4 b6 b5 j v w → Below w.heap.size w w' → ISP9 B X qa asl b0 b1 b2 b3 b4 b6 b5 j v w' := by
  intro j v w w' h _
  unfold ISP9 at h ⊢
  split <;> first | exact h | trivial
set_option maxRecDepth 100000 in
set_option maxHeartbeats 8000000 in
theorem irgn9 {Q : Exit → Act → World → Prop} {l : List Value} {df : List Deferred} {w0 : World} (X qa : Nat) (asl : Value) (b0 b1 b2 b3 b4 b6 : ByteArray) (b5 : Bool) (base j : Nat) (xs : List Value) (cs : Array Value) (hlen : l.length = 168) (h6 : l.getD 6 undef = .pointer (some ⟨X, 0, none⟩)) (h8 : l.getD 8 undef = .pointer (some ⟨qa, 0, none⟩))
    (hA : Lies w0 qa 101 #[.string b0, .string b1, .string b2, .string b3, .string b4, .bool b5, .string b6, .string ⟨#[]⟩, .string ⟨#[]⟩, .string ⟨#[]⟩]) (hX : Lies w0 X 41 cs) (hX15 : cs[15]? = some asl)
    (hO : w0.ownsRow base 46 10 asl j xs) (hj : j ≤ 1000) (hbase : base ≤ w0.heap.size)
    (hQ : ∀ us g cap w4, w4.ownsRow base 46 10 (.slice (some ⟨g, 0, none⟩) (j + 1) cap) (j + 1) (xs ++ [Value.string b0, .string b1, .string b2, .string b3, .string b4, .bool b5, .string b6, .string ⟨#[]⟩, .string ⟨#[]⟩, .string ⟨#[]⟩]) → (w0.drew.alloc (.cells #[Value.string b0, .string b1, .string b2, .string b3, .string b4, .bool b5, .string b6, .string ⟨#[]⟩, .string ⟨#[]⟩, .string ⟨#[]⟩] 46)).grownBy w4 asl.ownBlock → (asl.ownBlock = some g ∨ g = w0.heap.size + 1) →
      Q .normal ⟨Fr 168 (mix (fun t => Nat.ble 113 t && Nat.ble t 158) us (fun k => l.getD k undef)), df⟩ (w4.setCell ⟨X, 15, none⟩ (.slice (some ⟨g, 0, none⟩) (j + 1) cap))) :
    (regionOf 9 Tryz.f22).wp Tryz.prog Q ⟨l.toArray, df⟩ w0 := by
  obtain ⟨ia, iai, iaz, ias, iab⟩ := info_parts infoIA
  obtain ⟨z, hz⟩ : ∃ z, z = Obj.cells #[Value.string b0, .string b1, .string b2, .string b3, .string b4, .bool b5, .string b6, .string ⟨#[]⟩, .string ⟨#[]⟩, .string ⟨#[]⟩] 46 := ⟨_, rfl⟩
  have HQ := Lib.hid hQ
  have HA := Lib.hid hA
  have HX := Lib.hid hX
  have HO := Lib.hid hO
  have HIA := Lib.hid (And.intro iai (And.intro iaz (And.intro ias iab)))
  clear hQ hA hX hO iai iaz ias iab
  have HAW : ∀ (L : Nat → Bool) (w : World), w = (bif L 43 then w0.drew.alloc z else w0.drew) → Lies w qa 101 #[.string b0, .string b1, .string b2, .string b3, .string b4, .bool b5, .string b6, .string ⟨#[]⟩, .string ⟨#[]⟩, .string ⟨#[]⟩] := by
    intro L w hw
    subst hw
    cases L 43
    · exact HA.out.below ((Below.refl _ _).drew)
    · exact (HA.out.below ((Below.refl _ _).drew)).alloc _
  have HXW : ∀ (L : Nat → Bool) (w : World), w = (bif L 43 then w0.drew.alloc z else w0.drew) → Lies w X 41 cs := by
    intro L w hw
    subst hw
    cases L 43
    · exact HX.out.below ((Below.refl _ _).drew)
    · exact (HX.out.below ((Below.refl _ _).drew)).alloc _
  show Code.wp Tryz.prog (.region 9 (List.toArray _) true) _ _ _
  rw [Fr_lit, hlen]
  refine region_tbl (N := 44) (by kernel_rfl) (by kernel_rfl) (by kernel_rfl) (by decide) (fun t => Nat.ble 113 t && Nat.ble t 158) (fun j => 113 + j) (ISP9 w0.heap.size X qa asl b0 b1 b2 b3 b4 b6 b5) (fun L w => w = (bif L 43 then w0.drew.alloc z else w0.drew)) ?_ ?_ ?_ ?_ ?_ ?_
  · intro j hj
    simp; omega
  · intro j k hj hk e
    simp at e; exact e
  · exact ISP9_below
  · rfl
  · subst hz
    refine steps_all (steps_cons ?_ (steps_cons ?_ (steps_cons ?_ (steps_cons ?_ (steps_cons ?_ (steps_cons ?_ (steps_cons ?_ (steps_cons ?_ (steps_cons ?_ (steps_cons ?_ (steps_cons ?_ (steps_cons ?_ (steps_cons ?_ (steps_cons ?_ (steps_cons ?_ (steps_cons ?_ (steps_cons ?_ (steps_cons ?_ (steps_cons ?_ (steps_cons ?_ (steps_cons ?_ (steps_cons ?_ (steps_cons ?_ (steps_cons ?_ (steps_cons ?_ (steps_cons ?_ (steps_cons ?_ (steps_cons ?_ (steps_cons ?_ (steps_cons ?_ (steps_cons ?_ (steps_cons ?_ (steps_cons ?_ (steps_cons ?_ (steps_cons ?_ (steps_cons ?_ (steps_cons ?_ (steps_cons ?_ (steps_cons ?_ (steps_cons ?_ (steps_cons ?_ (steps_cons ?_ (steps_cons ?_ (steps_cons ?_ ?_))))))))))))))))))))))))))))))))))))))))))))
    · refine ⟨rfl, fun L us w K a hun hu h0 hw hd hK => ?_⟩
      have HWW := Lib.hid hw
      have e6 := h0 6 (by decide) (by decide)
      rw [h6] at e6
      clear hu h0 hd hw
      go_simp
      exact hK _ _ (Below.refl _ _) HWW.out rfl
    · refine ⟨rfl, fun L us w K a hun hu h0 hw hd hK => ?_⟩
      have HWW := Lib.hid hw
      have e113 := hu 113 (by decide) (by decide)
      rw [show us 113 = _ from hd 0 (by kernel_rfl)] at e113
      have hc : w.cell? ⟨X, 15, none⟩ = some asl := ((HXW L w hw).cell 15).trans hX15
      clear hu h0 hd hw
      go_simp
      exact hK _ _ (Below.refl _ _) HWW.out rfl
    · refine ⟨rfl, fun L us w K a hun hu h0 hw hd hK => ?_⟩
      have HWW := Lib.hid hw
      have e8 := h0 8 (by decide) (by decide)
      rw [h8] at e8
      clear hu h0 hd hw
      go_simp
      exact hK _ _ (Below.refl _ _) HWW.out rfl
    · refine ⟨rfl, fun L us w K a hun hu h0 hw hd hK => ?_⟩
      have HWW := Lib.hid hw
      have e115 := hu 115 (by decide) (by decide)
      rw [show us 115 = _ from hd 2 (by kernel_rfl)] at e115
      clear hu h0 hd hw
      go_simp
      exact hK _ _ (Below.refl _ _) HWW.out rfl
    · refine ⟨rfl, fun L us w K a hun hu h0 hw hd hK => ?_⟩
      have HWW := Lib.hid hw
      have e116 := hu 116 (by decide) (by decide)
      rw [show us 116 = _ from hd 3 (by kernel_rfl)] at e116
      clear hu h0 hd hw
      go_simp
      exact hK _ _ (Below.refl _ _) HWW.out rfl
    · refine ⟨rfl, fun L us w K a hun hu h0 hw hd hK => ?_⟩
      have HWW := Lib.hid hw
      have e117 := hu 117 (by decide) (by decide)
      rw [show us 117 = _ from hd 4 (by kernel_rfl)] at e117
      have hc : w.cell? ⟨qa, 0, none⟩ = some (.string b0) := (HAW L w hw).cell 0
      clear hu h0 hd hw
      go_simp
      exact hK _ _ (Below.refl _ _) HWW.out rfl
    · refine ⟨rfl, fun L us w K a hun hu h0 hw hd hK => ?_⟩
      have HWW := Lib.hid hw
      have e8 := h0 8 (by decide) (by decide)
      rw [h8] at e8
      clear hu h0 hd hw
      go_simp
      exact hK _ _ (Below.refl _ _) HWW.out rfl
    · refine ⟨rfl, fun L us w K a hun hu h0 hw hd hK => ?_⟩
      have HWW := Lib.hid hw
      have e119 := hu 119 (by decide) (by decide)
      rw [show us 119 = _ from hd 6 (by kernel_rfl)] at e119
      clear hu h0 hd hw
      go_simp
      exact hK _ _ (Below.refl _ _) HWW.out rfl
    · refine ⟨rfl, fun L us w K a hun hu h0 hw hd hK => ?_⟩
      have HWW := Lib.hid hw
      have e120 := hu 120 (by decide) (by decide)
      rw [show us 120 = _ from hd 7 (by kernel_rfl)] at e120
      clear hu h0 hd hw
      go_simp
      exact hK _ _ (Below.refl _ _) HWW.out rfl
    · refine ⟨rfl, fun L us w K a hun hu h0 hw hd hK => ?_⟩
      have HWW := Lib.hid hw
      have e121 := hu 121 (by decide) (by decide)
      rw [show us 121 = _ from hd 8 (by kernel_rfl)] at e121
      have hc : w.cell? ⟨qa, 1, none⟩ = some (.string b1) := (HAW L w hw).cell 1
      clear hu h0 hd hw
      go_simp
      exact hK _ _ (Below.refl _ _) HWW.out rfl
    · refine ⟨rfl, fun L us w K a hun hu h0 hw hd hK => ?_⟩
      have HWW := Lib.hid hw
      have e8 := h0 8 (by decide) (by decide)
      rw [h8] at e8
      clear hu h0 hd hw
      go_simp
      exact hK _ _ (Below.refl _ _) HWW.out rfl
    · refine ⟨rfl, fun L us w K a hun hu h0 hw hd hK => ?_⟩
      have HWW := Lib.hid hw
      have e123 := hu 123 (by decide) (by decide)
      rw [show us 123 = _ from hd 10 (by kernel_rfl)] at e123
      clear hu h0 hd hw
      go_simp
      exact hK _ _ (Below.refl _ _) HWW.out rfl
    · refine ⟨rfl, fun L us w K a hun hu h0 hw hd hK => ?_⟩
      have HWW := Lib.hid hw
      have e124 := hu 124 (by decide) (by decide)
      rw [show us 124 = _ from hd 11 (by kernel_rfl)] at e124
      clear hu h0 hd hw
      go_simp
      exact hK _ _ (Below.refl _ _) HWW.out rfl
    · refine ⟨rfl, fun L us w K a hun hu h0 hw hd hK => ?_⟩
      have HWW := Lib.hid hw
      have e125 := hu 125 (by decide) (by decide)
      rw [show us 125 = _ from hd 12 (by kernel_rfl)] at e125
      have hc : w.cell? ⟨qa, 2, none⟩ = some (.string b2) := (HAW L w hw).cell 2
      clear hu h0 hd hw
      go_simp
      exact hK _ _ (Below.refl _ _) HWW.out rfl
    · refine ⟨rfl, fun L us w K a hun hu h0 hw hd hK => ?_⟩
      have HWW := Lib.hid hw
      have e8 := h0 8 (by decide) (by decide)
      rw [h8] at e8
      clear hu h0 hd hw
      go_simp
      exact hK _ _ (Below.refl _ _) HWW.out rfl
    · refine ⟨rfl, fun L us w K a hun hu h0 hw hd hK => ?_⟩
      have HWW := Lib.hid hw
      have e127 := hu 127 (by decide) (by decide)
      rw [show us 127 = _ from hd 14 (by kernel_rfl)] at e127
      clear hu h0 hd hw
      go_simp
      exact hK _ _ (Below.refl _ _) HWW.out rfl
    · refine ⟨rfl, fun L us w K a hun hu h0 hw hd hK => ?_⟩
      have HWW := Lib.hid hw
      have e128 := hu 128 (by decide) (by decide)
      rw [show us 128 = _ from hd 15 (by kernel_rfl)] at e128
      clear hu h0 hd hw
      go_simp
      exact hK _ _ (Below.refl _ _) HWW.out rfl
    · refine ⟨rfl, fun L us w K a hun hu h0 hw hd hK => ?_⟩
      have HWW := Lib.hid hw
      have e129 := hu 129 (by decide) (by decide)
      rw [show us 129 = _ from hd 16 (by kernel_rfl)] at e129
      have hc : w.cell? ⟨qa, 3, none⟩ = some (.string b3) := (HAW L w hw).cell 3
      clear hu h0 hd hw
      go_simp
      exact hK _ _ (Below.refl _ _) HWW.out rfl
    · refine ⟨rfl, fun L us w K a hun hu h0 hw hd hK => ?_⟩
      have HWW := Lib.hid hw
      have e8 := h0 8 (by decide) (by decide)
      rw [h8] at e8
      clear hu h0 hd hw
      go_simp
      exact hK _ _ (Below.refl _ _) HWW.out rfl
    · refine ⟨rfl, fun L us w K a hun hu h0 hw hd hK => ?_⟩
      have HWW := Lib.hid hw
      have e131 := hu 131 (by decide) (by decide)
      rw [show us 131 = _ from hd 18 (by kernel_rfl)] at e131
      clear hu h0 hd hw
      go_simp
      exact hK _ _ (Below.refl _ _) HWW.out rfl
    · refine ⟨rfl, fun L us w K a hun hu h0 hw hd hK => ?_⟩
      have HWW := Lib.hid hw
      have e132 := hu 132 (by decide) (by decide)
      rw [show us 132 = _ from hd 19 (by kernel_rfl)] at e132
      clear hu h0 hd hw
      go_simp
      exact hK _ _ (Below.refl _ _) HWW.out rfl
    · refine ⟨rfl, fun L us w K a hun hu h0 hw hd hK => ?_⟩
      have HWW := Lib.hid hw
      have e133 := hu 133 (by decide) (by decide)
      rw [show us 133 = _ from hd 20 (by kernel_rfl)] at e133
      have hc : w.cell? ⟨qa, 4, none⟩ = some (.string b4) := (HAW L w hw).cell 4
      clear hu h0 hd hw
      go_simp
      exact hK _ _ (Below.refl _ _) HWW.out rfl
    · refine ⟨rfl, fun L us w K a hun hu h0 hw hd hK => ?_⟩
      have HWW := Lib.hid hw
      have e8 := h0 8 (by decide) (by decide)
      rw [h8] at e8
      clear hu h0 hd hw
      go_simp
      exact hK _ _ (Below.refl _ _) HWW.out rfl
    · refine ⟨rfl, fun L us w K a hun hu h0 hw hd hK => ?_⟩
      have HWW := Lib.hid hw
      have e135 := hu 135 (by decide) (by decide)
      rw [show us 135 = _ from hd 22 (by kernel_rfl)] at e135
      clear hu h0 hd hw
      go_simp
      exact hK _ _ (Below.refl _ _) HWW.out rfl
    · refine ⟨rfl, fun L us w K a hun hu h0 hw hd hK => ?_⟩
      have HWW := Lib.hid hw
      have e136 := hu 136 (by decide) (by decide)
      rw [show us 136 = _ from hd 23 (by kernel_rfl)] at e136
      clear hu h0 hd hw
      go_simp
      exact hK _ _ (Below.refl _ _) HWW.out rfl
    · refine ⟨rfl, fun L us w K a hun hu h0 hw hd hK => ?_⟩
      have HWW := Lib.hid hw
      have e137 := hu 137 (by decide) (by decide)
      rw [show us 137 = _ from hd 24 (by kernel_rfl)] at e137
      have hc : w.cell? ⟨qa, 5, none⟩ = some (.bool b5) := (HAW L w hw).cell 5
      clear hu h0 hd hw
      go_simp
      exact hK _ _ (Below.refl _ _) HWW.out rfl
    · refine ⟨rfl, fun L us w K a hun hu h0 hw hd hK => ?_⟩
      have HWW := Lib.hid hw
      have e8 := h0 8 (by decide) (by decide)
      rw [h8] at e8
      clear hu h0 hd hw
      go_simp
      exact hK _ _ (Below.refl _ _) HWW.out rfl
    · refine ⟨rfl, fun L us w K a hun hu h0 hw hd hK => ?_⟩
      have HWW := Lib.hid hw
      have e139 := hu 139 (by decide) (by decide)
      rw [show us 139 = _ from hd 26 (by kernel_rfl)] at e139
      clear hu h0 hd hw
      go_simp
      exact hK _ _ (Below.refl _ _) HWW.out rfl
    · refine ⟨rfl, fun L us w K a hun hu h0 hw hd hK => ?_⟩
      have HWW := Lib.hid hw
      have e140 := hu 140 (by decide) (by decide)
      rw [show us 140 = _ from hd 27 (by kernel_rfl)] at e140
      clear hu h0 hd hw
      go_simp
      exact hK _ _ (Below.refl _ _) HWW.out rfl
    · refine ⟨rfl, fun L us w K a hun hu h0 hw hd hK => ?_⟩
      have HWW := Lib.hid hw
      have e141 := hu 141 (by decide) (by decide)
      rw [show us 141 = _ from hd 28 (by kernel_rfl)] at e141
      have hc : w.cell? ⟨qa, 6, none⟩ = some (.string b6) := (HAW L w hw).cell 6
      clear hu h0 hd hw
      go_simp
      exact hK _ _ (Below.refl _ _) HWW.out rfl
    · refine ⟨rfl, fun L us w K a hun hu h0 hw hd hK => ?_⟩
      have HWW := Lib.hid hw
      have e8 := h0 8 (by decide) (by decide)
      rw [h8] at e8
      clear hu h0 hd hw
      go_simp
      exact hK _ _ (Below.refl _ _) HWW.out rfl
    · refine ⟨rfl, fun L us w K a hun hu h0 hw hd hK => ?_⟩
      have HWW := Lib.hid hw
      have e143 := hu 143 (by decide) (by decide)
      rw [show us 143 = _ from hd 30 (by kernel_rfl)] at e143
      clear hu h0 hd hw
      go_simp
      exact hK _ _ (Below.refl _ _) HWW.out rfl
    · refine ⟨rfl, fun L us w K a hun hu h0 hw hd hK => ?_⟩
      have HWW := Lib.hid hw
      have e144 := hu 144 (by decide) (by decide)
      rw [show us 144 = _ from hd 31 (by kernel_rfl)] at e144
      clear hu h0 hd hw
      go_simp
      exact hK _ _ (Below.refl _ _) HWW.out rfl
    · refine ⟨rfl, fun L us w K a hun hu h0 hw hd hK => ?_⟩
      have HWW := Lib.hid hw
      have e145 := hu 145 (by decide) (by decide)
      rw [show us 145 = _ from hd 32 (by kernel_rfl)] at e145
      have hc : w.cell? ⟨qa, 7, none⟩ = some (.string ⟨#[]⟩) := (HAW L w hw).cell 7
      clear hu h0 hd hw
      go_simp
      exact hK _ _ (Below.refl _ _) HWW.out rfl
    · refine ⟨rfl, fun L us w K a hun hu h0 hw hd hK => ?_⟩
      have HWW := Lib.hid hw
      have e8 := h0 8 (by decide) (by decide)
      rw [h8] at e8
      clear hu h0 hd hw
      go_simp
      exact hK _ _ (Below.refl _ _) HWW.out rfl
    · refine ⟨rfl, fun L us w K a hun hu h0 hw hd hK => ?_⟩
      have HWW := Lib.hid hw
      have e147 := hu 147 (by decide) (by decide)
      rw [show us 147 = _ from hd 34 (by kernel_rfl)] at e147
      clear hu h0 hd hw
      go_simp
      exact hK _ _ (Below.refl _ _) HWW.out rfl
    · refine ⟨rfl, fun L us w K a hun hu h0 hw hd hK => ?_⟩
      have HWW := Lib.hid hw
      have e148 := hu 148 (by decide) (by decide)
      rw [show us 148 = _ from hd 35 (by kernel_rfl)] at e148
      clear hu h0 hd hw
      go_simp
      exact hK _ _ (Below.refl _ _) HWW.out rfl
    · refine ⟨rfl, fun L us w K a hun hu h0 hw hd hK => ?_⟩
      have HWW := Lib.hid hw
      have e149 := hu 149 (by decide) (by decide)
      rw [show us 149 = _ from hd 36 (by kernel_rfl)] at e149
      have hc : w.cell? ⟨qa, 8, none⟩ = some (.string ⟨#[]⟩) := (HAW L w hw).cell 8
      clear hu h0 hd hw
      go_simp
      exact hK _ _ (Below.refl _ _) HWW.out rfl
    · refine ⟨rfl, fun L us w K a hun hu h0 hw hd hK => ?_⟩
      have HWW := Lib.hid hw
      have e8 := h0 8 (by decide) (by decide)
      rw [h8] at e8
      clear hu h0 hd hw
      go_simp
      exact hK _ _ (Below.refl _ _) HWW.out rfl
    · refine ⟨rfl, fun L us w K a hun hu h0 hw hd hK => ?_⟩
      have HWW := Lib.hid hw
      have e151 := hu 151 (by decide) (by decide)
      rw [show us 151 = _ from hd 38 (by kernel_rfl)] at e151
      clear hu h0 hd hw
      go_simp
      exact hK _ _ (Below.refl _ _) HWW.out rfl
    · refine ⟨rfl, fun L us w K a hun hu h0 hw hd hK => ?_⟩
      have HWW := Lib.hid hw
      have e152 := hu 152 (by decide) (by decide)
      rw [show us 152 = _ from hd 39 (by kernel_rfl)] at e152
      clear hu h0 hd hw
      go_simp
      exact hK _ _ (Below.refl _ _) HWW.out rfl
    · refine ⟨rfl, fun L us w K a hun hu h0 hw hd hK => ?_⟩
      have HWW := Lib.hid hw
      have e153 := hu 153 (by decide) (by decide)
      rw [show us 153 = _ from hd 40 (by kernel_rfl)] at e153
      have hc : w.cell? ⟨qa, 9, none⟩ = some (.string ⟨#[]⟩) := (HAW L w hw).cell 9
      clear hu h0 hd hw
      go_simp
      exact hK _ _ (Below.refl _ _) HWW.out rfl
    · refine ⟨rfl, fun L us w K a hun hu h0 hw hd hK => ?_⟩
      have HWW := Lib.hid hw
      have e118 := hu 118 (by decide) (by decide)
      rw [show us 118 = _ from hd 5 (by kernel_rfl)] at e118
      have e122 := hu 122 (by decide) (by decide)
      rw [show us 122 = _ from hd 9 (by kernel_rfl)] at e122
      have e126 := hu 126 (by decide) (by decide)
      rw [show us 126 = _ from hd 13 (by kernel_rfl)] at e126
      have e130 := hu 130 (by decide) (by decide)
      rw [show us 130 = _ from hd 17 (by kernel_rfl)] at e130
      have e134 := hu 134 (by decide) (by decide)
      rw [show us 134 = _ from hd 21 (by kernel_rfl)] at e134
      have e138 := hu 138 (by decide) (by decide)
      rw [show us 138 = _ from hd 25 (by kernel_rfl)] at e138
      have e142 := hu 142 (by decide) (by decide)
      rw [show us 142 = _ from hd 29 (by kernel_rfl)] at e142
      have e146 := hu 146 (by decide) (by decide)
      rw [show us 146 = _ from hd 33 (by kernel_rfl)] at e146
      have e150 := hu 150 (by decide) (by decide)
      rw [show us 150 = _ from hd 37 (by kernel_rfl)] at e150
      have e154 := hu 154 (by decide) (by decide)
      rw [show us 154 = _ from hd 41 (by kernel_rfl)] at e154
      clear hu h0 hd hw
      go_simp
      exact hK _ _ (Below.refl _ _) HWW.out rfl
    · refine ⟨rfl, fun L us w K a hun hu h0 hw hd hK => ?_⟩
      have HWW := Lib.hid hw
      have hw1 : w = w0.drew := by rw [hw, hun]; rfl
      have e155 := hu 155 (by decide) (by decide)
      rw [show us 155 = _ from hd 42 (by kernel_rfl)] at e155
      clear hu h0 hd hw
      subst hw1
      go_simp
      exact hK _ _ ((Below.refl _ _).alloc (Nat.le_refl _) _) rfl rfl
    · exact steps_stop (by decide)
  · intro L us w hl hw ht
    have hw1 : w = w0.drew.alloc z := by rw [hw, hl 43 (by decide)]; rfl
    have hXw := HXW L w hw
    have t114 : us 114 = asl := ht 1 (by decide)
    have t156 : us 156 = .slice (some ⟨w0.heap.size, 0, none⟩) 1 1 := ht 43 (by decide)
    have HXV := Lib.hid hXw
    clear ht hl hw HXW HAW hXw
    subst hw1
    subst hz
    show wpTail _ _ [_, _, _] _ _
    refine ⟨rfl, ?_⟩
    refine wp_append_lies _ (.tmp 114) (.tmp 156) 39 rfl base 46 ia zAlt 10 152 Tryz.underlying39 HIA.out.1 HIA.out.2.1 HIA.out.2.2.1 HIA.out.2.2.2 rfl (by decide) asl j xs ((eval_tmp _ _).trans ((mix_get (by decide) rfl).trans t114)) (HO.out.drew.alloc _) ⟨w0.heap.size, 0, none⟩ 1 1 [Value.string b0, .string b1, .string b2, .string b3, .string b4, .bool b5, .string b6, .string ⟨#[]⟩, .string ⟨#[]⟩, .string ⟨#[]⟩] ((eval_tmp _ _).trans ((mix_get (by decide) rfl).trans t156)) rfl (World.news_of_block (heap_alloc_new w0.drew (.cells #[Value.string b0, .string b1, .string b2, .string b3, .string b4, .bool b5, .string b6, .string ⟨#[]⟩, .string ⟨#[]⟩, .string ⟨#[]⟩] 46))) ?_ (by decide) (by unfold maxLen; omega) (by omega) (by simp; omega) (w0.heap.size + 1) (by simp) ?_
    · intro u hu
      simp at hu
      rcases hu with rfl | rfl | rfl | rfl | rfl | rfl | rfl | rfl <;> rfl
    · intro g cap w4 hown hg hat hlt
      have hX4 := lies_grown (w := w0.drew) (HX.out.below ((Below.refl _ _).drew)) hg (fun g hg => row_other HO.out HX.out (by decide) g hg)
      have hc := (hX4.cell 15).trans hX15
      have hf := hX4.frozen 15
      have HOWN := Lib.hid hown
      have HG := Lib.hid hg
      have HAT := Lib.hid hat
      clear hown hg hat hlt t114 t156 HXV hX4
      show wpTail _ _ [_, _] ((⟨Fr 168 (mix _ us _), df⟩ : Act).put (some 157) _) _
      rw [tail_put rfl]
      refine ⟨rfl, ?_⟩
      obtain ⟨F, hF⟩ : ∃ F, F = Fr 168 (mix (fun t => Nat.ble 113 t && Nat.ble t 158) (upd us 157 (.slice (some ⟨g, 0, none⟩) (j + 1) cap)) (fun k => l.getD k undef)) := ⟨_, rfl⟩
      rw [← hF]
      have e6 : F[6]?.getD undef = .pointer (some ⟨X, 0, none⟩) := by rw [hF]; exact (mix_get0 (by decide) rfl).trans h6
      have HF := Lib.hid hF
      clear hF
      go_simp
      show wpTail _ _ [_] ((⟨F, df⟩ : Act).put (some 158) _) _
      rw [HF.out, tail_put rfl]
      refine ⟨rfl, ?_⟩
      clear e6 HF F
      obtain ⟨F, hF⟩ : ∃ F, F = Fr 168 (mix (fun t => Nat.ble 113 t && Nat.ble t 158) (upd (upd us 157 (.slice (some ⟨g, 0, none⟩) (j + 1) cap)) 158 (.pointer (some ⟨X, 15, none⟩))) (fun k => l.getD k undef)) := ⟨_, rfl⟩
      rw [← hF]
      have e157 : F[157]?.getD undef = .slice (some ⟨g, 0, none⟩) (j + 1) cap := by rw [hF]; exact mix_get (by decide) rfl
      have e158 : F[158]?.getD undef = .pointer (some ⟨X, 15, none⟩) := by rw [hF]; exact mix_get (by decide) rfl
      have HF := Lib.hid hF
      clear hF
      go_simp
      rw [HF.out]
      exact HQ.out _ g cap w4 HOWN.out HG.out HAT.out
end Go.Proofs.YtlghdacdpkaoeaaGreatDoor
