import Derived.Test.YtlghdacdpkaoeaaGreatDoorK39
import Derived.Test.YtlghdacdpkaoeaaGreatDoorK34
namespace Go.Proofs.YtlghdacdpkaoeaaGreatDoor
open Go.RowKit Go.Proofs.YtlghdacdpkaoeaaGreatDoorW.PrintWords Go.Maps Go.Proofs.YtlghdacdpkaoeaaGreatDoor.PFnMasterLoose
open Go.Lib hiding intOf
set_option linter.unusedVariables false
set_option linter.unusedSimpArgs false
def SP23 (X : List Item) (v : VarR) (gv : Nat) : Nat → Value → World → Prop
  | 0, u, _ => u = .string (bs (itemsText X))
  | 1, u, _ => u = .agg (varA v)
  | 2, u, w => ∃ A c, u = .slice A v.attrs.length c ∧ v.attrs.length ≤ c ∧ Kd.C Kd.string w A v.attrs.length (v.attrs.map fun x => bs x.text)
  | 3, u, _ => u = .string (bs (attrsText v.attrs))
  | 4, u, _ => u = .string (bs (infHead ++ attrsText v.attrs))
  | 5, u, _ => u = .string (bs (infHead ++ attrsText v.attrs ++ [10]))
  | 6, u, _ => u = .pointer (some ⟨gv, 0, none⟩)
  | 7, u, _ => u = .string (bs v.uri)
  | 8, u, _ => u = .string (bs (infHead ++ attrsText v.attrs ++ [10] ++ v.uri))
  | 9, u, _ => u = .string (bs (itemsText X ++ (infHead ++ attrsText v.attrs ++ [10] ++ v.uri)))
  | _, _, _ => True
theorem SP23_below {X : List Item} {v : VarR} {gv : Nat} : ∀ j u w w', SP23 X v gv j u w → Below w.heap.size w w' → SP23 X v gv j u w' := by
  intro j u w w' h hb
  unfold SP23 at h ⊢
  split <;> first | exact h | trivial | (obtain ⟨A, c, h1, h2, h3⟩ := h; exact ⟨A, c, h1, h2, Kd.C_below h3 hb⟩)
theorem infS (l : List UInt8) : Value.string ((⟨#[35, 69, 88, 84, 45, 88, 45, 83, 84, 82, 69, 65, 77, 45, 73, 78, 70, 58]⟩ : ByteArray) ++ bs l) = .string (bs (infHead ++ l)) := by
  rw [show (⟨#[35, 69, 88, 84, 45, 88, 45, 83, 84, 82, 69, 65, 77, 45, 73, 78, 70, 58]⟩ : ByteArray) = bs infHead from rfl, bs_append]
theorem nlS (l : List UInt8) : Value.string (bs l ++ (⟨#[10]⟩ : ByteArray)) = .string (bs (l ++ [10])) := by
  rw [show (⟨#[10]⟩ : ByteArray) = bs [10] from rfl, bs_append]
theorem catS (a b : List UInt8) : Value.string (bs a ++ bs b) = .string (bs (a ++ b)) := by rw [bs_append]
set_option maxRecDepth 100000 in
set_option maxHeartbeats 4000000 in
theorem text23 {Q : Exit → Act → World → Prop} {l : List Value} {df : List Deferred} {w0 : World} (X : List Item) (v : VarR) (gv : Nat) (hlen : l.length = 107) (h7 : l.getD 7 undef = .string (bs (itemsText X))) (h10 : l.getD 10 undef = .pointer (some ⟨gv, 0, none⟩))
    (hV : Lies w0 gv 44 (varA v)) (hg : v.Good) (hX : (itemsText X).length ≤ 100000)
    (hQ : ∀ us w', Below w0.heap.size w0 w' → Q .normal ⟨Fr 107 (mix (fun t => Nat.ble 78 t && Nat.ble t 87) us (upd (fun k => l.getD k undef) 7 (.string (bs (itemsText X ++ (infHead ++ attrsText v.attrs ++ [10] ++ v.uri)))))), df⟩ w') :
    (regionOf 23 Tryz.f5).wp Tryz.prog Q ⟨l.toArray, df⟩ w0 := by
  have hla : (attrsText v.attrs).length ≤ 1000 := by have := hg.len; omega
  have hlu : v.uri.length ≤ 100 := by have := hg.uri.2.1; omega
  have HV := Lib.hid hV
  have HG := Lib.hid hg
  have HQ := Lib.hid hQ
  clear hV hQ hg
  show Code.wp Tryz.prog (.region 23 (List.toArray _) true) _ _ _
  rw [Fr_lit, hlen]
  refine region_tbl (N := 10) (by kernel_rfl) (by kernel_rfl) (by kernel_rfl) (by decide) (fun t => Nat.ble 78 t && Nat.ble t 87) (fun j => 78 + j) (SP23 X v gv) (fun _ w => Below w0.heap.size w0 w) ?_ ?_ ?_ ?_ ?_ ?_
  · intro j hj
    simp; omega
  · intro j k hj hk e
    simp at e; exact e
  · exact SP23_below
  · exact (Below.refl _ _).drew
  · refine steps_all (steps_cons ?_ (steps_cons ?_ (steps_cons ?_ (steps_cons ?_ (steps_cons ?_ (steps_cons ?_ (steps_cons ?_ (steps_cons ?_ (steps_cons ?_ (steps_cons ?_ ?_))))))))))
    · refine ⟨rfl, fun L us w K a _ hu h0 hw hd hK => ?_⟩
      have e7 := h0 7 (by decide) (by decide)
      rw [h7] at e7
      clear hu h0 hd
      go_simp
      exact hK _ _ (Below.refl _ _) hw rfl
    · refine ⟨rfl, fun L us w K a _ hu h0 hw hd hK => ?_⟩
      have e10 := h0 10 (by decide) (by decide)
      rw [h10] at e10
      have HVw := HV.out.below hw
      have hvc0 := HVw.cell 0; have hvc1 := HVw.cell 1; have hvc2 := HVw.cell 2; have hvc3 := HVw.cell 3; have hvc4 := HVw.cell 4; have hvc5 := HVw.cell 5; have hvc6 := HVw.cell 6; have hvc7 := HVw.cell 7; have hvc8 := HVw.cell 8; have hvc9 := HVw.cell 9; have hvc10 := HVw.cell 10; have hvc11 := HVw.cell 11; have hvc12 := HVw.cell 12
      simp [Array.getElem?_eq_getElem] at hvc0 hvc1 hvc2 hvc3 hvc4 hvc5 hvc6 hvc7 hvc8 hvc9 hvc10 hvc11 hvc12
      clear hu h0 hd HVw
      go_simp
      exact hK _ _ (Below.refl _ _) hw rfl
    · refine ⟨rfl, fun L us w K a _ hu h0 hw hd hK => ?_⟩
      have e79 := hu 79 (by decide) (by decide)
      rw [show us 79 = _ from hd 1 (by kernel_rfl)] at e79
      clear hu h0 hd
      go_simp
      go_at_call 16
      refine (varAttrs_calls v _ HG.out.small).mono ?_
      rintro e w13 ⟨Aa, ca, rfl, hl, hC, hb⟩
      exact hK _ _ hb (below_step hw hb) ⟨Aa, ca, rfl, hl, hC⟩
    · refine ⟨rfl, fun L us w K a _ hu h0 hw hd hK => ?_⟩
      obtain ⟨Aa, ca, q, hl, hC⟩ : ∃ A c, us 80 = .slice A v.attrs.length c ∧ v.attrs.length ≤ c ∧ Kd.C Kd.string w A v.attrs.length (v.attrs.map fun x : Attr => bs x.text) := hd 2 (by kernel_rfl)
      have e80 := hu 80 (by decide) (by decide)
      rw [q] at e80
      have HC := Lib.hid hC
      clear hu h0 hd hC
      go_simp
      go_at_call 13
      refine (joined_calls v.attrs Aa ca _ (attrs_ne_var v) (Nat.le_trans v.attrs_length (by decide)) (by omega) HC.out hl).mono ?_
      rintro e w14 ⟨rfl, nd, rfl⟩
      exact hK _ _ (pw_below_drewN (Below.refl _ _) nd) (below_step hw (pw_below_drewN (Below.refl _ _) nd)) rfl
    · refine ⟨rfl, fun L us w K a _ hu h0 hw hd hK => ?_⟩
      have e81 := hu 81 (by decide) (by decide)
      rw [show us 81 = _ from hd 3 (by kernel_rfl)] at e81
      have hns : ¬ 9223372036854775807 < 18 + (bs (attrsText v.attrs)).size := by rw [bs_size]; omega
      clear hu h0 hd
      go_simp
      exact hK _ _ (Below.refl _ _) hw (infS _)
    · refine ⟨rfl, fun L us w K a _ hu h0 hw hd hK => ?_⟩
      have e82 := hu 82 (by decide) (by decide)
      rw [show us 82 = _ from hd 4 (by kernel_rfl)] at e82
      have hns : ¬ 9223372036854775807 < (bs (infHead ++ attrsText v.attrs)).size + 1 := by rw [bs_size]; simp [infHead]; omega
      clear hu h0 hd
      go_simp
      exact hK _ _ (Below.refl _ _) hw (nlS _)
    · refine ⟨rfl, fun L us w K a _ hu h0 hw hd hK => ?_⟩
      have e10 := h0 10 (by decide) (by decide)
      rw [h10] at e10
      clear hu h0 hd
      go_simp
      exact hK _ _ (Below.refl _ _) hw rfl
    · refine ⟨rfl, fun L us w K a _ hu h0 hw hd hK => ?_⟩
      have e84 := hu 84 (by decide) (by decide)
      rw [show us 84 = _ from hd 6 (by kernel_rfl)] at e84
      have hvc0 : w.cell? ⟨gv, 0, none⟩ = some (.string (bs v.uri)) := (HV.out.below hw).cell 0
      clear hu h0 hd
      go_simp
      exact hK _ _ (Below.refl _ _) hw rfl
    · refine ⟨rfl, fun L us w K a _ hu h0 hw hd hK => ?_⟩
      have e83 := hu 83 (by decide) (by decide)
      rw [show us 83 = _ from hd 5 (by kernel_rfl)] at e83
      have e85 := hu 85 (by decide) (by decide)
      rw [show us 85 = _ from hd 7 (by kernel_rfl)] at e85
      have hns : ¬ 9223372036854775807 < (bs (infHead ++ attrsText v.attrs ++ [10])).size + (bs v.uri).size := by rw [bs_size, bs_size]; simp [infHead]; omega
      obtain ⟨Y, hY⟩ : ∃ Y, Y = infHead ++ attrsText v.attrs ++ [10] := ⟨_, rfl⟩
      rw [← hY] at e83 hns
      have HY := Lib.hid hY
      clear hu h0 hd hY
      go_simp
      exact hK _ _ (Below.refl _ _) hw (by rw [HY.out]; exact catS _ _)
    · refine ⟨rfl, fun L us w K a _ hu h0 hw hd hK => ?_⟩
      have e78 := hu 78 (by decide) (by decide)
      rw [show us 78 = _ from hd 0 (by kernel_rfl)] at e78
      have e86 := hu 86 (by decide) (by decide)
      rw [show us 86 = _ from hd 8 (by kernel_rfl)] at e86
      obtain ⟨Y, hY⟩ : ∃ Y, Y = infHead ++ attrsText v.attrs ++ [10] ++ v.uri := ⟨_, rfl⟩
      have hYl : Y.length ≤ 2000 := by rw [hY]; simp [infHead]; omega
      have hns : ¬ 9223372036854775807 < (bs (itemsText X)).size + (bs Y).size := by rw [bs_size, bs_size]; omega
      rw [← hY] at e86
      have HY := Lib.hid hY
      clear hu h0 hd hY
      go_simp
      exact hK _ _ (Below.refl _ _) hw (by rw [HY.out]; exact catS _ _)
    · exact steps_stop (by decide)
  · intro L us w _ hw ht
    have t9 : us 87 = .string (bs (itemsText X ++ (infHead ++ attrsText v.attrs ++ [10] ++ v.uri))) := ht 9 (by decide)
    show wpTail _ _ [_] _ _
    refine ⟨rfl, ?_⟩
    obtain ⟨Y, hY⟩ : ∃ Y, Y = itemsText X ++ (infHead ++ attrsText v.attrs ++ [10] ++ v.uri) := ⟨_, rfl⟩
    rw [← hY] at t9
    have HY := Lib.hid hY
    obtain ⟨F, hF⟩ : ∃ F, F = Fr 107 (mix (fun t => Nat.ble 78 t && Nat.ble t 87) us (fun k => l.getD k undef)) := ⟨_, rfl⟩
    rw [← hF]
    have e87 : F[87]?.getD undef = .string (bs Y) := by rw [hF]; exact (mix_get (by decide) rfl).trans t9
    have HF := Lib.hid hF
    have HW := Lib.hid hw
    clear hF hY t9 ht hw
    go_simp
    show wpTail _ _ [] ((⟨F, df⟩ : Act).put (some 7) _) _
    rw [HF.out, tail_put0 rfl, HY.out]
    exact HQ.out _ _ HW.out
end Go.Proofs.YtlghdacdpkaoeaaGreatDoor
