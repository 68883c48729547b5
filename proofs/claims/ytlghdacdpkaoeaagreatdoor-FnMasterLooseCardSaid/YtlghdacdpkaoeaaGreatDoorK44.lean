import Derived.Test.YtlghdacdpkaoeaaGreatDoorK43
import Derived.Test.YtlghdacdpkaoeaaGreatDoorK40
namespace Go.Proofs.YtlghdacdpkaoeaaGreatDoor
open Go.RowKit Go.Proofs.YtlghdacdpkaoeaaGreatDoorW.PrintWords Go.Maps Go.Proofs.YtlghdacdpkaoeaaGreatDoor.PFnMasterLoose
open Go.Lib hiding intOf
set_option linter.unusedVariables false
set_option linter.unusedSimpArgs false
abbrev zVarB : Array Value := #[.string ⟨#[]⟩, .int .u32 0, .int .u32 0, .int .u32 0, .string ⟨#[]⟩, .int .u32 0, .int .u32 0, .string ⟨#[]⟩, .string ⟨#[]⟩, .string ⟨#[]⟩, .string ⟨#[]⟩, .string ⟨#[]⟩, .int .i64 0]
def UriT (u : List UInt8) : Prop := Txt u ∧ u.length ≤ 30 ∧ u.head? = some 117
def UriOf (v : Value) (w : World) : Prop := ∃ u, UriT u ∧ v = .string (bs u)
def GrpOf (v : Value) (w : World) : Prop := ∃ l, GroupS l ∧ v = .string (bs l)
theorem word_sign {c : UInt8} (h : c ∈ alphabet ∨ c = 119) : ValB c := by
  rcases h with h | rfl
  · simp only [alphabet, List.mem_cons, List.not_mem_nil, or_false] at h
    rcases h with rfl | rfl | rfl | rfl | rfl | rfl | rfl | rfl | rfl | rfl | rfl | rfl | rfl | rfl | rfl | rfl | rfl | rfl | rfl | rfl <;> unfold ValB <;> decide
  · unfold ValB; decide
theorem uri_ok {l : List UInt8} (h : Word l 15) : UriT ([117] ++ l ++ [46, 116, 115]) := by
  have hl := h.len
  refine ⟨⟨by simp, fun c hc => ?_, by simp, by rw [last_app (by simp)]; simp⟩, by simp; omega, by simp⟩
  simp only [List.mem_append, List.mem_cons, List.not_mem_nil, or_false] at hc
  rcases hc with (rfl | hc) | rfl | rfl | rfl
  · unfold ValB; decide
  · exact word_sign (h.signs c hc)
  · unfold ValB; decide
  · unfold ValB; decide
  · unfold ValB; decide
def lCap : List (List UInt8) := [[], [99, 99], [78, 79, 78, 69]]
def lNam : List (List UInt8) := [[], [120], [97, 44, 32, 98, 61, 99]]
def lCod : List (List UInt8) := [[], [97, 118, 99, 49, 46, 52, 50, 99, 48, 48, 100], [97, 118, 99, 49, 46, 52, 50, 99, 48, 48, 100, 44, 109, 112, 52, 97, 46, 52, 48, 46, 50]]
theorem grp_ok {l : List UInt8} (h : GroupS l) : OptTxt l ∧ l.length ≤ 10 := by
  rcases h with rfl | rfl | rfl
  · exact ⟨.inl rfl, by simp⟩
  · exact ⟨.inr (show Txt [103] from txt_lit (by decide)), by simp⟩
  · exact ⟨.inr (show Txt [104] from txt_lit (by decide)), by simp⟩
theorem cap_ok {l : List UInt8} (h : l ∈ lCap) : OptTxt l ∧ l.length ≤ 10 := by
  simp only [lCap, List.mem_cons, List.not_mem_nil, or_false] at h
  rcases h with rfl | rfl | rfl
  · exact ⟨.inl rfl, by simp⟩
  · exact ⟨.inr (show Txt [99, 99] from txt_lit (by decide)), by simp⟩
  · exact ⟨.inr (show Txt [78, 79, 78, 69] from txt_lit (by decide)), by simp⟩
theorem nam_ok {l : List UInt8} (h : l ∈ lNam) : OptTxt l ∧ l.length ≤ 10 := by
  simp only [lNam, List.mem_cons, List.not_mem_nil, or_false] at h
  rcases h with rfl | rfl | rfl
  · exact ⟨.inl rfl, by simp⟩
  · exact ⟨.inr (show Txt [120] from txt_lit (by decide)), by simp⟩
  · exact ⟨.inr (show Txt [97, 44, 32, 98, 61, 99] from txt_lit (by decide)), by simp⟩
theorem cod_ok {l : List UInt8} (h : l ∈ lCod) : OptTxt l ∧ l.length ≤ 30 := by
  simp only [lCod, List.mem_cons, List.not_mem_nil, or_false] at h
  rcases h with rfl | rfl | rfl
  · exact ⟨.inl rfl, by simp⟩
  · exact ⟨.inr (show Txt [97, 118, 99, 49, 46, 52, 50, 99, 48, 48, 100] from txt_lit (by decide)), by simp⟩
  · exact ⟨.inr (show Txt [97, 118, 99, 49, 46, 52, 50, 99, 48, 48, 100, 44, 109, 112, 52, 97, 46, 52, 48, 46, 50] from txt_lit (by decide)), by simp⟩
theorem var_good {u c a v s p n : List UInt8} {pr h : Nat} (hu : UriT u) (hp : pr < 4294967296) (hh : h < 4294967296) (ha : GroupS a) (hv : GroupS v) (hs : GroupS s) (hc : p ∈ lCap) (hn : n ∈ lNam) (hcd : c ∈ lCod) : VarR.Good ⟨u, pr, h, 0, c, 0, 0, a, v, s, p, n, 0⟩ :=
  ⟨⟨hp, hh, by simp, by simp, by simp, by simp⟩, ⟨hu.1, by have := hu.2.1; simp; omega, hu.2.2⟩, cod_ok hcd, grp_ok ha, grp_ok hv, grp_ok hs, cap_ok hc, nam_ok hn⟩
def VarOf (v : Value) (w : World) : Prop := ∃ a : VarR, a.Good ∧ a.uri.length ≤ 30 ∧ v = .agg (varA a)
def NewVar (b : Nat) (v : Value) (w : World) : Prop := ∃ g, v = .pointer (some ⟨g, 0, none⟩) ∧ b ≤ g ∧ Lies w g 44 zVarB
def SP15 (b h : Nat) : Nat → Value → World → Prop
  | 0, v, _ => v = .int .u32 h
  | 1, v, w => UriOf v w
  | 2, v, _ => v = .int .u32 h
  | 3, v, w => NumOf v w
  | 4, v, _ => v = .int .u32 h
  | 5, v, _ => v = .func (.func 10) #[] #[]
  | 6, v, _ => v = .int .u32 h
  | 7, v, w => NumOf v w
  | 8, v, w => GrpOf v w
  | 9, v, _ => v = .func (.func 10) #[] #[]
  | 10, v, _ => v = .int .u32 h
  | 11, v, w => NumOf v w
  | 12, v, w => GrpOf v w
  | 13, v, _ => v = .func (.func 10) #[] #[]
  | 14, v, _ => v = .int .u32 h
  | 15, v, w => NumOf v w
  | 16, v, w => GrpOf v w
  | 17, v, w => LitRow lCap v w
  | 18, v, _ => v = .int .u32 h
  | 19, v, w => NumOf v w
  | 20, v, w => IdxOf 3 v w
  | 21, v, w => LitAt lCap v w
  | 22, v, w => LitOf lCap v w
  | 23, v, w => LitRow lNam v w
  | 24, v, _ => v = .int .u32 h
  | 25, v, w => NumOf v w
  | 26, v, w => IdxOf 3 v w
  | 27, v, w => LitAt lNam v w
  | 28, v, w => LitOf lNam v w
  | 29, v, w => LitRow lCod v w
  | 30, v, _ => v = .int .u32 h
  | 31, v, w => NumOf v w
  | 32, v, w => IdxOf 3 v w
  | 33, v, w => LitAt lCod v w
  | 34, v, w => LitOf lCod v w
  | 35, v, w => VarOf v w
  | 36, v, w => NewVar b v w
  | _, _, _ => True
theorem SP15_below {b h : Nat} : ∀ j v w w', SP15 b h j v w → Below w.heap.size w w' → SP15 b h j v w' := by
  intro j v w w' h hb
  unfold SP15 at h ⊢
  split <;> first | exact h | exact LitRow.below h hb | exact LitAt.below h hb | trivial | (obtain ⟨g, h1, h2, h3⟩ := h; exact ⟨g, h1, h2, h3.below hb⟩)
theorem beq36 {j : Nat} (h : j ≠ 36) : (bif Nat.beq j 36 then 14 else 91 + j) = 91 + j := by
  have hb : Nat.beq j 36 = false := by
    cases hb : Nat.beq j 36 with
    | false => rfl
    | true => exact absurd (Nat.eq_of_beq_eq_true hb) h
  rw [hb]; rfl
abbrev D15 (t : Nat) : Bool := (Nat.ble 91 t && Nat.ble t 126) || Nat.beq t 14
set_option maxRecDepth 100000 in
set_option maxHeartbeats 8000000 in
theorem region15 {Q : Exit → Act → World → Prop} {l : List Value} {df : List Deferred} {w0 : World} (h : Nat) (hlen : l.length = 202) (h13 : l.getD 13 undef = .int .u32 h) (h9 : l.getD 9 undef = .func (.func 10) #[] #[]) (hh : h < 4294967296)
    (hQ : ∀ us w' g v, v.Good → v.uri.length ≤ 30 → us 14 = .pointer (some ⟨g, 0, none⟩) → w0.heap.size ≤ g → Lies w' g 44 (varA v) → Below w0.heap.size w0 w' → Q .normal ⟨Fr 202 (mix D15 us (fun k => l.getD k undef)), df⟩ w') :
    (regionOf 15 Tryz.f4).wp Tryz.prog Q ⟨l.toArray, df⟩ w0 := by
  have HQ := Lib.hid hQ
  clear hQ
  show Code.wp Tryz.prog (.region 15 (List.toArray _) true) _ _ _
  rw [Fr_lit, hlen]
  refine region_tbl (N := 37) (by kernel_rfl) (by kernel_rfl) (by kernel_rfl) (by decide) D15 (fun j => bif Nat.beq j 36 then 14 else 91 + j) (SP15 w0.heap.size h) (fun _ w => Below w0.heap.size w0 w) ?_ ?_ ?_ ?_ ?_ ?_
  · intro j hj
    by_cases h : j = 36
    · subst h; rfl
    · rw [beq36 h]; simp [D15]; omega
  · intro j k hj hk e
    by_cases h : j = 36 <;> by_cases h' : k = 36
    · omega
    · subst h
      rw [beq36 h'] at e
      have e1 : 14 = 91 + k := e
      omega
    · subst h'
      rw [beq36 h] at e
      have e1 : 91 + j = 14 := e
      omega
    · rw [beq36 h, beq36 h'] at e
      omega
  · exact SP15_below
  · exact (Below.refl _ _).drew
  · refine steps_all (steps_cons ?_ (steps_cons ?_ (steps_cons ?_ (steps_cons ?_ (steps_cons ?_ (steps_cons ?_ (steps_cons ?_ (steps_cons ?_ (steps_cons ?_ (steps_cons ?_ (steps_cons ?_ (steps_cons ?_ (steps_cons ?_ (steps_cons ?_ (steps_cons ?_ (steps_cons ?_ (steps_cons ?_ (steps_cons ?_ (steps_cons ?_ (steps_cons ?_ (steps_cons ?_ (steps_cons ?_ (steps_cons ?_ (steps_cons ?_ (steps_cons ?_ (steps_cons ?_ (steps_cons ?_ (steps_cons ?_ (steps_cons ?_ (steps_cons ?_ (steps_cons ?_ (steps_cons ?_ (steps_cons ?_ (steps_cons ?_ (steps_cons ?_ (steps_cons ?_ (steps_cons ?_ ?_)))))))))))))))))))))))))))))))))))))
    · refine ⟨rfl, fun L us w K a _ hu h0 hw hd hK => ?_⟩
      have e13 := h0 13 (by decide) (by decide)
      rw [h13] at e13
      clear hu h0 hd
      go_simp
      exact hK _ _ (Below.refl _ _) hw rfl
    · refine ⟨rfl, fun L us w K a _ hu h0 hw hd hK => ?_⟩
      have e91 := hu 91 (by decide) (by decide)
      rw [show us 91 = _ from hd 0 (by kernel_rfl)] at e91
      clear hu h0 hd
      go_simp
      go_at_call 12
      refine (uriOf_calls h _ (by omega)).mono ?_
      rintro e w2 ⟨lu, rfl, hwd, hlu, nd, rfl⟩
      exact hK _ _ (pw_below_drewN (Below.refl _ _) nd) (below_step hw (pw_below_drewN (Below.refl _ _) nd)) ⟨_, uri_ok hwd, rfl⟩
    · refine ⟨rfl, fun L us w K a _ hu h0 hw hd hK => ?_⟩
      have e13 := h0 13 (by decide) (by decide)
      rw [h13] at e13
      clear hu h0 hd
      go_simp
      exact hK _ _ (Below.refl _ _) hw rfl
    · refine ⟨rfl, fun L us w K a _ hu h0 hw hd hK => ?_⟩
      have e93 := hu 93 (by decide) (by decide)
      rw [show us 93 = _ from hd 2 (by kernel_rfl)] at e93
      clear hu h0 hd
      go_simp
      exact hK _ _ (Below.refl _ _) hw (num_of (w := w) _ (by omega))
    · refine ⟨rfl, fun L us w K a _ hu h0 hw hd hK => ?_⟩
      have e13 := h0 13 (by decide) (by decide)
      rw [h13] at e13
      clear hu h0 hd
      go_simp
      exact hK _ _ (Below.refl _ _) hw rfl
    · refine ⟨rfl, fun L us w K a _ hu h0 hw hd hK => ?_⟩
      have e9 := h0 9 (by decide) (by decide)
      rw [h9] at e9
      clear hu h0 hd
      go_simp
      exact hK _ _ (Below.refl _ _) hw rfl
    · refine ⟨rfl, fun L us w K a _ hu h0 hw hd hK => ?_⟩
      have e13 := h0 13 (by decide) (by decide)
      rw [h13] at e13
      clear hu h0 hd
      go_simp
      exact hK _ _ (Below.refl _ _) hw rfl
    · refine ⟨rfl, fun L us w K a _ hu h0 hw hd hK => ?_⟩
      have e97 := hu 97 (by decide) (by decide)
      rw [show us 97 = _ from hd 6 (by kernel_rfl)] at e97
      clear hu h0 hd
      go_simp
      exact hK _ _ (Below.refl _ _) hw (num_of (w := w) _ (by omega))
    · refine ⟨rfl, fun L us w K a _ hu h0 hw hd hK => ?_⟩
      obtain ⟨n7, hn7, q7⟩ : NumOf (us 98) w := hd 7 (by kernel_rfl)
      have e98 := hu 98 (by decide) (by decide)
      rw [q7] at e98
      have e96 := hu 96 (by decide) (by decide)
      rw [show us 96 = _ from hd 5 (by kernel_rfl)] at e96
      clear hu h0 hd
      go_simp
      go_at_call 10
      refine (group_calls n7 _).mono ?_
      rintro e w2 ⟨lg, rfl, hlg, hb⟩
      exact hK _ _ hb (below_step hw hb) ⟨lg, hlg, rfl⟩
    · refine ⟨rfl, fun L us w K a _ hu h0 hw hd hK => ?_⟩
      have e9 := h0 9 (by decide) (by decide)
      rw [h9] at e9
      clear hu h0 hd
      go_simp
      exact hK _ _ (Below.refl _ _) hw rfl
    · refine ⟨rfl, fun L us w K a _ hu h0 hw hd hK => ?_⟩
      have e13 := h0 13 (by decide) (by decide)
      rw [h13] at e13
      clear hu h0 hd
      go_simp
      exact hK _ _ (Below.refl _ _) hw rfl
    · refine ⟨rfl, fun L us w K a _ hu h0 hw hd hK => ?_⟩
      have e101 := hu 101 (by decide) (by decide)
      rw [show us 101 = _ from hd 10 (by kernel_rfl)] at e101
      clear hu h0 hd
      go_simp
      exact hK _ _ (Below.refl _ _) hw (num_of (w := w) _ (by omega))
    · refine ⟨rfl, fun L us w K a _ hu h0 hw hd hK => ?_⟩
      obtain ⟨n11, hn11, q11⟩ : NumOf (us 102) w := hd 11 (by kernel_rfl)
      have e102 := hu 102 (by decide) (by decide)
      rw [q11] at e102
      have e100 := hu 100 (by decide) (by decide)
      rw [show us 100 = _ from hd 9 (by kernel_rfl)] at e100
      clear hu h0 hd
      go_simp
      go_at_call 10
      refine (group_calls n11 _).mono ?_
      rintro e w2 ⟨lg, rfl, hlg, hb⟩
      exact hK _ _ hb (below_step hw hb) ⟨lg, hlg, rfl⟩
    · refine ⟨rfl, fun L us w K a _ hu h0 hw hd hK => ?_⟩
      have e9 := h0 9 (by decide) (by decide)
      rw [h9] at e9
      clear hu h0 hd
      go_simp
      exact hK _ _ (Below.refl _ _) hw rfl
    · refine ⟨rfl, fun L us w K a _ hu h0 hw hd hK => ?_⟩
      have e13 := h0 13 (by decide) (by decide)
      rw [h13] at e13
      clear hu h0 hd
      go_simp
      exact hK _ _ (Below.refl _ _) hw rfl
    · refine ⟨rfl, fun L us w K a _ hu h0 hw hd hK => ?_⟩
      have e105 := hu 105 (by decide) (by decide)
      rw [show us 105 = _ from hd 14 (by kernel_rfl)] at e105
      clear hu h0 hd
      go_simp
      exact hK _ _ (Below.refl _ _) hw (num_of (w := w) _ (by omega))
    · refine ⟨rfl, fun L us w K a _ hu h0 hw hd hK => ?_⟩
      obtain ⟨n15, hn15, q15⟩ : NumOf (us 106) w := hd 15 (by kernel_rfl)
      have e106 := hu 106 (by decide) (by decide)
      rw [q15] at e106
      have e104 := hu 104 (by decide) (by decide)
      rw [show us 104 = _ from hd 13 (by kernel_rfl)] at e104
      clear hu h0 hd
      go_simp
      go_at_call 10
      refine (group_calls n15 _).mono ?_
      rintro e w2 ⟨lg, rfl, hlg, hb⟩
      exact hK _ _ hb (below_step hw hb) ⟨lg, hlg, rfl⟩
    · refine ⟨rfl, fun L us w K a _ hu h0 hw hd hK => ?_⟩
      clear hu h0 hd
      go_simp
      exact hK _ _ ((Below.refl _ w).alloc (Nat.le_refl _) _) (below_step hw ((Below.refl _ w).alloc (Nat.le_refl _) _)) (litrow_new w lCap 9 _)
    · refine ⟨rfl, fun L us w K a _ hu h0 hw hd hK => ?_⟩
      have e13 := h0 13 (by decide) (by decide)
      rw [h13] at e13
      clear hu h0 hd
      go_simp
      exact hK _ _ (Below.refl _ _) hw rfl
    · refine ⟨rfl, fun L us w K a _ hu h0 hw hd hK => ?_⟩
      have e109 := hu 109 (by decide) (by decide)
      rw [show us 109 = _ from hd 18 (by kernel_rfl)] at e109
      clear hu h0 hd
      go_simp
      exact hK _ _ (Below.refl _ _) hw (num_of (w := w) _ (by first | omega | (constructor <;> omega)))
    · refine ⟨rfl, fun L us w K a _ hu h0 hw hd hK => ?_⟩
      obtain ⟨n19, hn19, q19⟩ : NumOf (us 110) w := hd 19 (by kernel_rfl)
      have e110 := hu 110 (by decide) (by decide)
      rw [q19] at e110
      clear hu h0 hd
      go_simp
      exact hK _ _ (Below.refl _ _) hw (idx_tmod (w := w) _)
    · refine ⟨rfl, fun L us w K a _ hu h0 hw hd hK => ?_⟩
      obtain ⟨g17, c17, q17, hg17, hc17⟩ : LitRow lCap (us 108) w := hd 17 (by kernel_rfl)
      have e108 := hu 108 (by decide) (by decide)
      rw [q17] at e108
      obtain ⟨i20, hi20, q20⟩ : IdxOf 3 (us 111) w := hd 20 (by kernel_rfl)
      have e111 := hu 111 (by decide) (by decide)
      rw [q20] at e111
      have hx : i20 < lCap.length := by have : lCap.length = 3 := rfl; omega
      clear hu h0 hd
      go_simp
      exact hK _ _ (Below.refl _ _) hw ⟨g17, i20, _, rfl, List.getElem_mem (by have : lCap.length = 3 := rfl; omega), hc17 i20 (by have : lCap.length = 3 := rfl; omega)⟩
    · refine ⟨rfl, fun L us w K a _ hu h0 hw hd hK => ?_⟩
      obtain ⟨g21, i21, l21, q21, hl21, hc21⟩ : LitAt lCap (us 112) w := hd 21 (by kernel_rfl)
      have e112 := hu 112 (by decide) (by decide)
      rw [q21] at e112
      clear hu h0 hd
      go_simp
      exact hK _ _ (Below.refl _ _) hw ⟨_, hl21, rfl⟩
    · refine ⟨rfl, fun L us w K a _ hu h0 hw hd hK => ?_⟩
      clear hu h0 hd
      go_simp
      exact hK _ _ ((Below.refl _ w).alloc (Nat.le_refl _) _) (below_step hw ((Below.refl _ w).alloc (Nat.le_refl _) _)) (litrow_new w lNam 9 _)
    · refine ⟨rfl, fun L us w K a _ hu h0 hw hd hK => ?_⟩
      have e13 := h0 13 (by decide) (by decide)
      rw [h13] at e13
      clear hu h0 hd
      go_simp
      exact hK _ _ (Below.refl _ _) hw rfl
    · refine ⟨rfl, fun L us w K a _ hu h0 hw hd hK => ?_⟩
      have e115 := hu 115 (by decide) (by decide)
      rw [show us 115 = _ from hd 24 (by kernel_rfl)] at e115
      clear hu h0 hd
      go_simp
      exact hK _ _ (Below.refl _ _) hw (num_of (w := w) _ (by first | omega | (constructor <;> omega)))
    · refine ⟨rfl, fun L us w K a _ hu h0 hw hd hK => ?_⟩
      obtain ⟨n25, hn25, q25⟩ : NumOf (us 116) w := hd 25 (by kernel_rfl)
      have e116 := hu 116 (by decide) (by decide)
      rw [q25] at e116
      clear hu h0 hd
      go_simp
      exact hK _ _ (Below.refl _ _) hw (idx_tmod (w := w) _)
    · refine ⟨rfl, fun L us w K a _ hu h0 hw hd hK => ?_⟩
      obtain ⟨g23, c23, q23, hg23, hc23⟩ : LitRow lNam (us 114) w := hd 23 (by kernel_rfl)
      have e114 := hu 114 (by decide) (by decide)
      rw [q23] at e114
      obtain ⟨i26, hi26, q26⟩ : IdxOf 3 (us 117) w := hd 26 (by kernel_rfl)
      have e117 := hu 117 (by decide) (by decide)
      rw [q26] at e117
      have hx : i26 < lNam.length := by have : lNam.length = 3 := rfl; omega
      clear hu h0 hd
      go_simp
      exact hK _ _ (Below.refl _ _) hw ⟨g23, i26, _, rfl, List.getElem_mem (by have : lNam.length = 3 := rfl; omega), hc23 i26 (by have : lNam.length = 3 := rfl; omega)⟩
    · refine ⟨rfl, fun L us w K a _ hu h0 hw hd hK => ?_⟩
      obtain ⟨g27, i27, l27, q27, hl27, hc27⟩ : LitAt lNam (us 118) w := hd 27 (by kernel_rfl)
      have e118 := hu 118 (by decide) (by decide)
      rw [q27] at e118
      clear hu h0 hd
      go_simp
      exact hK _ _ (Below.refl _ _) hw ⟨_, hl27, rfl⟩
    · refine ⟨rfl, fun L us w K a _ hu h0 hw hd hK => ?_⟩
      clear hu h0 hd
      go_simp
      exact hK _ _ ((Below.refl _ w).alloc (Nat.le_refl _) _) (below_step hw ((Below.refl _ w).alloc (Nat.le_refl _) _)) (litrow_new w lCod 9 _)
    · refine ⟨rfl, fun L us w K a _ hu h0 hw hd hK => ?_⟩
      have e13 := h0 13 (by decide) (by decide)
      rw [h13] at e13
      clear hu h0 hd
      go_simp
      exact hK _ _ (Below.refl _ _) hw rfl
    · refine ⟨rfl, fun L us w K a _ hu h0 hw hd hK => ?_⟩
      have e121 := hu 121 (by decide) (by decide)
      rw [show us 121 = _ from hd 30 (by kernel_rfl)] at e121
      clear hu h0 hd
      go_simp
      exact hK _ _ (Below.refl _ _) hw (num_of (w := w) _ (by first | omega | (constructor <;> omega)))
    · refine ⟨rfl, fun L us w K a _ hu h0 hw hd hK => ?_⟩
      obtain ⟨n31, hn31, q31⟩ : NumOf (us 122) w := hd 31 (by kernel_rfl)
      have e122 := hu 122 (by decide) (by decide)
      rw [q31] at e122
      clear hu h0 hd
      go_simp
      exact hK _ _ (Below.refl _ _) hw (idx_tmod (w := w) _)
    · refine ⟨rfl, fun L us w K a _ hu h0 hw hd hK => ?_⟩
      obtain ⟨g29, c29, q29, hg29, hc29⟩ : LitRow lCod (us 120) w := hd 29 (by kernel_rfl)
      have e120 := hu 120 (by decide) (by decide)
      rw [q29] at e120
      obtain ⟨i32, hi32, q32⟩ : IdxOf 3 (us 123) w := hd 32 (by kernel_rfl)
      have e123 := hu 123 (by decide) (by decide)
      rw [q32] at e123
      have hx : i32 < lCod.length := by have : lCod.length = 3 := rfl; omega
      clear hu h0 hd
      go_simp
      exact hK _ _ (Below.refl _ _) hw ⟨g29, i32, _, rfl, List.getElem_mem (by have : lCod.length = 3 := rfl; omega), hc29 i32 (by have : lCod.length = 3 := rfl; omega)⟩
    · refine ⟨rfl, fun L us w K a _ hu h0 hw hd hK => ?_⟩
      obtain ⟨g33, i33, l33, q33, hl33, hc33⟩ : LitAt lCod (us 124) w := hd 33 (by kernel_rfl)
      have e124 := hu 124 (by decide) (by decide)
      rw [q33] at e124
      clear hu h0 hd
      go_simp
      exact hK _ _ (Below.refl _ _) hw ⟨_, hl33, rfl⟩
    · refine ⟨rfl, fun L us w K a _ hu h0 hw hd hK => ?_⟩
      obtain ⟨l1, hl1, q1⟩ : UriOf (us 92) w := hd 1 (by kernel_rfl)
      have e92 := hu 92 (by decide) (by decide)
      rw [q1] at e92
      obtain ⟨n3, hn3, q3⟩ : NumOf (us 94) w := hd 3 (by kernel_rfl)
      have e94 := hu 94 (by decide) (by decide)
      rw [q3] at e94
      have e95 := hu 95 (by decide) (by decide)
      rw [show us 95 = _ from hd 4 (by kernel_rfl)] at e95
      obtain ⟨l8, hl8, q8⟩ : GrpOf (us 99) w := hd 8 (by kernel_rfl)
      have e99 := hu 99 (by decide) (by decide)
      rw [q8] at e99
      obtain ⟨l12, hl12, q12⟩ : GrpOf (us 103) w := hd 12 (by kernel_rfl)
      have e103 := hu 103 (by decide) (by decide)
      rw [q12] at e103
      obtain ⟨l16, hl16, q16⟩ : GrpOf (us 107) w := hd 16 (by kernel_rfl)
      have e107 := hu 107 (by decide) (by decide)
      rw [q16] at e107
      obtain ⟨l22, hl22, q22⟩ : LitOf lCap (us 113) w := hd 22 (by kernel_rfl)
      have e113 := hu 113 (by decide) (by decide)
      rw [q22] at e113
      obtain ⟨l28, hl28, q28⟩ : LitOf lNam (us 119) w := hd 28 (by kernel_rfl)
      have e119 := hu 119 (by decide) (by decide)
      rw [q28] at e119
      obtain ⟨l34, hl34, q34⟩ : LitOf lCod (us 125) w := hd 34 (by kernel_rfl)
      have e125 := hu 125 (by decide) (by decide)
      rw [q34] at e125
      clear hu h0 hd
      go_simp
      exact hK _ _ (Below.refl _ _) hw ⟨⟨l1, n3, h, 0, l34, 0, 0, l8, l12, l16, l22, l28, 0⟩, var_good hl1 hn3 hh hl8 hl12 hl16 hl22 hl28 hl34, hl1.2.1, rfl⟩
    · refine ⟨rfl, fun L us w K a _ hu h0 hw hd hK => ?_⟩
      clear hu h0 hd
      go_simp
      exact hK _ _ ((Below.refl _ w).alloc (Nat.le_refl _) _) (below_step hw ((Below.refl _ w).alloc (Nat.le_refl _) _)) ⟨_, rfl, hw.size, heap_alloc_new w _⟩
    · exact steps_stop (by decide)
  · intro _ us w _ hw ht
    obtain ⟨v, hv1, hv2, tv⟩ : VarOf (us 126) w := ht 35 (by decide)
    obtain ⟨g, tg, hg, hL⟩ : NewVar w0.heap.size (us 14) w := ht 36 (by decide)
    have HW := Lib.hid hw
    have HL := Lib.hid hL
    clear ht hw hL
    show wpTail _ _ [_] _ _
    refine ⟨rfl, ?_⟩
    obtain ⟨F, hF⟩ : ∃ F, F = Fr 202 (mix D15 us (fun k => l.getD k undef)) := ⟨_, rfl⟩
    rw [← hF]
    have e14 : F[14]?.getD undef = .pointer (some ⟨g, 0, none⟩) := by rw [hF]; exact (mix_get (by decide) rfl).trans tg
    have e126 : F[126]?.getD undef = .agg (varA v) := by rw [hF]; exact (mix_get (by decide) rfl).trans tv
    have HF := Lib.hid hF
    have TG := Lib.hid tg
    have HV1 := Lib.hid hv1
    clear hF tg tv hv1
    have x0 := HL.out.cell 0; have x1 := HL.out.cell 1; have x2 := HL.out.cell 2; have x3 := HL.out.cell 3; have x4 := HL.out.cell 4; have x5 := HL.out.cell 5; have x6 := HL.out.cell 6; have x7 := HL.out.cell 7; have x8 := HL.out.cell 8; have x9 := HL.out.cell 9; have x10 := HL.out.cell 10; have x11 := HL.out.cell 11; have x12 := HL.out.cell 12
    simp [Array.getElem?_eq_getElem] at x0 x1 x2 x3 x4 x5 x6 x7 x8 x9 x10 x11 x12
    have y0 := HL.out.frozen 0; have y1 := HL.out.frozen 1; have y2 := HL.out.frozen 2; have y3 := HL.out.frozen 3; have y4 := HL.out.frozen 4; have y5 := HL.out.frozen 5; have y6 := HL.out.frozen 6; have y7 := HL.out.frozen 7; have y8 := HL.out.frozen 8; have y9 := HL.out.frozen 9; have y10 := HL.out.frozen 10; have y11 := HL.out.frozen 11; have y12 := HL.out.frozen 12
    go_simp
    rw [HF.out]
    refine HQ.out us _ g v HV1.out hv2 TG.out hg ?_ ?_
    · have h' := ((((((((((((HL.out.set 0 (.string (bs v.uri))).set 1 (.int .u32 v.program)).set 2 (.int .u32 v.bandwidth)).set 3 (.int .u32 v.average)).set 4 (.string (bs v.codecs))).set 5 (.int .u32 v.width)).set 6 (.int .u32 v.height)).set 7 (.string (bs v.audio))).set 8 (.string (bs v.video))).set 9 (.string (bs v.subtitles))).set 10 (.string (bs v.captions))).set 11 (.string (bs v.name))).set 12 (.int .i64 v.rate)
      simp only [List.setIfInBounds_toArray, List.set_cons_zero, List.set_cons_succ] at h'
      exact h'
    · exact ((((((((((((HW.out.setCell hg _).setCell hg _).setCell hg _).setCell hg _).setCell hg _).setCell hg _).setCell hg _).setCell hg _).setCell hg _).setCell hg _).setCell hg _).setCell hg _).setCell hg _
end Go.Proofs.YtlghdacdpkaoeaaGreatDoor
