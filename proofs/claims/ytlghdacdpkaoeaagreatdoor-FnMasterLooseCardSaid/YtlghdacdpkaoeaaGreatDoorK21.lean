import Derived.Test.YtlghdacdpkaoeaaGreatDoorK20
namespace Go.Proofs.YtlghdacdpkaoeaaGreatDoor
open Go.RowKit Go.Proofs.YtlghdacdpkaoeaaGreatDoorW.PrintWords Go.Maps
open Go.Lib hiding intOf
set_option linter.unusedVariables false
set_option linter.unusedSimpArgs false
theorem lower_ne (c : UInt8) (h : c = 46 ∨ (48 ≤ c ∧ c ≤ 57)) : (bits BinOp.or IntKind.u8 (c.toNat : Int) 32 == 120) = false := by
  have : ∀ i : Fin 256, (i.val = 46 ∨ (48 ≤ i.val ∧ i.val ≤ 57)) → (bits BinOp.or IntKind.u8 (i.val : Int) 32 == 120) = false := by decide +kernel
  refine this ⟨c.toNat, c.toNat_lt⟩ ?_
  rcases h with rfl | ⟨h1, h2⟩
  · exact .inl rfl
  · refine .inr ⟨?_, ?_⟩
    · simpa [UInt8.le_iff_toNat_le] using h1
    · simpa [UInt8.le_iff_toNat_le] using h2
theorem lower_calls (c : Int) (w : World) : Calls Tryz.prog 115 #[.int .u8 c] w fun e w' => e = .returned (.int .u8 (bits BinOp.or IntKind.u8 c 32)) ∧ w = w' := by
  go_enter Tryz.func115, Tryz.ntmps115
  go_wp2
  go_ret
  exact ⟨rfl, rfl⟩
theorem rf_mul (m : Nat) (c : Int) (nd : Nat) (hm : m < 10 ^ nd) (hn : nd < 18) (h1 : 48 ≤ c) (h2 : c ≤ 57) : IntKind.u64.wrap (IntKind.u64.wrap ((m : Int) * 10) + (c - 48)) = ((m * 10 + (c.toNat - 48) : Nat) : Int) := by
  have hb : (10 : Nat) ^ nd ≤ 10 ^ 17 := Nat.pow_le_pow_right (by decide) (by omega)
  have e : (10 : Nat) ^ 17 = 100000000000000000 := by decide
  rw [u64_in ((m : Int) * 10) (by omega) (by omega), u64_in _ (by omega) (by omega)]
  omega
theorem toNat_ne46 {c : UInt8} (h1 : 48 ≤ (c.toNat : Int)) : c ≠ 46 := by
  rintro rfl; exact absurd h1 (by decide)
theorem step_point {sm sn : Nat} {sp : Int} {sd sg : Bool} {c : UInt8} (h : c = 46) : RF.mk sm sn sn true sg = rfStep ⟨sm, sn, sp, sd, sg⟩ c := by
  subst h; rfl
theorem step_skip {sm sn : Nat} {sp : Int} {sd sg : Bool} {c : UInt8} (h : (c.toNat : Int) = 48) (h0 : ((sn : Int) == 0) = true) : RF.mk sm sn (sp - 1) sd true = rfStep ⟨sm, sn, sp, sd, sg⟩ c := by
  have hc : c = 48 := UInt8.toNat_inj.1 (by show c.toNat = 48; omega)
  have hn : sn = 0 := by simpa using h0
  subst hc; subst hn; rfl
theorem step_dig {sm sn : Nat} {sp : Int} {sd sg : Bool} {c : UInt8} (h1 : 48 ≤ (c.toNat : Int)) (h : ¬ (c.toNat : Int) = 48 ∨ ((sn : Int) == 0) = false) : RF.mk (sm * 10 + (c.toNat - 48)) (sn + 1) sp sd true = rfStep ⟨sm, sn, sp, sd, sg⟩ c := by
  unfold rfStep
  rw [if_neg (toNat_ne46 h1), if_neg]
  rintro ⟨rfl, h3⟩
  rcases h with h | h
  · exact h rfl
  · simp at h; exact h h3
theorem exp_plain {l : List UInt8} {sm sn : Nat} {sp : Int} (h : RF.mk sm sn sp false true = rf l) : rfExp l = 0 := by
  have h2 := rf_dot l
  rw [← h] at h2
  simp at h2
  unfold rfExp
  rw [if_neg h2]; split <;> rfl
theorem exp_none {l : List UInt8} {sm sn : Nat} {sp : Int} {sd : Bool} (h : RF.mk sm sn sp sd true = rf l) (h0 : ((sm : Int) != 0) = false) : rfExp l = 0 := by
  unfold rfExp
  rw [← h]
  have : sm = 0 := by simpa using h0
  rw [if_pos this]
theorem exp_some {l : List UInt8} {sm sn : Nat} {sp : Int} (h : RF.mk sm sn sp true true = rf l) (h0 : ((sm : Int) != 0) = true) : rfExp l = sp - sn := by
  have h2 := rf_dot l
  rw [← h] at h2
  simp at h2
  unfold rfExp
  rw [← h, if_pos h2, if_neg]
  simpa using h0
set_option maxRecDepth 100000 in
set_option maxHeartbeats 4000000 in
theorem readFloat_walk (l : List UInt8) (h : NumText l) (T : ByteArray) (hT : T = bs l) (w : World) :
    Calls Tryz.prog 122 #[.string T] w fun e w' => e = .returned (.tuple #[.int .u64 (rf l).m, .int .i64 (rfExp l), .bool false, .bool false, .bool false, .int .i64 l.length, .bool true]) ∧ w' = w := by
  have hs : T.size = l.length := by rw [hT, bs_size]
  have hs18 : T.size ≤ 18 := by rw [hs]; exact h.len
  have hs0 : 0 < T.size := by
    obtain ⟨c, r, e, _⟩ := h.head
    rw [hs, e]; simp
  have hget : ∀ k (hk : k < T.size), T[k] = l.getD k 0 := by
    intro k hk; subst hT; rw [bs_get hk, List.getD_eq_getElem?_getD, List.getElem?_eq_getElem (by omega)]; rfl
  have hd0 : 48 ≤ (T[0].toNat : Int) ∧ (T[0].toNat : Int) ≤ 57 := by
    obtain ⟨c, r, e, h1, h2⟩ := h.head
    rw [hget 0 hs0]
    subst e
    simp only [List.getD_cons_zero, UInt8.le_iff_toNat_le] at *
    have a1 : (48 : UInt8).toNat = 48 := rfl
    have a2 : (57 : UInt8).toNat = 57 := rfl
    omega
  have b43 : ((T[0].toNat : Int) == 43) = false := by rw [beq_eq_false_iff_ne]; omega
  have b45 : ((T[0].toNat : Int) == 45) = false := by rw [beq_eq_false_iff_ne]; omega
  have b120 : ∀ (h1 : 1 < T.size), (bits BinOp.or IntKind.u8 (T[1].toNat : Int) 32 == 120) = false := fun h1 => lower_ne _ (by
    rw [hget 1 h1, List.getD_eq_getElem?_getD, List.getElem?_eq_getElem (by omega)]
    exact h.signs _ (List.getElem_mem _))
  have hE : ¬ T = ByteArray.empty := by
    intro e; rw [e] at hs0; exact absurd hs0 (by decide)
  have hch : ∀ k (hk : k < T.size), (T[k] = 46 ∧ (rf (l.take k)).dot = false) ∨ (48 ≤ (T[k].toNat : Int) ∧ (T[k].toNat : Int) ≤ 57) := by
    intro k hk
    have hm : l.getD k 0 ∈ l := by rw [List.getD_eq_getElem?_getD, List.getElem?_eq_getElem (by omega)]; exact List.getElem_mem _
    rw [hget k hk]
    rcases h.signs _ hm with h1 | ⟨h1, h2⟩
    · refine .inl ⟨h1, ?_⟩
      rw [rf_dot, decide_eq_false_iff_not]
      intro hin
      have h3 := h.one
      have h4 : l = l.take k ++ l.getD k 0 :: l.drop (k + 1) := by
        rw [List.getD_eq_getElem?_getD, List.getElem?_eq_getElem (by omega)]
        simp
      rw [h4, List.count_append, h1, List.count_cons_self] at h3
      have := List.count_pos_iff.2 hin
      omega
    · right
      simp only [UInt8.le_iff_toNat_le] at h1 h2
      have a1 : (48 : UInt8).toNat = 48 := rfl
      have a2 : (57 : UInt8).toNat = 57 := rfl
      omega
  have htk : ∀ k (hk : k < T.size), rf (l.take (k + 1)) = rfStep (rf (l.take k)) T[k] := by
    intro k hk
    rw [hget k hk, List.take_succ_eq_append_getElem (by omega), rf_snoc, List.getD_eq_getElem?_getD, List.getElem?_eq_getElem (by omega)]
    rfl
  have hbd : ∀ k, k ≤ T.size → (rf (l.take k)).nd ≤ k ∧ (rf (l.take k)).m < 10 ^ (rf (l.take k)).nd ∧ -(k : Int) ≤ (rf (l.take k)).dp ∧ (rf (l.take k)).dp ≤ k := by
    intro k hk
    have := rf_bd (l.take k) (fun c hc => h.signs c (List.mem_of_mem_take hc))
    rw [List.length_take, Nat.min_eq_left (by omega)] at this
    exact this
  have HS := Lib.hid hs
  have HH := Lib.hid h
  have HC := Lib.hid hch
  have HT := Lib.hid htk
  have HB := Lib.hid hbd
  clear hs hget h hT hch htk hbd
  go_enter Tryz.func122, Tryz.ntmps122
  go_wp2
  go_step3
  go_wp2_with (first | (go_at_call 115; refine (lower_calls _ _).mono ?_; rintro e w' ⟨rfl, rfl⟩) | go_in)
  all_goals
    go_step3
    go_wp2
    go_loop [2, 7, 13, 14, 15, 16, 17, 5, 9] (fun m i dt dg nd ndm dp tr us => ∃ (k : Nat) (sm sn : Nat) (sp : Int) (sd sg : Bool), k ≤ T.size ∧ Hid (RF.mk sm sn sp sd sg = rf (l.take k)) ∧ i = .int .i64 k ∧ m = .int .u64 sm ∧ nd = .int .i64 sn ∧ ndm = .int .i64 sn ∧ dp = .int .i64 sp ∧ dt = .bool sd ∧ dg = .bool sg ∧ tr = .bool false ∧ us = .bool false)
      (fun _ i _ _ _ _ _ _ _ => T.size - (intOf i).toNat)
    case atStart => exact ⟨0, 0, 0, 0, false, false, by omega, rfl, rfl, rfl, rfl, rfl, rfl, rfl, rfl, rfl, rfl⟩
    case round =>
      obtain ⟨k, sm, sn, sp, sd, sg, hk, HR, rfl, rfl, rfl, rfl, rfl, rfl, rfl, rfl, rfl⟩ := hrel
      obtain ⟨b1, b2, b3, b4⟩ := HB.out k hk
      rw [← HR.out] at b1 b2 b3 b4
      simp only at b1 b2 b3 b4
      have B2 := Lib.hid b2
      clear b2
      by_cases hlt : k < T.size
      · have hts := HT.out k hlt
        rw [← HR.out] at hts
        have HTS := Lib.hid hts
        rcases HC.out k hlt with ⟨h46, hdt⟩ | ⟨h1, h2⟩
        · rw [← HR.out] at hdt
          simp only at hdt
          subst hdt
          have H46 := Lib.hid h46
          have t1 : ((T[k].toNat : Int) == 95) = false := by rw [h46]; rfl
          have t2 : ((T[k].toNat : Int) == 46) = true := by rw [h46]; rfl
          clear h46 hts
          go_wp2
          exact ⟨⟨k + 1, sm, sn, sn, true, sg, by omega, by show _ = _; rw [HTS.out]; exact step_point H46.out, by go_num, rfl, rfl, rfl, rfl, rfl, rfl, rfl, rfl⟩, by simp [intOf]; omega⟩
        · have t1 : ((T[k].toNat : Int) == 95) = false := by rw [beq_eq_false_iff_ne]; omega
          have t2 : ((T[k].toNat : Int) == 46) = false := by rw [beq_eq_false_iff_ne]; omega
          clear hts
          by_cases h48 : (T[k].toNat : Int) = 48
          · have g48 : ((T[k].toNat : Int) == 48) = true := by rw [h48]; rfl
            have H48 := Lib.hid h48
            clear h48
            cases hz : ((sn : Int) == 0)
            · have g48' : ((T[k].toNat : Int) != 48) = false := by rw [H48.out]; rfl
              have HZ := Lib.hid hz
              go_wp2
              exact ⟨⟨k + 1, _, sn + 1, sp, sd, true, by omega, by show _ = _; rw [HTS.out]; exact step_dig h1 (.inr HZ.out), by go_num, congrArg _ (rf_mul sm _ sn B2.out (by omega) h1 h2), by go_num, by go_num, rfl, rfl, rfl, rfl, rfl⟩, by simp [intOf]; omega⟩
            · have HZ := Lib.hid hz
              go_wp2
              exact ⟨⟨k + 1, sm, sn, sp - 1, sd, true, by omega, by show _ = _; rw [HTS.out]; exact step_skip H48.out HZ.out, by go_num, rfl, rfl, rfl, rfl, rfl, rfl, rfl, rfl⟩, by simp [intOf]; omega⟩
          · have g48 : ((T[k].toNat : Int) == 48) = false := by simpa using h48
            have H48 := Lib.hid h48
            clear h48
            go_wp2
            exact ⟨⟨k + 1, _, sn + 1, sp, sd, true, by omega, by show _ = _; rw [HTS.out]; exact step_dig h1 (.inl H48.out), by go_num, congrArg _ (rf_mul sm _ sn B2.out (by omega) h1 h2), by go_num, by go_num, rfl, rfl, rfl, rfl, rfl⟩, by simp [intOf]; omega⟩
      · obtain rfl : k = T.size := by omega
        have e0 : l.take T.size = l := by rw [List.take_of_length_le]; rw [HS.out]; exact Nat.le_refl _
        have hR := HR.out
        rw [e0] at hR
        have hg : sg = true := by
          have e1 : (rf l).dig = sg := by rw [← hR]
          rw [← e1, rf_dig, decide_eq_true_eq]
          obtain ⟨c, r, e, h1, _⟩ := HH.out.head
          refine ⟨c, by rw [e]; simp, ?_⟩
          rintro rfl; exact absurd h1 (by decide)
        subst hg
        have HR' := Lib.hid hR
        clear hR e0 HR
        have HM := Lib.hid (show (rf l).m = sm by rw [← HR'.out])
        cases hm0 : ((sm : Int) != 0)
        · have HX := Lib.hid (exp_none HR'.out hm0)
          cases sd
          all_goals
            go_wp2_with fail
            go_returns
            refine ⟨?_, rfl⟩
            rw [HM.out, HX.out, ← HS.out]
        · cases sd
          · have HX := Lib.hid (exp_plain HR'.out)
            go_wp2_with fail
            go_returns
            refine ⟨?_, rfl⟩
            rw [HM.out, HX.out, ← HS.out]
          · have HX := Lib.hid (exp_some HR'.out hm0)
            go_wp2_with fail
            go_returns
            refine ⟨?_, rfl⟩
            rw [HM.out, HX.out, ← HS.out]
end Go.Proofs.YtlghdacdpkaoeaaGreatDoor
