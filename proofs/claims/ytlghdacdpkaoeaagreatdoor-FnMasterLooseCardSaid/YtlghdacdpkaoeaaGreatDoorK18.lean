import Derived.Test.YtlghdacdpkaoeaaGreatDoorK11
import Derived.Test.YtlghdacdpkaoeaaGreatDoorK14
namespace Go.Proofs.YtlghdacdpkaoeaaGreatDoor.PFnMasterLoose
open Go.RowKit Go.Proofs.YtlghdacdpkaoeaaGreatDoorW.PrintWords Go.Proofs.YtlghdacdpkaoeaaGreatDoorW.PrintLast Go.Proofs.YtlghdacdpkaoeaaGreatDoorW.PrintMore
attribute [local go_sem] max2_int min2_int max_two min_two max_three min_three max_four min_four
set_option linter.unusedVariables false
set_option linter.unusedSimpArgs false
def spec_seconds.f (k : Nat) (a0 : Int) : Option (ByteArray) := (spec_Decimal.f k (IntKind.u64.wrap (wrap64 (Int.tdiv a0 8)))).bind fun t158 => (if t158.size + 1 ≤ 9223372036854775807 then ((spec_Decimal.f k (IntKind.u64.wrap (wrap64 (Int.tdiv (wrap64 ((Int.tmod a0 8) * 125)) 100)))).bind fun t159 => (if (t158 ++ (⟨#[46]⟩ : ByteArray)).size + t159.size ≤ 9223372036854775807 then ((spec_Decimal.f k (IntKind.u64.wrap (Int.tmod (wrap64 (Int.tdiv (wrap64 ((Int.tmod a0 8) * 125)) 10)) 10))).bind fun t160 => (if ((t158 ++ (⟨#[46]⟩ : ByteArray)) ++ t159).size + t160.size ≤ 9223372036854775807 then ((spec_Decimal.f k (IntKind.u64.wrap (Int.tmod (wrap64 ((Int.tmod a0 8) * 125)) 10))).bind fun t161 => (if (((t158 ++ (⟨#[46]⟩ : ByteArray)) ++ t159) ++ t160).size + t161.size ≤ 9223372036854775807 then (some ((((t158 ++ (⟨#[46]⟩ : ByteArray)) ++ t159) ++ t160) ++ t161)) else (none))) else (none))) else (none))) else (none))
set_option maxHeartbeats 8000000 in
set_option maxRecDepth 100000 in
theorem spec_seconds.calls (k : Nat) (a0 : Int) (r : ByteArray) (w : World) (h : spec_seconds.f k a0 = some r) :
    Calls Tryz.prog 26 #[.int .i64 a0] w fun e w' => e = .returned (.string r) ∧ Drawn0 w w' := by
  have H : ((spec_Decimal.f k (IntKind.u64.wrap (wrap64 (Int.tdiv a0 8)))).bind fun t158 => (if t158.size + 1 ≤ 9223372036854775807 then ((spec_Decimal.f k (IntKind.u64.wrap (wrap64 (Int.tdiv (wrap64 ((Int.tmod a0 8) * 125)) 100)))).bind fun t159 => (if (t158 ++ (⟨#[46]⟩ : ByteArray)).size + t159.size ≤ 9223372036854775807 then ((spec_Decimal.f k (IntKind.u64.wrap (Int.tmod (wrap64 (Int.tdiv (wrap64 ((Int.tmod a0 8) * 125)) 10)) 10))).bind fun t160 => (if ((t158 ++ (⟨#[46]⟩ : ByteArray)) ++ t159).size + t160.size ≤ 9223372036854775807 then ((spec_Decimal.f k (IntKind.u64.wrap (Int.tmod (wrap64 ((Int.tmod a0 8) * 125)) 10))).bind fun t161 => (if (((t158 ++ (⟨#[46]⟩ : ByteArray)) ++ t159) ++ t160).size + t161.size ≤ 9223372036854775807 then (some ((((t158 ++ (⟨#[46]⟩ : ByteArray)) ++ t159) ++ t160) ++ t161)) else (none))) else (none))) else (none))) else (none))) = some r := h
  clear h
  replace H := Option.bind_eq_some_iff.mp H
  obtain ⟨t158, A20, H⟩ := H
  replace H : (if t158.size + 1 ≤ 9223372036854775807 then ((spec_Decimal.f k (IntKind.u64.wrap (wrap64 (Int.tdiv (wrap64 ((Int.tmod a0 8) * 125)) 100)))).bind fun t159 => (if (t158 ++ (⟨#[46]⟩ : ByteArray)).size + t159.size ≤ 9223372036854775807 then ((spec_Decimal.f k (IntKind.u64.wrap (Int.tmod (wrap64 (Int.tdiv (wrap64 ((Int.tmod a0 8) * 125)) 10)) 10))).bind fun t160 => (if ((t158 ++ (⟨#[46]⟩ : ByteArray)) ++ t159).size + t160.size ≤ 9223372036854775807 then ((spec_Decimal.f k (IntKind.u64.wrap (Int.tmod (wrap64 ((Int.tmod a0 8) * 125)) 10))).bind fun t161 => (if (((t158 ++ (⟨#[46]⟩ : ByteArray)) ++ t159) ++ t160).size + t161.size ≤ 9223372036854775807 then (some ((((t158 ++ (⟨#[46]⟩ : ByteArray)) ++ t159) ++ t160) ++ t161)) else (none))) else (none))) else (none))) else (none)) = some r := H
  have A2 := Aside0.mk A20
  clear A20
  by_cases c3 : t158.size + 1 ≤ 9223372036854775807
  · rw [if_pos c3] at H
    have c3b0 := eq_true c3
    have c3b1 : decide (t158.size + 1 ≤ 9223372036854775807) = true := decide_eq_true c3
    try have c3b2 : (9223372036854775807 < t158.size + 1) = False := eq_false (Nat.not_lt.2 c3)
    try (have c3b3 := c3; simp only [ByteArray.size_append, lit_size, List.length_cons, List.length_nil, Nat.zero_add, Nat.reduceAdd] at c3b3)
    replace H := Option.bind_eq_some_iff.mp H
    obtain ⟨t159, A40, H⟩ := H
    replace H : (if (t158 ++ (⟨#[46]⟩ : ByteArray)).size + t159.size ≤ 9223372036854775807 then ((spec_Decimal.f k (IntKind.u64.wrap (Int.tmod (wrap64 (Int.tdiv (wrap64 ((Int.tmod a0 8) * 125)) 10)) 10))).bind fun t160 => (if ((t158 ++ (⟨#[46]⟩ : ByteArray)) ++ t159).size + t160.size ≤ 9223372036854775807 then ((spec_Decimal.f k (IntKind.u64.wrap (Int.tmod (wrap64 ((Int.tmod a0 8) * 125)) 10))).bind fun t161 => (if (((t158 ++ (⟨#[46]⟩ : ByteArray)) ++ t159) ++ t160).size + t161.size ≤ 9223372036854775807 then (some ((((t158 ++ (⟨#[46]⟩ : ByteArray)) ++ t159) ++ t160) ++ t161)) else (none))) else (none))) else (none)) = some r := H
    have A4 := Aside0.mk A40
    clear A40
    by_cases c5 : (t158 ++ (⟨#[46]⟩ : ByteArray)).size + t159.size ≤ 9223372036854775807
    · rw [if_pos c5] at H
      have c5b0 := eq_true c5
      have c5b1 : decide ((t158 ++ (⟨#[46]⟩ : ByteArray)).size + t159.size ≤ 9223372036854775807) = true := decide_eq_true c5
      try have c5b2 : (9223372036854775807 < (t158 ++ (⟨#[46]⟩ : ByteArray)).size + t159.size) = False := eq_false (Nat.not_lt.2 c5)
      try (have c5b3 := c5; simp only [ByteArray.size_append, lit_size, List.length_cons, List.length_nil, Nat.zero_add, Nat.reduceAdd] at c5b3)
      replace H := Option.bind_eq_some_iff.mp H
      obtain ⟨t160, A60, H⟩ := H
      replace H : (if ((t158 ++ (⟨#[46]⟩ : ByteArray)) ++ t159).size + t160.size ≤ 9223372036854775807 then ((spec_Decimal.f k (IntKind.u64.wrap (Int.tmod (wrap64 ((Int.tmod a0 8) * 125)) 10))).bind fun t161 => (if (((t158 ++ (⟨#[46]⟩ : ByteArray)) ++ t159) ++ t160).size + t161.size ≤ 9223372036854775807 then (some ((((t158 ++ (⟨#[46]⟩ : ByteArray)) ++ t159) ++ t160) ++ t161)) else (none))) else (none)) = some r := H
      have A6 := Aside0.mk A60
      clear A60
      by_cases c7 : ((t158 ++ (⟨#[46]⟩ : ByteArray)) ++ t159).size + t160.size ≤ 9223372036854775807
      · rw [if_pos c7] at H
        have c7b0 := eq_true c7
        have c7b1 : decide (((t158 ++ (⟨#[46]⟩ : ByteArray)) ++ t159).size + t160.size ≤ 9223372036854775807) = true := decide_eq_true c7
        try have c7b2 : (9223372036854775807 < ((t158 ++ (⟨#[46]⟩ : ByteArray)) ++ t159).size + t160.size) = False := eq_false (Nat.not_lt.2 c7)
        try (have c7b3 := c7; simp only [ByteArray.size_append, lit_size, List.length_cons, List.length_nil, Nat.zero_add, Nat.reduceAdd] at c7b3)
        replace H := Option.bind_eq_some_iff.mp H
        obtain ⟨t161, A80, H⟩ := H
        replace H : (if (((t158 ++ (⟨#[46]⟩ : ByteArray)) ++ t159) ++ t160).size + t161.size ≤ 9223372036854775807 then (some ((((t158 ++ (⟨#[46]⟩ : ByteArray)) ++ t159) ++ t160) ++ t161)) else (none)) = some r := H
        have A8 := Aside0.mk A80
        clear A80
        by_cases c9 : (((t158 ++ (⟨#[46]⟩ : ByteArray)) ++ t159) ++ t160).size + t161.size ≤ 9223372036854775807
        · rw [if_pos c9] at H
          have c9b0 := eq_true c9
          have c9b1 : decide ((((t158 ++ (⟨#[46]⟩ : ByteArray)) ++ t159) ++ t160).size + t161.size ≤ 9223372036854775807) = true := decide_eq_true c9
          try have c9b2 : (9223372036854775807 < (((t158 ++ (⟨#[46]⟩ : ByteArray)) ++ t159) ++ t160).size + t161.size) = False := eq_false (Nat.not_lt.2 c9)
          try (have c9b3 := c9; simp only [ByteArray.size_append, lit_size, List.length_cons, List.length_nil, Nat.zero_add, Nat.reduceAdd] at c9b3)
          obtain rfl := Option.some.inj H
          go_enter Tryz.func26, Tryz.ntmps26
          go_wp2_with (first | ((with_reducible refine gate_callee (f := 11) rfl ?_); refine goesL_ (some 10) rfl rfl Tryz.func11 (by kernel_rfl) rfl #[.int .u64 (IntKind.u64.wrap (wrap64 (Int.tdiv a0 8)))] rfl (by (try simp only [List.map_toArray, List.map_cons, List.map_nil]); first | done | rfl | (simp only [List.length_drop, List.length_take]; rfl)) ?_; (with_reducible refine (spec_Decimal.calls k (IntKind.u64.wrap (wrap64 (Int.tdiv a0 8))) t158 _ A2.out).mono ?_); rintro e w' ⟨rfl, ⟨nd, rfl⟩⟩; refine ⟨_, rfl, ?_⟩) | ((with_reducible refine gate_callee (f := 11) rfl ?_); refine goesL_ (some 15) rfl rfl Tryz.func11 (by kernel_rfl) rfl #[.int .u64 (IntKind.u64.wrap (wrap64 (Int.tdiv (wrap64 ((Int.tmod a0 8) * 125)) 100)))] rfl (by (try simp only [List.map_toArray, List.map_cons, List.map_nil]); first | done | rfl | (simp only [List.length_drop, List.length_take]; rfl)) ?_; (with_reducible refine (spec_Decimal.calls k (IntKind.u64.wrap (wrap64 (Int.tdiv (wrap64 ((Int.tmod a0 8) * 125)) 100))) t159 _ A4.out).mono ?_); rintro e w' ⟨rfl, ⟨nd, rfl⟩⟩; refine ⟨_, rfl, ?_⟩) | ((with_reducible refine gate_callee (f := 11) rfl ?_); refine goesL_ (some 21) rfl rfl Tryz.func11 (by kernel_rfl) rfl #[.int .u64 (IntKind.u64.wrap (Int.tmod (wrap64 (Int.tdiv (wrap64 ((Int.tmod a0 8) * 125)) 10)) 10))] rfl (by (try simp only [List.map_toArray, List.map_cons, List.map_nil]); first | done | rfl | (simp only [List.length_drop, List.length_take]; rfl)) ?_; (with_reducible refine (spec_Decimal.calls k (IntKind.u64.wrap (Int.tmod (wrap64 (Int.tdiv (wrap64 ((Int.tmod a0 8) * 125)) 10)) 10)) t160 _ A6.out).mono ?_); rintro e w' ⟨rfl, ⟨nd, rfl⟩⟩; refine ⟨_, rfl, ?_⟩) | ((with_reducible refine gate_callee (f := 11) rfl ?_); refine goesL_ (some 26) rfl rfl Tryz.func11 (by kernel_rfl) rfl #[.int .u64 (IntKind.u64.wrap (Int.tmod (wrap64 ((Int.tmod a0 8) * 125)) 10))] rfl (by (try simp only [List.map_toArray, List.map_cons, List.map_nil]); first | done | rfl | (simp only [List.length_drop, List.length_take]; rfl)) ?_; (with_reducible refine (spec_Decimal.calls k (IntKind.u64.wrap (Int.tmod (wrap64 ((Int.tmod a0 8) * 125)) 10)) t161 _ A8.out).mono ?_); rintro e w' ⟨rfl, ⟨nd, rfl⟩⟩; refine ⟨_, rfl, ?_⟩))
          go_ret
          exact ⟨by first | rfl | (simp; done) | (simp [*]; done), by repeat (first | exact Drawn0.refl _ | apply Drawn0.step)⟩
        · rw [if_neg c9] at H
          exact absurd H (by simp)
      · rw [if_neg c7] at H
        exact absurd H (by simp)
    · rw [if_neg c5] at H
      exact absurd H (by simp)
  · rw [if_neg c3] at H
    exact absurd H (by simp)
end Go.Proofs.YtlghdacdpkaoeaaGreatDoor.PFnMasterLoose
