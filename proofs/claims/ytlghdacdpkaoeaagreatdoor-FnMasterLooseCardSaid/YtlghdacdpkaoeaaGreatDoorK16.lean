import Derived.Test.YtlghdacdpkaoeaaGreatDoorK11
import Derived.Test.YtlghdacdpkaoeaaGreatDoorK14
namespace Go.Proofs.YtlghdacdpkaoeaaGreatDoor.PFnMasterLoose
open Go.RowKit Go.Proofs.YtlghdacdpkaoeaaGreatDoorW.PrintWords Go.Proofs.YtlghdacdpkaoeaaGreatDoorW.PrintLast Go.Proofs.YtlghdacdpkaoeaaGreatDoorW.PrintMore
attribute [local go_sem] max2_int min2_int max_two min_two max_three min_three max_four min_four
set_option linter.unusedVariables false
set_option linter.unusedSimpArgs false
def spec_joined.l0 : Nat → ByteArray → List ByteArray → Int → Int → Option (ByteArray)
  | 0, _, _, _, _ => none
  | k + 1, x3, x6, x7, x8 => if x8 < x7 then (if 0 ≤ x8 then (if x8 < (x6.length : Int) then (if x8 > 0 then (if x3.size + 1 ≤ 9223372036854775807 then (if (x3 ++ (⟨#[44]⟩ : ByteArray)).size + (rdOf ByteArray.empty x6 x8).size ≤ 9223372036854775807 then (spec_joined.l0 k ((x3 ++ (⟨#[44]⟩ : ByteArray)) ++ (rdOf ByteArray.empty x6 x8)) x6 x7 (wrap64 (x8 + 1))) else (none)) else (none)) else (if x3.size + (rdOf ByteArray.empty x6 x8).size ≤ 9223372036854775807 then (spec_joined.l0 k (x3 ++ (rdOf ByteArray.empty x6 x8)) x6 x7 (wrap64 (x8 + 1))) else (none))) else (none)) else (none)) else (some x3)
def spec_joined.f (k : Nat) (l0 : List ByteArray) : Option (ByteArray) := spec_joined.l0 k (⟨#[]⟩ : ByteArray) l0 (l0.length : Int) 0
set_option maxHeartbeats 8000000 in
set_option maxRecDepth 100000 in
theorem spec_joined.calls (k : Nat) (A0 : Option Addr) (c0 : Nat) (l0 : List ByteArray) (r : ByteArray) (w : World) (hr0 : Kd.C Kd.string w A0 l0.length l0) (hc0 : l0.length ≤ c0) (h : spec_joined.f k l0 = some r) :
    Calls Tryz.prog 13 #[.slice A0 l0.length c0] w fun e w' => e = .returned (.string r) ∧ Drawn0 w w' := by
  have HR0 := Aside0.mk hr0
  have HC0 := Aside0.mk hc0
  clear hr0 hc0
  have H : (spec_joined.l0 k (⟨#[]⟩ : ByteArray) l0 (l0.length : Int) 0) = some r := h
  clear h
  have H' := Aside0.mk H
  clear H
  go_enter Tryz.func13, Tryz.ntmps13
  go_wp2
  go_loopg [3, 8] k (fun kq v3 v8 w' => ∃ (x3_1 : ByteArray) (x8_1 : Int), v3 = .string x3_1 ∧ v8 = .int .i64 x8_1 ∧ Aside0 (spec_joined.l0 kq x3_1 l0 (l0.length : Int) x8_1 = some r) ∧ Aside0 (kq ≤ k) ∧ Drawn0 w w')
  case atStart => exact ⟨((⟨#[]⟩ : ByteArray)), (0), (by first | rfl | (simp; done) | (simp [*]; done)), (by first | rfl | (simp; done) | (simp [*]; done)), H', ⟨Nat.le_refl _⟩, by repeat (first | exact Drawn0.refl _ | apply Drawn0.step)⟩
  case round =>
    clear H'
    obtain ⟨x3_1, x8_1, rfl, rfl, HA, HK1, ⟨m1, rfl⟩⟩ := hrel
    cases gk with
    | zero => exact absurd HA.out (by simp [spec_joined.l0])
    | succ k1 =>
      have H := HA.out
      clear HA
      simp only [spec_joined.l0] at H
      by_cases c2 : x8_1 < (l0.length : Int)
      · rw [if_pos c2] at H
        have c2b0 : decide (x8_1 < (l0.length : Int)) = true := decide_eq_true c2
        clear c2
        by_cases c3 : 0 ≤ x8_1
        · rw [if_pos c3] at H
          have c3b0 : decide (0 ≤ x8_1) = true := decide_eq_true c3
          clear c3
          by_cases c4 : x8_1 < (l0.length : Int)
          · rw [if_pos c4] at H
            have c4b0 : decide (x8_1 < (l0.length : Int)) = true := decide_eq_true c4
            clear c4
            by_cases c5 : x8_1 > 0
            · rw [if_pos c5] at H
              have c5b0 : decide (0 < x8_1) = true := decide_eq_true c5
              clear c5
              by_cases c6 : x3_1.size + 1 ≤ 9223372036854775807
              · rw [if_pos c6] at H
                have c6b0 := eq_true c6
                have c6b1 : decide (x3_1.size + 1 ≤ 9223372036854775807) = true := decide_eq_true c6
                try have c6b2 : (9223372036854775807 < x3_1.size + 1) = False := eq_false (Nat.not_lt.2 c6)
                try (have c6b3 := c6; simp only [ByteArray.size_append, lit_size, List.length_cons, List.length_nil, Nat.zero_add, Nat.reduceAdd] at c6b3)
                by_cases c7 : (x3_1 ++ (⟨#[44]⟩ : ByteArray)).size + (rdOf ByteArray.empty l0 x8_1).size ≤ 9223372036854775807
                · rw [if_pos c7] at H
                  have c7b0 := eq_true c7
                  have c7b1 : decide ((x3_1 ++ (⟨#[44]⟩ : ByteArray)).size + (rdOf ByteArray.empty l0 x8_1).size ≤ 9223372036854775807) = true := decide_eq_true c7
                  try have c7b2 : (9223372036854775807 < (x3_1 ++ (⟨#[44]⟩ : ByteArray)).size + (rdOf ByteArray.empty l0 x8_1).size) = False := eq_false (Nat.not_lt.2 c7)
                  try (have c7b3 := c7; simp only [ByteArray.size_append, lit_size, List.length_cons, List.length_nil, Nat.zero_add, Nat.reduceAdd] at c7b3)
                  have H' := Aside0.mk H
                  clear H
                  have p118 : 0 ≤ (x8_1 : Int) := of_decide_eq_true (by first | (with_reducible assumption) | assumption)
                  have q118 : x8_1 < (l0.length : Int) := of_decide_eq_true (by first | (with_reducible assumption) | assumption)
                  obtain ⟨ad118, e118, hx118_0⟩ := Kd.at_string HR0.out x8_1 p118 q118
                  cases e118
                  replace p118 := eq_true p118
                  replace q118 := eq_true q118
                  go_wp2
                  go_roundg k1
                  case measure => have := HK1.out; omega
                  case rel => exact ⟨((x3_1 ++ (⟨#[44]⟩ : ByteArray)) ++ (rdOf ByteArray.empty l0 x8_1)), (wrap64 (x8_1 + 1)), (by first | rfl | (simp; done) | (simp [*]; done)), (by first | rfl | (simp; done) | (simp [*]; done)), H', ⟨by have := HK1.out; omega⟩, by repeat (first | exact Drawn0.refl _ | apply Drawn0.step)⟩
                · rw [if_neg c7] at H
                  exact absurd H (by simp)
              · rw [if_neg c6] at H
                exact absurd H (by simp)
            · rw [if_neg c5] at H
              have c5b0 : decide (0 < x8_1) = false := decide_eq_false c5
              clear c5
              by_cases c8 : x3_1.size + (rdOf ByteArray.empty l0 x8_1).size ≤ 9223372036854775807
              · rw [if_pos c8] at H
                have c8b0 := eq_true c8
                have c8b1 : decide (x3_1.size + (rdOf ByteArray.empty l0 x8_1).size ≤ 9223372036854775807) = true := decide_eq_true c8
                try have c8b2 : (9223372036854775807 < x3_1.size + (rdOf ByteArray.empty l0 x8_1).size) = False := eq_false (Nat.not_lt.2 c8)
                try (have c8b3 := c8; simp only [ByteArray.size_append, lit_size, List.length_cons, List.length_nil, Nat.zero_add, Nat.reduceAdd] at c8b3)
                have H' := Aside0.mk H
                clear H
                have p118 : 0 ≤ (x8_1 : Int) := of_decide_eq_true (by first | (with_reducible assumption) | assumption)
                have q118 : x8_1 < (l0.length : Int) := of_decide_eq_true (by first | (with_reducible assumption) | assumption)
                obtain ⟨ad118, e118, hx118_0⟩ := Kd.at_string HR0.out x8_1 p118 q118
                cases e118
                replace p118 := eq_true p118
                replace q118 := eq_true q118
                go_wp2
                go_roundg k1
                case measure => have := HK1.out; omega
                case rel => exact ⟨(x3_1 ++ (rdOf ByteArray.empty l0 x8_1)), (wrap64 (x8_1 + 1)), (by first | rfl | (simp; done) | (simp [*]; done)), (by first | rfl | (simp; done) | (simp [*]; done)), H', ⟨by have := HK1.out; omega⟩, by repeat (first | exact Drawn0.refl _ | apply Drawn0.step)⟩
              · rw [if_neg c8] at H
                exact absurd H (by simp)
          · rw [if_neg c4] at H
            exact absurd H (by simp)
        · rw [if_neg c3] at H
          exact absurd H (by simp)
      · rw [if_neg c2] at H
        have c2b0 : decide (x8_1 < (l0.length : Int)) = false := decide_eq_false c2
        clear c2
        obtain rfl := Option.some.inj H
        go_wp2
        go_ret
        exact ⟨by first | rfl | (simp; done) | (simp [*]; done), by repeat (first | exact Drawn0.refl _ | apply Drawn0.step)⟩
def spec_Line.f (a0 : ByteArray) (a1 : ByteArray) (a2 : Bool) : Option (ByteArray) := if a2 = true then (if a0.size + 2 ≤ 9223372036854775807 then (if (a0 ++ (⟨#[61, 34]⟩ : ByteArray)).size + a1.size ≤ 9223372036854775807 then (if ((a0 ++ (⟨#[61, 34]⟩ : ByteArray)) ++ a1).size + 1 ≤ 9223372036854775807 then (some (((a0 ++ (⟨#[61, 34]⟩ : ByteArray)) ++ a1) ++ (⟨#[34]⟩ : ByteArray))) else (none)) else (none)) else (none)) else (if a0.size + 1 ≤ 9223372036854775807 then (if (a0 ++ (⟨#[61]⟩ : ByteArray)).size + a1.size ≤ 9223372036854775807 then (some ((a0 ++ (⟨#[61]⟩ : ByteArray)) ++ a1)) else (none)) else (none))
set_option maxHeartbeats 8000000 in
set_option maxRecDepth 100000 in
theorem spec_Line.calls (a0 : ByteArray) (a1 : ByteArray) (a2 : Bool) (r : ByteArray) (w : World) (h : spec_Line.f a0 a1 a2 = some r) :
    Calls Tryz.prog 24 #[.string a0, .string a1, .bool a2] w fun e w' => e = .returned (.string r) ∧ Drawn0 w w' := by
  have H : (if a2 = true then (if a0.size + 2 ≤ 9223372036854775807 then (if (a0 ++ (⟨#[61, 34]⟩ : ByteArray)).size + a1.size ≤ 9223372036854775807 then (if ((a0 ++ (⟨#[61, 34]⟩ : ByteArray)) ++ a1).size + 1 ≤ 9223372036854775807 then (some (((a0 ++ (⟨#[61, 34]⟩ : ByteArray)) ++ a1) ++ (⟨#[34]⟩ : ByteArray))) else (none)) else (none)) else (none)) else (if a0.size + 1 ≤ 9223372036854775807 then (if (a0 ++ (⟨#[61]⟩ : ByteArray)).size + a1.size ≤ 9223372036854775807 then (some ((a0 ++ (⟨#[61]⟩ : ByteArray)) ++ a1)) else (none)) else (none))) = some r := h
  clear h
  by_cases c4 : a2 = true
  · subst c4
    have H1 : (if a0.size + 2 ≤ 9223372036854775807 then (if (a0 ++ (⟨#[61, 34]⟩ : ByteArray)).size + a1.size ≤ 9223372036854775807 then (if ((a0 ++ (⟨#[61, 34]⟩ : ByteArray)) ++ a1).size + 1 ≤ 9223372036854775807 then (some (((a0 ++ (⟨#[61, 34]⟩ : ByteArray)) ++ a1) ++ (⟨#[34]⟩ : ByteArray))) else (none)) else (none)) else (none)) = some r := by rw [if_pos rfl] at H; exact H
    clear H
    have H := H1
    clear H1
    by_cases c5 : a0.size + 2 ≤ 9223372036854775807
    · rw [if_pos c5] at H
      have c5b0 := eq_true c5
      have c5b1 : decide (a0.size + 2 ≤ 9223372036854775807) = true := decide_eq_true c5
      try have c5b2 : (9223372036854775807 < a0.size + 2) = False := eq_false (Nat.not_lt.2 c5)
      try (have c5b3 := c5; simp only [ByteArray.size_append, lit_size, List.length_cons, List.length_nil, Nat.zero_add, Nat.reduceAdd] at c5b3)
      by_cases c6 : (a0 ++ (⟨#[61, 34]⟩ : ByteArray)).size + a1.size ≤ 9223372036854775807
      · rw [if_pos c6] at H
        have c6b0 := eq_true c6
        have c6b1 : decide ((a0 ++ (⟨#[61, 34]⟩ : ByteArray)).size + a1.size ≤ 9223372036854775807) = true := decide_eq_true c6
        try have c6b2 : (9223372036854775807 < (a0 ++ (⟨#[61, 34]⟩ : ByteArray)).size + a1.size) = False := eq_false (Nat.not_lt.2 c6)
        try (have c6b3 := c6; simp only [ByteArray.size_append, lit_size, List.length_cons, List.length_nil, Nat.zero_add, Nat.reduceAdd] at c6b3)
        by_cases c7 : ((a0 ++ (⟨#[61, 34]⟩ : ByteArray)) ++ a1).size + 1 ≤ 9223372036854775807
        · rw [if_pos c7] at H
          have c7b0 := eq_true c7
          have c7b1 : decide (((a0 ++ (⟨#[61, 34]⟩ : ByteArray)) ++ a1).size + 1 ≤ 9223372036854775807) = true := decide_eq_true c7
          try have c7b2 : (9223372036854775807 < ((a0 ++ (⟨#[61, 34]⟩ : ByteArray)) ++ a1).size + 1) = False := eq_false (Nat.not_lt.2 c7)
          try (have c7b3 := c7; simp only [ByteArray.size_append, lit_size, List.length_cons, List.length_nil, Nat.zero_add, Nat.reduceAdd] at c7b3)
          obtain rfl := Option.some.inj H
          go_enter Tryz.func24, Tryz.ntmps24
          go_wp2
          go_ret
          exact ⟨by first | rfl | (simp; done) | (simp [*]; done), by repeat (first | exact Drawn0.refl _ | apply Drawn0.step)⟩
        · rw [if_neg c7] at H
          exact absurd H (by simp)
      · rw [if_neg c6] at H
        exact absurd H (by simp)
    · rw [if_neg c5] at H
      exact absurd H (by simp)
  · replace c4 := Bool.eq_false_iff.mpr c4
    subst c4
    have H1 : (if a0.size + 1 ≤ 9223372036854775807 then (if (a0 ++ (⟨#[61]⟩ : ByteArray)).size + a1.size ≤ 9223372036854775807 then (some ((a0 ++ (⟨#[61]⟩ : ByteArray)) ++ a1)) else (none)) else (none)) = some r := by rw [if_neg (show ¬ (false = true) by decide)] at H; exact H
    clear H
    have H := H1
    clear H1
    by_cases c8 : a0.size + 1 ≤ 9223372036854775807
    · rw [if_pos c8] at H
      have c8b0 := eq_true c8
      have c8b1 : decide (a0.size + 1 ≤ 9223372036854775807) = true := decide_eq_true c8
      try have c8b2 : (9223372036854775807 < a0.size + 1) = False := eq_false (Nat.not_lt.2 c8)
      try (have c8b3 := c8; simp only [ByteArray.size_append, lit_size, List.length_cons, List.length_nil, Nat.zero_add, Nat.reduceAdd] at c8b3)
      by_cases c9 : (a0 ++ (⟨#[61]⟩ : ByteArray)).size + a1.size ≤ 9223372036854775807
      · rw [if_pos c9] at H
        have c9b0 := eq_true c9
        have c9b1 : decide ((a0 ++ (⟨#[61]⟩ : ByteArray)).size + a1.size ≤ 9223372036854775807) = true := decide_eq_true c9
        try have c9b2 : (9223372036854775807 < (a0 ++ (⟨#[61]⟩ : ByteArray)).size + a1.size) = False := eq_false (Nat.not_lt.2 c9)
        try (have c9b3 := c9; simp only [ByteArray.size_append, lit_size, List.length_cons, List.length_nil, Nat.zero_add, Nat.reduceAdd] at c9b3)
        obtain rfl := Option.some.inj H
        go_enter Tryz.func24, Tryz.ntmps24
        go_wp2
        go_ret
        exact ⟨by first | rfl | (simp; done) | (simp [*]; done), by repeat (first | exact Drawn0.refl _ | apply Drawn0.step)⟩
      · rw [if_neg c9] at H
        exact absurd H (by simp)
    · rw [if_neg c8] at H
      exact absurd H (by simp)
mutual
def spec_Alternative_attributes.j0 : Nat → List ByteArray → ByteArray → ByteArray → ByteArray → Bool → ByteArray → ByteArray → ByteArray → Option (List ByteArray)
  | 0, _, _, _, _, _, _, _, _ => none
  | k + 1, x3, x120000, x120001, x120002, x120003, x120004, x120005, x120006 => if x120004.toList = ([] : List UInt8) then (spec_Alternative_attributes.j1 k x3 x120000 x120001 x120002 x120003 x120004 x120005 x120006) else ((spec_Line.f (⟨#[65, 85, 84, 79, 83, 69, 76, 69, 67, 84]⟩ : ByteArray) x120004 false).bind fun t134 => (if x3.length < 8796093022208 then (spec_Alternative_attributes.j1 k (x3 ++ [t134]) x120000 x120001 x120002 x120003 x120004 x120005 x120006) else (none)))
def spec_Alternative_attributes.j1 : Nat → List ByteArray → ByteArray → ByteArray → ByteArray → Bool → ByteArray → ByteArray → ByteArray → Option (List ByteArray)
  | 0, _, _, _, _, _, _, _, _ => none
  | k + 1, x3, x120000, x120001, x120002, x120003, x120004, x120005, x120006 => if x120005.toList = ([] : List UInt8) then (if x120006.toList = ([] : List UInt8) then (some x3) else ((spec_Line.f (⟨#[85, 82, 73]⟩ : ByteArray) x120006 true).bind fun t138 => (if x3.length < 8796093022208 then (some (x3 ++ [t138])) else (none)))) else ((spec_Line.f (⟨#[76, 65, 78, 71, 85, 65, 71, 69]⟩ : ByteArray) x120005 true).bind fun t142 => (if x3.length < 8796093022208 then ((some (x3 ++ [t142] : List ByteArray)).bind fun y143 => (if x120006.toList = ([] : List UInt8) then (some y143) else ((spec_Line.f (⟨#[85, 82, 73]⟩ : ByteArray) x120006 true).bind fun t146 => (if y143.length < 8796093022208 then (some (y143 ++ [t146])) else (none))))) else (none)))
end
def spec_Alternative_attributes.f (k : Nat) (a0_0 : ByteArray) (a0_1 : ByteArray) (a0_2 : ByteArray) (a0_3 : Bool) (a0_4 : ByteArray) (a0_5 : ByteArray) (a0_6 : ByteArray) : Option (List ByteArray) := (spec_Line.f (⟨#[84, 89, 80, 69]⟩ : ByteArray) a0_0 false).bind fun t120 => ((spec_Line.f (⟨#[71, 82, 79, 85, 80, 45, 73, 68]⟩ : ByteArray) a0_1 true).bind fun t121 => ((spec_Line.f (⟨#[78, 65, 77, 69]⟩ : ByteArray) a0_2 true).bind fun t122 => ((some (([t120, t121, t122] : List ByteArray) : List ByteArray)).bind fun y123 => (if a0_3 = true then ((spec_Line.f (⟨#[68, 69, 70, 65, 85, 76, 84]⟩ : ByteArray) (⟨#[89, 69, 83]⟩ : ByteArray) false).bind fun t126 => (if y123.length < 8796093022208 then (spec_Alternative_attributes.j0 k (y123 ++ [t126]) a0_0 a0_1 a0_2 a0_3 a0_4 a0_5 a0_6) else (none))) else ((spec_Line.f (⟨#[68, 69, 70, 65, 85, 76, 84]⟩ : ByteArray) (⟨#[78, 79]⟩ : ByteArray) false).bind fun t130 => (if y123.length < 8796093022208 then (spec_Alternative_attributes.j0 k (y123 ++ [t130]) a0_0 a0_1 a0_2 a0_3 a0_4 a0_5 a0_6) else (none)))))))
def spec_Alternative_attributes.T1 : Bool × List (List Nat × List Nat) := (true, [([], []), ([0], [0]), ([1], [1]), ([], []), ([3], [3]), ([4, 2], [4]), ([], []), ([6], [6]), ([7, 5], [7]), ([2, 5, 8], [2, 5, 8]), ([9, 8, 0, 1, 2, 3, 4, 5, 6, 7, 8, 9], [9])])
def spec_Alternative_attributes.B1 : List Nat := [0, 1, 3, 0, 8, 31, 0, 64, 255, 511, 1023]
theorem spec_Alternative_attributes.tab1 : rtab .any (opsOf Tryz.f14 1) = spec_Alternative_attributes.T1 := by kernel_rfl
theorem spec_Alternative_attributes.bits1 : waitsOk spec_Alternative_attributes.T1.2 spec_Alternative_attributes.B1 = true := by kernel_rfl
set_option maxHeartbeats 8000000 in
set_option maxRecDepth 100000 in
theorem spec_Alternative_attributes.calls (k : Nat) (a0_0 : ByteArray) (a0_1 : ByteArray) (a0_2 : ByteArray) (a0_3 : Bool) (a0_4 : ByteArray) (a0_5 : ByteArray) (a0_6 : ByteArray) (r : List ByteArray) (w : World) (h : spec_Alternative_attributes.f k a0_0 a0_1 a0_2 a0_3 a0_4 a0_5 a0_6 = some r) :
    Calls Tryz.prog 14 #[.agg #[.string a0_0, .string a0_1, .string a0_2, .bool a0_3, .string a0_4, .string a0_5, .string a0_6]] w fun e w' => ∃ v0_ : Value, e = .returned (v0_) ∧ Kd.R Kd.string 9 w' w.heap.size (fun _ => True) v0_ r ∧ Below w.heap.size w w' := by
  have hu55 := Tryz.underlying55
  have HB := Aside0.mk (Below.refl w.heap.size w)
  have H : ((spec_Line.f (⟨#[84, 89, 80, 69]⟩ : ByteArray) a0_0 false).bind fun t120 => ((spec_Line.f (⟨#[71, 82, 79, 85, 80, 45, 73, 68]⟩ : ByteArray) a0_1 true).bind fun t121 => ((spec_Line.f (⟨#[78, 65, 77, 69]⟩ : ByteArray) a0_2 true).bind fun t122 => ((some (([t120, t121, t122] : List ByteArray) : List ByteArray)).bind fun y123 => (if a0_3 = true then ((spec_Line.f (⟨#[68, 69, 70, 65, 85, 76, 84]⟩ : ByteArray) (⟨#[89, 69, 83]⟩ : ByteArray) false).bind fun t126 => (if y123.length < 8796093022208 then (spec_Alternative_attributes.j0 k (y123 ++ [t126]) a0_0 a0_1 a0_2 a0_3 a0_4 a0_5 a0_6) else (none))) else ((spec_Line.f (⟨#[68, 69, 70, 65, 85, 76, 84]⟩ : ByteArray) (⟨#[78, 79]⟩ : ByteArray) false).bind fun t130 => (if y123.length < 8796093022208 then (spec_Alternative_attributes.j0 k (y123 ++ [t130]) a0_0 a0_1 a0_2 a0_3 a0_4 a0_5 a0_6) else (none)))))))) = some r := h
  clear h
  replace H := Option.bind_eq_some_iff.mp H
  obtain ⟨t120, A20, H⟩ := H
  replace H : ((spec_Line.f (⟨#[71, 82, 79, 85, 80, 45, 73, 68]⟩ : ByteArray) a0_1 true).bind fun t121 => ((spec_Line.f (⟨#[78, 65, 77, 69]⟩ : ByteArray) a0_2 true).bind fun t122 => ((some (([t120, t121, t122] : List ByteArray) : List ByteArray)).bind fun y123 => (if a0_3 = true then ((spec_Line.f (⟨#[68, 69, 70, 65, 85, 76, 84]⟩ : ByteArray) (⟨#[89, 69, 83]⟩ : ByteArray) false).bind fun t126 => (if y123.length < 8796093022208 then (spec_Alternative_attributes.j0 k (y123 ++ [t126]) a0_0 a0_1 a0_2 a0_3 a0_4 a0_5 a0_6) else (none))) else ((spec_Line.f (⟨#[68, 69, 70, 65, 85, 76, 84]⟩ : ByteArray) (⟨#[78, 79]⟩ : ByteArray) false).bind fun t130 => (if y123.length < 8796093022208 then (spec_Alternative_attributes.j0 k (y123 ++ [t130]) a0_0 a0_1 a0_2 a0_3 a0_4 a0_5 a0_6) else (none))))))) = some r := H
  have A2 := Aside0.mk A20
  clear A20
  replace H := Option.bind_eq_some_iff.mp H
  obtain ⟨t121, A30, H⟩ := H
  replace H : ((spec_Line.f (⟨#[78, 65, 77, 69]⟩ : ByteArray) a0_2 true).bind fun t122 => ((some (([t120, t121, t122] : List ByteArray) : List ByteArray)).bind fun y123 => (if a0_3 = true then ((spec_Line.f (⟨#[68, 69, 70, 65, 85, 76, 84]⟩ : ByteArray) (⟨#[89, 69, 83]⟩ : ByteArray) false).bind fun t126 => (if y123.length < 8796093022208 then (spec_Alternative_attributes.j0 k (y123 ++ [t126]) a0_0 a0_1 a0_2 a0_3 a0_4 a0_5 a0_6) else (none))) else ((spec_Line.f (⟨#[68, 69, 70, 65, 85, 76, 84]⟩ : ByteArray) (⟨#[78, 79]⟩ : ByteArray) false).bind fun t130 => (if y123.length < 8796093022208 then (spec_Alternative_attributes.j0 k (y123 ++ [t130]) a0_0 a0_1 a0_2 a0_3 a0_4 a0_5 a0_6) else (none)))))) = some r := H
  have A3 := Aside0.mk A30
  clear A30
  replace H := Option.bind_eq_some_iff.mp H
  obtain ⟨t122, A40, H⟩ := H
  replace H : ((some (([t120, t121, t122] : List ByteArray) : List ByteArray)).bind fun y123 => (if a0_3 = true then ((spec_Line.f (⟨#[68, 69, 70, 65, 85, 76, 84]⟩ : ByteArray) (⟨#[89, 69, 83]⟩ : ByteArray) false).bind fun t126 => (if y123.length < 8796093022208 then (spec_Alternative_attributes.j0 k (y123 ++ [t126]) a0_0 a0_1 a0_2 a0_3 a0_4 a0_5 a0_6) else (none))) else ((spec_Line.f (⟨#[68, 69, 70, 65, 85, 76, 84]⟩ : ByteArray) (⟨#[78, 79]⟩ : ByteArray) false).bind fun t130 => (if y123.length < 8796093022208 then (spec_Alternative_attributes.j0 k (y123 ++ [t130]) a0_0 a0_1 a0_2 a0_3 a0_4 a0_5 a0_6) else (none))))) = some r := H
  have A4 := Aside0.mk A40
  clear A40
  obtain ⟨y123, hy123⟩ : ∃ y_ : List ByteArray, y_ = (([t120, t121, t122] : List ByteArray)) := ⟨_, rfl⟩
  replace H : (if a0_3 = true then ((spec_Line.f (⟨#[68, 69, 70, 65, 85, 76, 84]⟩ : ByteArray) (⟨#[89, 69, 83]⟩ : ByteArray) false).bind fun t126 => (if y123.length < 8796093022208 then (spec_Alternative_attributes.j0 k (y123 ++ [t126]) a0_0 a0_1 a0_2 a0_3 a0_4 a0_5 a0_6) else (none))) else ((spec_Line.f (⟨#[68, 69, 70, 65, 85, 76, 84]⟩ : ByteArray) (⟨#[78, 79]⟩ : ByteArray) false).bind fun t130 => (if y123.length < 8796093022208 then (spec_Alternative_attributes.j0 k (y123 ++ [t130]) a0_0 a0_1 a0_2 a0_3 a0_4 a0_5 a0_6) else (none)))) = some r := by first | (rw [hy123]; with_reducible exact H) | (have H2_ := (Option.bind_some _ _).symm.trans H; rw [hy123]; with_reducible exact H2_) | (have H2_ := (Option.bind_some _ _).symm.trans H; with_reducible exact H2_) | with_reducible exact H | (rw [hy123]; exact H) | exact H
  have Ny123 := Aside0.mk hy123
  clear hy123
  have HC5 := Aside0.mk H
  clear H
  go_enter Tryz.func14, Tryz.ntmps14
  try go_wp2_with (first | ((with_reducible refine gate_dst (N := 1) rfl ?_); refine box_event ?hg (N := 1) ?hd (cs := #[.string a0_0, .string a0_1, .string a0_2, .bool a0_3, .string a0_4, .string a0_5, .string a0_6]) (t := 55) ?hr ?_; (case hd => rfl); (case hg => rfl); (case hr => first | (go_simp; done) | (go_simp; rfl)); intro gb119 hg w6 hbox hb; have n0_ := Aside0.mk (below_step (by repeat (first | (with_reducible first | exact HB.out | apply below_alloc | apply pw_below_drewN | apply below_drew1) | exact HB.out)) hb); have n1_ := Aside0.mk (hbox); have n2_ := Aside0.mk ((by rw [hg]; exact (below_size (by repeat (first | (with_reducible first | exact HB.out | apply below_alloc | apply pw_below_drewN | apply below_drew1) | exact HB.out))) : w.heap.size ≤ gb119)); have n3_ := Aside0.mk ((by rw [hg]; exact (below_size (by repeat (first | (with_reducible first | exact HB.out | apply below_alloc | apply pw_below_drewN | apply below_drew1) | exact HB.out))) : w.heap.size ≤ gb119)); clear HB; have HB := n0_; have BK119 := n1_; have GW119 := n2_; have GE119 := n3_; clear n0_ n1_ n2_ n3_; clear hb hbox hg))
  have n0_ := Aside0.mk (blk_drew BK119.out)
  have n1_ := Aside0.mk (below_drew1 HB.out)
  clear BK119
  clear HB
  have BK119 := n0_
  have HB := n1_
  clear n0_ n1_
  refine start_ (n := 11) (S := fun w' => w'.cell? ⟨gb119, 0, none⟩ = some (.string a0_0) ∧ w'.cell? ⟨gb119, 1, none⟩ = some (.string a0_1) ∧ w'.cell? ⟨gb119, 2, none⟩ = some (.string a0_2) ∧ w'.cell? ⟨gb119, 3, none⟩ = some (.bool a0_3) ∧ w'.cell? ⟨gb119, 4, none⟩ = some (.string a0_4) ∧ w'.cell? ⟨gb119, 5, none⟩ = some (.string a0_5) ∧ w'.cell? ⟨gb119, 6, none⟩ = some (.string a0_6)) (ds := []) #[false, false, false, false, false, false, false, false, false, false, false] (by kernel_rfl) rfl rfl ⟨(blk_cell BK119.out 0).trans rfl, (blk_cell BK119.out 1).trans rfl, (blk_cell BK119.out 2).trans rfl, (blk_cell BK119.out 3).trans rfl, (blk_cell BK119.out 4).trans rfl, (blk_cell BK119.out 5).trans rfl, (blk_cell BK119.out 6).trans rfl⟩ (fun hHeld => ?_); refine with_tabW spec_Alternative_attributes.tab1 spec_Alternative_attributes.bits1 (fun HT_ HW_ => ?_)
  generalize w6.drew = w7 at BK119 HB hHeld ⊢
  refine pure_ (i := 0) (N := some 4) (v := ?_) (a' := ?_) #[true, false, false, false, false, false, false, false, false, false, false] rfl rfl (any_of HT_.out (by kernel_rfl)) (fun _ _ _ h => h) (Or.inl ⟨by rfl, ?_⟩) ?_ ?_
  rotate_left
  · intro w'
    go_simp
    with_reducible rfl
  rotate_left
  · simp only [Act.put, List.setIfInBounds_toArray, List.set_cons_zero, List.set_cons_succ, i64_w, i32_w]
    rfl
  refine pure_ (i := 3) (N := some 7) (v := ?_) (a' := ?_) #[true, false, false, true, false, false, false, false, false, false, false] rfl rfl (any_of HT_.out (by kernel_rfl)) (fun _ _ _ h => h) (Or.inl ⟨by rfl, ?_⟩) ?_ ?_
  rotate_left
  · intro w'
    go_simp
    with_reducible rfl
  rotate_left
  · simp only [Act.put, List.setIfInBounds_toArray, List.set_cons_zero, List.set_cons_succ, i64_w, i32_w]
    rfl
  refine pure_ (i := 6) (N := some 10) (v := ?_) (a' := ?_) #[true, false, false, true, false, false, true, false, false, false, false] rfl rfl (any_of HT_.out (by kernel_rfl)) (fun _ _ _ h => h) (Or.inl ⟨by rfl, ?_⟩) ?_ ?_
  rotate_left
  · intro w'
    go_simp
    with_reducible rfl
  rotate_left
  · simp only [Act.put, List.setIfInBounds_toArray, List.set_cons_zero, List.set_cons_succ, i64_w, i32_w]
    rfl
  refine take_ (i := 1) (N := some 5) (v := ?_) (a' := ?_) #[true, true, false, true, false, false, true, false, false, false, false] rfl rfl (take_ofW HT_.out HW_.out (by kernel_rfl)) (fun _ _ _ h => h) (Or.inl ⟨by rfl, ?_⟩) hHeld ?_ ?_
  rotate_left
  · rintro w' ⟨s0, s1, s2, s3, s4, s5, s6⟩
    go_simp
    with_reducible rfl
  rotate_left
  · simp only [Act.put, List.setIfInBounds_toArray, List.set_cons_zero, List.set_cons_succ, i64_w, i32_w]
    rfl
  refine take_ (i := 4) (N := some 8) (v := ?_) (a' := ?_) #[true, true, false, true, true, false, true, false, false, false, false] rfl rfl (take_ofW HT_.out HW_.out (by kernel_rfl)) (fun _ _ _ h => h) (Or.inl ⟨by rfl, ?_⟩) hHeld ?_ ?_
  rotate_left
  · rintro w' ⟨s0, s1, s2, s3, s4, s5, s6⟩
    go_simp
    with_reducible rfl
  rotate_left
  · simp only [Act.put, List.setIfInBounds_toArray, List.set_cons_zero, List.set_cons_succ, i64_w, i32_w]
    rfl
  refine take_ (i := 7) (N := some 11) (v := ?_) (a' := ?_) #[true, true, false, true, true, false, true, true, false, false, false] rfl rfl (take_ofW HT_.out HW_.out (by kernel_rfl)) (fun _ _ _ h => h) (Or.inl ⟨by rfl, ?_⟩) hHeld ?_ ?_
  rotate_left
  · rintro w' ⟨s0, s1, s2, s3, s4, s5, s6⟩
    go_simp
    with_reducible rfl
  rotate_left
  · simp only [Act.put, List.setIfInBounds_toArray, List.set_cons_zero, List.set_cons_succ, i64_w, i32_w]
    rfl
  refine one_ (i := 2) (N := some 6) #[true, true, true, true, true, false, true, true, false, false, false] rfl rfl (one_of HT_.out (by kernel_rfl)) (by decide) (fun K hK => ?_)
  refine goes_ Tryz.func24 (by kernel_rfl) rfl #[.string (⟨#[84, 89, 80, 69]⟩ : ByteArray), .string a0_0, .bool false] (by rfl) rfl rfl (by (try simp only [List.map_toArray, List.map_cons, List.map_nil]); first | done | rfl | (simp only [List.length_drop, List.length_take]; rfl)) ?_
  with_reducible refine (spec_Line.calls (⟨#[84, 89, 80, 69]⟩ : ByteArray) a0_0 false t120 _ A2.out).mono ?_
  rintro e w' ⟨rfl, ⟨nd, rfl⟩⟩
  refine ⟨_, rfl, ?_⟩
  refine hK.out _ _ ⟨(blk_cell BK119.out 0).trans rfl, (blk_cell BK119.out 1).trans rfl, (blk_cell BK119.out 2).trans rfl, (blk_cell BK119.out 3).trans rfl, (blk_cell BK119.out 4).trans rfl, (blk_cell BK119.out 5).trans rfl, (blk_cell BK119.out 6).trans rfl⟩ (fun hHeld => ?_)
  clear hK K
  refine norm_ (a' := ?_) ?_ ?_
  rotate_left
  · show Act.put _ (some 6) _ = _
    simp only [Act.put, List.setIfInBounds_toArray, List.set_cons_zero, List.set_cons_succ, i64_w, i32_w]
    rfl
  refine one_ (i := 5) (N := some 9) #[true, true, true, true, true, true, true, true, false, false, false] rfl rfl (one_of HT_.out (by kernel_rfl)) (by decide) (fun K hK => ?_)
  refine goes_ Tryz.func24 (by kernel_rfl) rfl #[.string (⟨#[71, 82, 79, 85, 80, 45, 73, 68]⟩ : ByteArray), .string a0_1, .bool true] (by rfl) rfl rfl (by (try simp only [List.map_toArray, List.map_cons, List.map_nil]); first | done | rfl | (simp only [List.length_drop, List.length_take]; rfl)) ?_
  with_reducible refine (spec_Line.calls (⟨#[71, 82, 79, 85, 80, 45, 73, 68]⟩ : ByteArray) a0_1 true t121 _ A3.out).mono ?_
  rintro e w' ⟨rfl, ⟨nd, rfl⟩⟩
  refine ⟨_, rfl, ?_⟩
  refine hK.out _ _ ⟨(blk_cell BK119.out 0).trans rfl, (blk_cell BK119.out 1).trans rfl, (blk_cell BK119.out 2).trans rfl, (blk_cell BK119.out 3).trans rfl, (blk_cell BK119.out 4).trans rfl, (blk_cell BK119.out 5).trans rfl, (blk_cell BK119.out 6).trans rfl⟩ (fun hHeld => ?_)
  clear hK K
  refine norm_ (a' := ?_) ?_ ?_
  rotate_left
  · show Act.put _ (some 9) _ = _
    simp only [Act.put, List.setIfInBounds_toArray, List.set_cons_zero, List.set_cons_succ, i64_w, i32_w]
    rfl
  refine one_ (i := 8) (N := some 12) #[true, true, true, true, true, true, true, true, true, false, false] rfl rfl (one_of HT_.out (by kernel_rfl)) (by decide) (fun K hK => ?_)
  refine goes_ Tryz.func24 (by kernel_rfl) rfl #[.string (⟨#[78, 65, 77, 69]⟩ : ByteArray), .string a0_2, .bool true] (by rfl) rfl rfl (by (try simp only [List.map_toArray, List.map_cons, List.map_nil]); first | done | rfl | (simp only [List.length_drop, List.length_take]; rfl)) ?_
  with_reducible refine (spec_Line.calls (⟨#[78, 65, 77, 69]⟩ : ByteArray) a0_2 true t122 _ A4.out).mono ?_
  rintro e w' ⟨rfl, ⟨nd, rfl⟩⟩
  refine ⟨_, rfl, ?_⟩
  refine hK.out _ _ ⟨(blk_cell BK119.out 0).trans rfl, (blk_cell BK119.out 1).trans rfl, (blk_cell BK119.out 2).trans rfl, (blk_cell BK119.out 3).trans rfl, (blk_cell BK119.out 4).trans rfl, (blk_cell BK119.out 5).trans rfl, (blk_cell BK119.out 6).trans rfl⟩ (fun hHeld => ?_)
  clear hK K
  refine norm_ (a' := ?_) ?_ ?_
  rotate_left
  · show Act.put _ (some 12) _ = _
    simp only [Act.put, List.setIfInBounds_toArray, List.set_cons_zero, List.set_cons_succ, i64_w, i32_w]
    rfl
  refine one_ (i := 9) (N := some 13) #[true, true, true, true, true, true, true, true, true, true, false] rfl rfl (one_of HT_.out (by kernel_rfl)) (by decide) (fun K hK => ?_)
  refine Kd.R_lit_step Kd.string _ 9 ?hg (N := 13) ?hd (xs := ([t120, t121, t122] : List ByteArray)) (inner := [.string t120, .string t121, .string t122]) (ok := fun _ => True) (okp := fun _ => True) ?hr ?hp (fun _ hk => hk) trivial (Below.refl _ _) (Nat.le_refl _) (by simp) ?_; (case hd => rfl); (case hg => rfl); (case hr => first | (go_simp; done) | (go_simp; rfl)); (case hp => exact (Reps.one (show Kd.M Kd.string _ _ _ t120 [.string t120] from rfl) (Reps.one (show Kd.M Kd.string _ _ _ t121 [.string t121] from rfl) (Reps.one (show Kd.M Kd.string _ _ _ t122 [.string t122] from rfl) (Reps.none _ _)))))
  intro v124 w8 ho9 hb hg_ hnew_
  clear hg_ hnew_
  (first | rw [← Ny123.out] at ho9 | (simp only [Int.reduceToNat] at ho9; rw [← Ny123.out] at ho9))
  have n0_ := Aside0.mk (Kd.R_lower ho9 (below_size (by repeat (first | (with_reducible first | exact HB.out | apply below_alloc | apply pw_below_drewN | apply below_drew1 | refine below_set ?_ GE119.out) | exact HB.out))))
  have n1_ := Aside0.mk (blk_below (g := gb119) (o := .cells #[.string a0_0, .string a0_1, .string a0_2, .bool a0_3, .string a0_4, .string a0_5, .string a0_6] 55 (0, 0)) (by (with_reducible repeat (first | refine blk_drewN ?_ _ | refine blk_drew ?_ | refine blk_alloc ?_ _)); exact BK119.out) hb)
  have n2_ := Aside0.mk (below_step (by repeat (first | (with_reducible first | exact HB.out | apply below_alloc | apply pw_below_drewN | apply below_drew1 | refine below_set ?_ GE119.out) | exact HB.out)) hb)
  clear BK119
  clear HB
  have HO125 := n0_
  have BK119 := n1_
  have HB := n2_
  clear n0_ n1_ n2_
  clear hb ho9
  refine hK.out _ _ ⟨(blk_cell BK119.out 0).trans rfl, (blk_cell BK119.out 1).trans rfl, (blk_cell BK119.out 2).trans rfl, (blk_cell BK119.out 3).trans rfl, (blk_cell BK119.out 4).trans rfl, (blk_cell BK119.out 5).trans rfl, (blk_cell BK119.out 6).trans rfl⟩ (fun hHeld => ?_)
  clear hK K
  refine norm_ (a' := ?_) ?_ ?_
  rotate_left
  · show Act.put _ (some 13) _ = _
    simp only [Act.put, List.setIfInBounds_toArray, List.set_cons_zero, List.set_cons_succ, i64_w, i32_w]
    rfl
  refine pure_ (i := 10) (N := some 3) (v := ?_) (a' := ?_) #[true, true, true, true, true, true, true, true, true, true, true] rfl rfl (any_of HT_.out (by kernel_rfl)) (fun _ _ _ h => h) (Or.inl ⟨by rfl, ?_⟩) ?_ ?_
  rotate_left
  · intro w'
    go_simp
    with_reducible rfl
  rotate_left
  · simp only [Act.put, List.setIfInBounds_toArray, List.set_cons_zero, List.set_cons_succ, i64_w, i32_w]
    rfl
  refine done_ (done_of HT_.out (by kernel_rfl)) ?_
  have hcz10_0 : w8.cell? ⟨gb119, 0, none⟩ = some (.string a0_0) := (blk_cell BK119.out 0).trans rfl
  have hcz10_1 : w8.cell? ⟨gb119, 1, none⟩ = some (.string a0_1) := (blk_cell BK119.out 1).trans rfl
  have hcz10_2 : w8.cell? ⟨gb119, 2, none⟩ = some (.string a0_2) := (blk_cell BK119.out 2).trans rfl
  have hcz10_3 : w8.cell? ⟨gb119, 3, none⟩ = some (.bool a0_3) := (blk_cell BK119.out 3).trans rfl
  have hcz10_4 : w8.cell? ⟨gb119, 4, none⟩ = some (.string a0_4) := (blk_cell BK119.out 4).trans rfl
  have hcz10_5 : w8.cell? ⟨gb119, 5, none⟩ = some (.string a0_5) := (blk_cell BK119.out 5).trans rfl
  have hcz10_6 : w8.cell? ⟨gb119, 6, none⟩ = some (.string a0_6) := (blk_cell BK119.out 6).trans rfl
  have hfz10_0 := blk_frozen BK119.out 0
  have hfz10_1 := blk_frozen BK119.out 1
  have hfz10_2 := blk_frozen BK119.out 2
  have hfz10_3 := blk_frozen BK119.out 3
  have hfz10_4 := blk_frozen BK119.out 4
  have hfz10_5 := blk_frozen BK119.out 5
  have hfz10_6 := blk_frozen BK119.out 6
  go_upto_if 15 with (fail)
  go_cut [3] (fun v3 wc => ∃ (kq : Nat) (x3_4 : List ByteArray), Aside0 (spec_Alternative_attributes.j0 kq x3_4 a0_0 a0_1 a0_2 a0_3 a0_4 a0_5 a0_6 = some r) ∧ Aside0 (kq ≤ k) ∧ Aside0 (Kd.R Kd.string 9 wc w.heap.size (fun _ => True) v3 x3_4) ∧ Aside0 (wc.heap[gb119]? = some (.cells #[.string a0_0, .string a0_1, .string a0_2, .bool a0_3, .string a0_4, .string a0_5, .string a0_6] 55 (0, 0))) ∧ Aside0 (Below w.heap.size w wc))
  case first =>
    have H := HC5.out
    clear HC5
    by_cases c11 : a0_3 = true
    · subst c11
      have H1 : ((spec_Line.f (⟨#[68, 69, 70, 65, 85, 76, 84]⟩ : ByteArray) (⟨#[89, 69, 83]⟩ : ByteArray) false).bind fun t126 => (if y123.length < 8796093022208 then (spec_Alternative_attributes.j0 k (y123 ++ [t126]) a0_0 a0_1 a0_2 true a0_4 a0_5 a0_6) else (none))) = some r := by rw [if_pos rfl] at H; exact H
      clear H
      have H := H1
      clear H1
      replace H := Option.bind_eq_some_iff.mp H
      obtain ⟨t126, A120, H⟩ := H
      replace H : (if y123.length < 8796093022208 then (spec_Alternative_attributes.j0 k (y123 ++ [t126]) a0_0 a0_1 a0_2 true a0_4 a0_5 a0_6) else (none)) = some r := H
      have A12 := Aside0.mk A120
      clear A120
      by_cases c13 : y123.length < 8796093022208
      · rw [if_pos c13] at H
        have LMc13 := Aside0.mk c13
        clear c13
        obtain ⟨y127, hy127⟩ : ∃ y_ : List ByteArray, y_ = (y123 ++ [t126]) := ⟨_, rfl⟩
        replace H : (spec_Alternative_attributes.j0 k y127 a0_0 a0_1 a0_2 true a0_4 a0_5 a0_6) = some r := by first | (rw [hy127]; with_reducible exact H) | (have H2_ := (Option.bind_some _ _).symm.trans H; rw [hy127]; with_reducible exact H2_) | (have H2_ := (Option.bind_some _ _).symm.trans H; with_reducible exact H2_) | with_reducible exact H | (rw [hy127]; exact H) | exact H
        have Ny127 := Aside0.mk hy127
        clear hy127
        have H' := Aside0.mk H
        clear H
        go_wp2_with (first | ((with_reducible refine gate_callee (f := 24) rfl ?_); refine goesL_ (some 17) rfl rfl Tryz.func24 (by kernel_rfl) rfl #[.string (⟨#[68, 69, 70, 65, 85, 76, 84]⟩ : ByteArray), .string (⟨#[89, 69, 83]⟩ : ByteArray), .bool false] rfl (by (try simp only [List.map_toArray, List.map_cons, List.map_nil]); first | done | rfl | (simp only [List.length_drop, List.length_take]; rfl)) ?_; (with_reducible refine (spec_Line.calls (⟨#[68, 69, 70, 65, 85, 76, 84]⟩ : ByteArray) (⟨#[89, 69, 83]⟩ : ByteArray) false t126 _ A12.out).mono ?_); rintro e w' ⟨rfl, ⟨nd, rfl⟩⟩; refine ⟨_, rfl, ?_⟩) | ((with_reducible refine gate_builtin (b := .append) (xs := #[.tmp 16, .tmp 18]) rfl ?_); at_builtin; refine Kd.R_append Kd.string (w0 := w) w.heap.size rfl (.tmp 16) (.tmp 18) 50 9 (.string ⟨#[]⟩) 16 rfl Tryz.underlying50 info9 rfl (by decide) (by omega) v124 y123 t126 [.string t126] (fun _ => True) (fun _ => False) rfl rfl ?aP (fun _ hk => hk.elim) ?aF ?aO ?aB ?aS ?aL ?_; (case aP => exact rfl); (case aB => exact (by repeat (first | (with_reducible first | exact HB.out | apply below_alloc | apply pw_below_drewN | apply below_drew1 | refine below_set ?_ GE119.out) | exact HB.out))); (case aF => exact (fun _ _ => trivial)); (case aO => exact (by (with_reducible repeat (first | apply Kd.R_alloc | apply Kd.R_drewN | apply Kd.R_drew)); exact HO125.out)); (case aS => exact (below_size (by repeat (first | (with_reducible first | exact HB.out | apply below_alloc | apply pw_below_drewN | apply below_drew1 | refine below_set ?_ GE119.out) | exact HB.out)))); (case aL => have := LMc13.out; omega); intro v128 w14 ho hb hg hat; rw [← Ny127.out] at ho; have n0_ := Aside0.mk (blk_grown (g := gb119) (o := .cells #[.string a0_0, .string a0_1, .string a0_2, .bool true, .string a0_4, .string a0_5, .string a0_6] 55 (0, 0)) (by (with_reducible repeat (first | refine blk_drewN ?_ _ | refine blk_drew ?_ | refine blk_alloc ?_ _)); exact BK119.out) hg (Kd.R_ne HO125.out BK119.out (by decide))); have n1_ := Aside0.mk (hb); have n2_ := Aside0.mk (ho); clear BK119; clear HB; clear HO125; have BK119 := n0_; have HB := n1_; have HO129 := n2_; clear n0_ n1_ n2_; clear ho hb hg hat))
        go_meet
        case rel => exact ⟨_, (y127), H', ⟨by first | omega | exact Nat.le_refl _⟩, ⟨by (with_reducible repeat (first | apply Kd.R_alloc | apply Kd.R_drewN | apply Kd.R_drew)); exact HO129.out⟩, ⟨by (with_reducible repeat (first | refine blk_drewN ?_ _ | refine blk_drew ?_ | refine blk_alloc ?_ _)); exact BK119.out⟩, ⟨by repeat (first | (with_reducible first | exact HB.out | apply below_alloc | apply pw_below_drewN | apply below_drew1 | refine below_set ?_ GE119.out) | exact HB.out)⟩⟩
      · rw [if_neg c13] at H
        exact absurd H (by simp)
    · replace c11 := Bool.eq_false_iff.mpr c11
      subst c11
      have H1 : ((spec_Line.f (⟨#[68, 69, 70, 65, 85, 76, 84]⟩ : ByteArray) (⟨#[78, 79]⟩ : ByteArray) false).bind fun t130 => (if y123.length < 8796093022208 then (spec_Alternative_attributes.j0 k (y123 ++ [t130]) a0_0 a0_1 a0_2 false a0_4 a0_5 a0_6) else (none))) = some r := by rw [if_neg (show ¬ (false = true) by decide)] at H; exact H
      clear H
      have H := H1
      clear H1
      replace H := Option.bind_eq_some_iff.mp H
      obtain ⟨t130, A150, H⟩ := H
      replace H : (if y123.length < 8796093022208 then (spec_Alternative_attributes.j0 k (y123 ++ [t130]) a0_0 a0_1 a0_2 false a0_4 a0_5 a0_6) else (none)) = some r := H
      have A15 := Aside0.mk A150
      clear A150
      by_cases c16 : y123.length < 8796093022208
      · rw [if_pos c16] at H
        have LMc16 := Aside0.mk c16
        clear c16
        obtain ⟨y131, hy131⟩ : ∃ y_ : List ByteArray, y_ = (y123 ++ [t130]) := ⟨_, rfl⟩
        replace H : (spec_Alternative_attributes.j0 k y131 a0_0 a0_1 a0_2 false a0_4 a0_5 a0_6) = some r := by first | (rw [hy131]; with_reducible exact H) | (have H2_ := (Option.bind_some _ _).symm.trans H; rw [hy131]; with_reducible exact H2_) | (have H2_ := (Option.bind_some _ _).symm.trans H; with_reducible exact H2_) | with_reducible exact H | (rw [hy131]; exact H) | exact H
        have Ny131 := Aside0.mk hy131
        clear hy131
        have H' := Aside0.mk H
        clear H
        go_wp2_with (first | ((with_reducible refine gate_callee (f := 24) rfl ?_); refine goesL_ (some 21) rfl rfl Tryz.func24 (by kernel_rfl) rfl #[.string (⟨#[68, 69, 70, 65, 85, 76, 84]⟩ : ByteArray), .string (⟨#[78, 79]⟩ : ByteArray), .bool false] rfl (by (try simp only [List.map_toArray, List.map_cons, List.map_nil]); first | done | rfl | (simp only [List.length_drop, List.length_take]; rfl)) ?_; (with_reducible refine (spec_Line.calls (⟨#[68, 69, 70, 65, 85, 76, 84]⟩ : ByteArray) (⟨#[78, 79]⟩ : ByteArray) false t130 _ A15.out).mono ?_); rintro e w' ⟨rfl, ⟨nd, rfl⟩⟩; refine ⟨_, rfl, ?_⟩) | ((with_reducible refine gate_builtin (b := .append) (xs := #[.tmp 20, .tmp 22]) rfl ?_); at_builtin; refine Kd.R_append Kd.string (w0 := w) w.heap.size rfl (.tmp 20) (.tmp 22) 50 9 (.string ⟨#[]⟩) 16 rfl Tryz.underlying50 info9 rfl (by decide) (by omega) v124 y123 t130 [.string t130] (fun _ => True) (fun _ => False) rfl rfl ?aP (fun _ hk => hk.elim) ?aF ?aO ?aB ?aS ?aL ?_; (case aP => exact rfl); (case aB => exact (by repeat (first | (with_reducible first | exact HB.out | apply below_alloc | apply pw_below_drewN | apply below_drew1 | refine below_set ?_ GE119.out) | exact HB.out))); (case aF => exact (fun _ _ => trivial)); (case aO => exact (by (with_reducible repeat (first | apply Kd.R_alloc | apply Kd.R_drewN | apply Kd.R_drew)); exact HO125.out)); (case aS => exact (below_size (by repeat (first | (with_reducible first | exact HB.out | apply below_alloc | apply pw_below_drewN | apply below_drew1 | refine below_set ?_ GE119.out) | exact HB.out)))); (case aL => have := LMc16.out; omega); intro v132 w17 ho hb hg hat; rw [← Ny131.out] at ho; have n0_ := Aside0.mk (blk_grown (g := gb119) (o := .cells #[.string a0_0, .string a0_1, .string a0_2, .bool false, .string a0_4, .string a0_5, .string a0_6] 55 (0, 0)) (by (with_reducible repeat (first | refine blk_drewN ?_ _ | refine blk_drew ?_ | refine blk_alloc ?_ _)); exact BK119.out) hg (Kd.R_ne HO125.out BK119.out (by decide))); have n1_ := Aside0.mk (hb); have n2_ := Aside0.mk (ho); clear BK119; clear HB; clear HO125; have BK119 := n0_; have HB := n1_; have HO133 := n2_; clear n0_ n1_ n2_; clear ho hb hg hat))
        go_meet
        case rel => exact ⟨_, (y131), H', ⟨by first | omega | exact Nat.le_refl _⟩, ⟨by (with_reducible repeat (first | apply Kd.R_alloc | apply Kd.R_drewN | apply Kd.R_drew)); exact HO133.out⟩, ⟨by (with_reducible repeat (first | refine blk_drewN ?_ _ | refine blk_drew ?_ | refine blk_alloc ?_ _)); exact BK119.out⟩, ⟨by repeat (first | (with_reducible first | exact HB.out | apply below_alloc | apply pw_below_drewN | apply below_drew1 | refine below_set ?_ GE119.out) | exact HB.out)⟩⟩
      · rw [if_neg c16] at H
        exact absurd H (by simp)
  case rest =>
    clear HC5
    clear hcz10_0 hcz10_1 hcz10_2 hcz10_3 hcz10_4 hcz10_5 hcz10_6 hfz10_0 hfz10_1 hfz10_2 hfz10_3 hfz10_4 hfz10_5 hfz10_6
    obtain ⟨kq, x3_4, HA, HJ4, HO_3, BK119, HB⟩ := hcut
    cases kq with
    | zero => exact absurd HA.out (by simp [spec_Alternative_attributes.j0])
    | succ kj4 =>
      have H := HA.out
      clear HA
      simp only [spec_Alternative_attributes.j0] at H
      have HC18 := Aside0.mk H
      clear H
      have hcz19_0 : wc.cell? ⟨gb119, 0, none⟩ = some (.string a0_0) := (blk_cell BK119.out 0).trans rfl
      have hcz19_1 : wc.cell? ⟨gb119, 1, none⟩ = some (.string a0_1) := (blk_cell BK119.out 1).trans rfl
      have hcz19_2 : wc.cell? ⟨gb119, 2, none⟩ = some (.string a0_2) := (blk_cell BK119.out 2).trans rfl
      have hcz19_3 : wc.cell? ⟨gb119, 3, none⟩ = some (.bool a0_3) := (blk_cell BK119.out 3).trans rfl
      have hcz19_4 : wc.cell? ⟨gb119, 4, none⟩ = some (.string a0_4) := (blk_cell BK119.out 4).trans rfl
      have hcz19_5 : wc.cell? ⟨gb119, 5, none⟩ = some (.string a0_5) := (blk_cell BK119.out 5).trans rfl
      have hcz19_6 : wc.cell? ⟨gb119, 6, none⟩ = some (.string a0_6) := (blk_cell BK119.out 6).trans rfl
      have hfz19_0 := blk_frozen BK119.out 0
      have hfz19_1 := blk_frozen BK119.out 1
      have hfz19_2 := blk_frozen BK119.out 2
      have hfz19_3 := blk_frozen BK119.out 3
      have hfz19_4 := blk_frozen BK119.out 4
      have hfz19_5 := blk_frozen BK119.out 5
      have hfz19_6 := blk_frozen BK119.out 6
      go_upto_if 26 with (fail)
      go_cut [3] (fun v3 wc => ∃ (kq : Nat) (x3_17 : List ByteArray), Aside0 (spec_Alternative_attributes.j1 kq x3_17 a0_0 a0_1 a0_2 a0_3 a0_4 a0_5 a0_6 = some r) ∧ Aside0 (kq ≤ kj4) ∧ Aside0 (Kd.R Kd.string 9 wc w.heap.size (fun _ => True) v3 x3_17) ∧ Aside0 (wc.heap[gb119]? = some (.cells #[.string a0_0, .string a0_1, .string a0_2, .bool a0_3, .string a0_4, .string a0_5, .string a0_6] 55 (0, 0))) ∧ Aside0 (Below w.heap.size w wc))
      case first =>
        have H := HC18.out
        clear HC18
        by_cases c20 : a0_4.toList = ([] : List UInt8)
        · rw [if_pos c20] at H
          have c20b0 : (a0_4.toList == ([] : List UInt8)) = true := beq_iff_eq.mpr c20
          have c20b1 : (a0_4.toList != ([] : List UInt8)) = false := bne_eq_false_iff_eq.mpr c20
          (try (have c20b2 : a0_4.toList.isEmpty = true := by simpa using c20))
          (try (have c20b3 : (!a0_4.toList.isEmpty) = false := by simpa using c20))
          clear c20
          (first | rw [c20b0] | rw [c20b3] | rw [c20b2] | (simp only [i64_w, i32_w]; rw [c20b0]) | skip)
          have H' := Aside0.mk H
          clear H
          go_wp2
          go_meet
          case rel => exact ⟨_, (x3_4), H', ⟨by have := HJ4.out; first | omega | exact Nat.le_refl _⟩, ⟨by (with_reducible repeat (first | apply Kd.R_alloc | apply Kd.R_drewN | apply Kd.R_drew)); exact HO_3.out⟩, ⟨by (with_reducible repeat (first | refine blk_drewN ?_ _ | refine blk_drew ?_ | refine blk_alloc ?_ _)); exact BK119.out⟩, ⟨by repeat (first | (with_reducible first | exact HB.out | apply below_alloc | apply pw_below_drewN | apply below_drew1 | refine below_set ?_ GE119.out) | exact HB.out)⟩⟩
        · rw [if_neg c20] at H
          have c20b0 : (a0_4.toList == ([] : List UInt8)) = false := beq_eq_false_iff_ne.mpr c20
          have c20b1 : (a0_4.toList != ([] : List UInt8)) = true := bne_iff_ne.mpr c20
          (try (have c20b2 : a0_4.toList.isEmpty = false := by simpa using c20))
          (try (have c20b3 : (!a0_4.toList.isEmpty) = true := by simpa using c20))
          (first | rw [c20b0] | rw [c20b3] | rw [c20b2] | (simp only [i64_w, i32_w]; rw [c20b0]) | skip)
          replace H := Option.bind_eq_some_iff.mp H
          obtain ⟨t134, A210, H⟩ := H
          replace H : (if x3_4.length < 8796093022208 then (spec_Alternative_attributes.j1 kj4 (x3_4 ++ [t134]) a0_0 a0_1 a0_2 a0_3 a0_4 a0_5 a0_6) else (none)) = some r := H
          have A21 := Aside0.mk A210
          clear A210
          by_cases c22 : x3_4.length < 8796093022208
          · rw [if_pos c22] at H
            have LMc22 := Aside0.mk c22
            clear c22
            obtain ⟨y135, hy135⟩ : ∃ y_ : List ByteArray, y_ = (x3_4 ++ [t134]) := ⟨_, rfl⟩
            replace H : (spec_Alternative_attributes.j1 kj4 y135 a0_0 a0_1 a0_2 a0_3 a0_4 a0_5 a0_6) = some r := by first | (rw [hy135]; with_reducible exact H) | (have H2_ := (Option.bind_some _ _).symm.trans H; rw [hy135]; with_reducible exact H2_) | (have H2_ := (Option.bind_some _ _).symm.trans H; with_reducible exact H2_) | with_reducible exact H | (rw [hy135]; exact H) | exact H
            have Ny135 := Aside0.mk hy135
            clear hy135
            have H' := Aside0.mk H
            clear H
            have hcz23_0 : wc.cell? ⟨gb119, 0, none⟩ = some (.string a0_0) := (blk_cell BK119.out 0).trans rfl
            have hcz23_1 : wc.cell? ⟨gb119, 1, none⟩ = some (.string a0_1) := (blk_cell BK119.out 1).trans rfl
            have hcz23_2 : wc.cell? ⟨gb119, 2, none⟩ = some (.string a0_2) := (blk_cell BK119.out 2).trans rfl
            have hcz23_3 : wc.cell? ⟨gb119, 3, none⟩ = some (.bool a0_3) := (blk_cell BK119.out 3).trans rfl
            have hcz23_4 : wc.cell? ⟨gb119, 4, none⟩ = some (.string a0_4) := (blk_cell BK119.out 4).trans rfl
            have hcz23_5 : wc.cell? ⟨gb119, 5, none⟩ = some (.string a0_5) := (blk_cell BK119.out 5).trans rfl
            have hcz23_6 : wc.cell? ⟨gb119, 6, none⟩ = some (.string a0_6) := (blk_cell BK119.out 6).trans rfl
            have hfz23_0 := blk_frozen BK119.out 0
            have hfz23_1 := blk_frozen BK119.out 1
            have hfz23_2 := blk_frozen BK119.out 2
            have hfz23_3 := blk_frozen BK119.out 3
            have hfz23_4 := blk_frozen BK119.out 4
            have hfz23_5 := blk_frozen BK119.out 5
            have hfz23_6 := blk_frozen BK119.out 6
            go_wp2_with (first | ((with_reducible refine gate_callee (f := 24) rfl ?_); refine goesL_ (some 30) rfl rfl Tryz.func24 (by kernel_rfl) rfl #[.string (⟨#[65, 85, 84, 79, 83, 69, 76, 69, 67, 84]⟩ : ByteArray), .string a0_4, .bool false] rfl (by (try simp only [List.map_toArray, List.map_cons, List.map_nil]); first | done | rfl | (simp only [List.length_drop, List.length_take]; rfl)) ?_; (with_reducible refine (spec_Line.calls (⟨#[65, 85, 84, 79, 83, 69, 76, 69, 67, 84]⟩ : ByteArray) a0_4 false t134 _ A21.out).mono ?_); rintro e w' ⟨rfl, ⟨nd, rfl⟩⟩; refine ⟨_, rfl, ?_⟩) | ((with_reducible refine gate_builtin (b := .append) (xs := #[.tmp 27, .tmp 31]) rfl ?_); at_builtin; refine Kd.R_append Kd.string (w0 := w) w.heap.size rfl (.tmp 27) (.tmp 31) 50 9 (.string ⟨#[]⟩) 16 rfl Tryz.underlying50 info9 rfl (by decide) (by omega) u3 x3_4 t134 [.string t134] (fun _ => True) (fun _ => False) rfl rfl ?aP (fun _ hk => hk.elim) ?aF ?aO ?aB ?aS ?aL ?_; (case aP => exact rfl); (case aB => exact (by repeat (first | (with_reducible first | exact HB.out | apply below_alloc | apply pw_below_drewN | apply below_drew1 | refine below_set ?_ GE119.out) | exact HB.out))); (case aF => exact (fun _ _ => trivial)); (case aO => exact (by (with_reducible repeat (first | apply Kd.R_alloc | apply Kd.R_drewN | apply Kd.R_drew)); exact HO_3.out)); (case aS => exact (below_size (by repeat (first | (with_reducible first | exact HB.out | apply below_alloc | apply pw_below_drewN | apply below_drew1 | refine below_set ?_ GE119.out) | exact HB.out)))); (case aL => have := LMc22.out; omega); intro v136 w24 ho hb hg hat; rw [← Ny135.out] at ho; have n0_ := Aside0.mk (blk_grown (g := gb119) (o := .cells #[.string a0_0, .string a0_1, .string a0_2, .bool a0_3, .string a0_4, .string a0_5, .string a0_6] 55 (0, 0)) (by (with_reducible repeat (first | refine blk_drewN ?_ _ | refine blk_drew ?_ | refine blk_alloc ?_ _)); exact BK119.out) hg (Kd.R_ne HO_3.out BK119.out (by decide))); have n1_ := Aside0.mk (hb); have n2_ := Aside0.mk (ho); clear BK119; clear HB; clear HO_3; have BK119 := n0_; have HB := n1_; have HO137 := n2_; clear n0_ n1_ n2_; clear ho hb hg hat))
            go_meet
            case rel => exact ⟨_, (y135), H', ⟨by have := HJ4.out; first | omega | exact Nat.le_refl _⟩, ⟨by (with_reducible repeat (first | apply Kd.R_alloc | apply Kd.R_drewN | apply Kd.R_drew)); exact HO137.out⟩, ⟨by (with_reducible repeat (first | refine blk_drewN ?_ _ | refine blk_drew ?_ | refine blk_alloc ?_ _)); exact BK119.out⟩, ⟨by repeat (first | (with_reducible first | exact HB.out | apply below_alloc | apply pw_below_drewN | apply below_drew1 | refine below_set ?_ GE119.out) | exact HB.out)⟩⟩
          · rw [if_neg c22] at H
            exact absurd H (by simp)
      case rest =>
        clear HC18
        clear hcz19_0 hcz19_1 hcz19_2 hcz19_3 hcz19_4 hcz19_5 hcz19_6 hfz19_0 hfz19_1 hfz19_2 hfz19_3 hfz19_4 hfz19_5 hfz19_6
        obtain ⟨kq, x3_17, HA, HJ17, HO_3, BK119, HB⟩ := hcut
        cases kq with
        | zero => exact absurd HA.out (by simp [spec_Alternative_attributes.j1])
        | succ kj17 =>
          have H := HA.out
          clear HA
          simp only [spec_Alternative_attributes.j1] at H
          by_cases c25 : a0_5.toList = ([] : List UInt8)
          · rw [if_pos c25] at H
            have c25b0 : (a0_5.toList == ([] : List UInt8)) = true := beq_iff_eq.mpr c25
            have c25b1 : (a0_5.toList != ([] : List UInt8)) = false := bne_eq_false_iff_eq.mpr c25
            (try (have c25b2 : a0_5.toList.isEmpty = true := by simpa using c25))
            (try (have c25b3 : (!a0_5.toList.isEmpty) = false := by simpa using c25))
            clear c25
            by_cases c26 : a0_6.toList = ([] : List UInt8)
            · rw [if_pos c26] at H
              have c26b0 : (a0_6.toList == ([] : List UInt8)) = true := beq_iff_eq.mpr c26
              have c26b1 : (a0_6.toList != ([] : List UInt8)) = false := bne_eq_false_iff_eq.mpr c26
              (try (have c26b2 : a0_6.toList.isEmpty = true := by simpa using c26))
              (try (have c26b3 : (!a0_6.toList.isEmpty) = false := by simpa using c26))
              clear c26
              obtain rfl := Option.some.inj H
              have hcz27_0 : wc.cell? ⟨gb119, 0, none⟩ = some (.string a0_0) := (blk_cell BK119.out 0).trans rfl
              have hcz27_1 : wc.cell? ⟨gb119, 1, none⟩ = some (.string a0_1) := (blk_cell BK119.out 1).trans rfl
              have hcz27_2 : wc.cell? ⟨gb119, 2, none⟩ = some (.string a0_2) := (blk_cell BK119.out 2).trans rfl
              have hcz27_3 : wc.cell? ⟨gb119, 3, none⟩ = some (.bool a0_3) := (blk_cell BK119.out 3).trans rfl
              have hcz27_4 : wc.cell? ⟨gb119, 4, none⟩ = some (.string a0_4) := (blk_cell BK119.out 4).trans rfl
              have hcz27_5 : wc.cell? ⟨gb119, 5, none⟩ = some (.string a0_5) := (blk_cell BK119.out 5).trans rfl
              have hcz27_6 : wc.cell? ⟨gb119, 6, none⟩ = some (.string a0_6) := (blk_cell BK119.out 6).trans rfl
              have hfz27_0 := blk_frozen BK119.out 0
              have hfz27_1 := blk_frozen BK119.out 1
              have hfz27_2 := blk_frozen BK119.out 2
              have hfz27_3 := blk_frozen BK119.out 3
              have hfz27_4 := blk_frozen BK119.out 4
              have hfz27_5 := blk_frozen BK119.out 5
              have hfz27_6 := blk_frozen BK119.out 6
              go_wp2
              go_ret
              exact ⟨_, by first | rfl | (simp [errW_none, errW_some] <;> rfl) | (simp [*, errW_none, errW_some] <;> rfl), by (with_reducible repeat (first | apply Kd.R_alloc | apply Kd.R_drewN | apply Kd.R_drew)); exact HO_3.out, by repeat (first | (with_reducible first | exact HB.out | apply below_alloc | apply pw_below_drewN | apply below_drew1 | refine below_set ?_ GE119.out) | exact HB.out)⟩
            · rw [if_neg c26] at H
              have c26b0 : (a0_6.toList == ([] : List UInt8)) = false := beq_eq_false_iff_ne.mpr c26
              have c26b1 : (a0_6.toList != ([] : List UInt8)) = true := bne_iff_ne.mpr c26
              (try (have c26b2 : a0_6.toList.isEmpty = false := by simpa using c26))
              (try (have c26b3 : (!a0_6.toList.isEmpty) = true := by simpa using c26))
              replace H := Option.bind_eq_some_iff.mp H
              obtain ⟨t138, A280, H⟩ := H
              replace H : (if x3_17.length < 8796093022208 then (some (x3_17 ++ [t138])) else (none)) = some r := H
              have A28 := Aside0.mk A280
              clear A280
              by_cases c29 : x3_17.length < 8796093022208
              · rw [if_pos c29] at H
                have LMc29 := Aside0.mk c29
                clear c29
                obtain ⟨y139, hy139⟩ : ∃ y_ : List ByteArray, y_ = (x3_17 ++ [t138]) := ⟨_, rfl⟩
                replace H : (some y139) = some r := by first | (rw [hy139]; with_reducible exact H) | (have H2_ := (Option.bind_some _ _).symm.trans H; rw [hy139]; with_reducible exact H2_) | (have H2_ := (Option.bind_some _ _).symm.trans H; with_reducible exact H2_) | with_reducible exact H | (rw [hy139]; exact H) | exact H
                have Ny139 := Aside0.mk hy139
                clear hy139
                obtain rfl := Option.some.inj H
                have hcz30_0 : wc.cell? ⟨gb119, 0, none⟩ = some (.string a0_0) := (blk_cell BK119.out 0).trans rfl
                have hcz30_1 : wc.cell? ⟨gb119, 1, none⟩ = some (.string a0_1) := (blk_cell BK119.out 1).trans rfl
                have hcz30_2 : wc.cell? ⟨gb119, 2, none⟩ = some (.string a0_2) := (blk_cell BK119.out 2).trans rfl
                have hcz30_3 : wc.cell? ⟨gb119, 3, none⟩ = some (.bool a0_3) := (blk_cell BK119.out 3).trans rfl
                have hcz30_4 : wc.cell? ⟨gb119, 4, none⟩ = some (.string a0_4) := (blk_cell BK119.out 4).trans rfl
                have hcz30_5 : wc.cell? ⟨gb119, 5, none⟩ = some (.string a0_5) := (blk_cell BK119.out 5).trans rfl
                have hcz30_6 : wc.cell? ⟨gb119, 6, none⟩ = some (.string a0_6) := (blk_cell BK119.out 6).trans rfl
                have hfz30_0 := blk_frozen BK119.out 0
                have hfz30_1 := blk_frozen BK119.out 1
                have hfz30_2 := blk_frozen BK119.out 2
                have hfz30_3 := blk_frozen BK119.out 3
                have hfz30_4 := blk_frozen BK119.out 4
                have hfz30_5 := blk_frozen BK119.out 5
                have hfz30_6 := blk_frozen BK119.out 6
                go_wp2_with (first | ((with_reducible refine gate_callee (f := 24) rfl ?_); refine goesL_ (some 48) rfl rfl Tryz.func24 (by kernel_rfl) rfl #[.string (⟨#[85, 82, 73]⟩ : ByteArray), .string a0_6, .bool true] rfl (by (try simp only [List.map_toArray, List.map_cons, List.map_nil]); first | done | rfl | (simp only [List.length_drop, List.length_take]; rfl)) ?_; (with_reducible refine (spec_Line.calls (⟨#[85, 82, 73]⟩ : ByteArray) a0_6 true t138 _ A28.out).mono ?_); rintro e w' ⟨rfl, ⟨nd, rfl⟩⟩; refine ⟨_, rfl, ?_⟩) | ((with_reducible refine gate_builtin (b := .append) (xs := #[.tmp 45, .tmp 49]) rfl ?_); at_builtin; refine Kd.R_append Kd.string (w0 := w) w.heap.size rfl (.tmp 45) (.tmp 49) 50 9 (.string ⟨#[]⟩) 16 rfl Tryz.underlying50 info9 rfl (by decide) (by omega) u3 x3_17 t138 [.string t138] (fun _ => True) (fun _ => False) rfl rfl ?aP (fun _ hk => hk.elim) ?aF ?aO ?aB ?aS ?aL ?_; (case aP => exact rfl); (case aB => exact (by repeat (first | (with_reducible first | exact HB.out | apply below_alloc | apply pw_below_drewN | apply below_drew1 | refine below_set ?_ GE119.out) | exact HB.out))); (case aF => exact (fun _ _ => trivial)); (case aO => exact (by (with_reducible repeat (first | apply Kd.R_alloc | apply Kd.R_drewN | apply Kd.R_drew)); exact HO_3.out)); (case aS => exact (below_size (by repeat (first | (with_reducible first | exact HB.out | apply below_alloc | apply pw_below_drewN | apply below_drew1 | refine below_set ?_ GE119.out) | exact HB.out)))); (case aL => have := LMc29.out; omega); intro v140 w31 ho hb hg hat; rw [← Ny139.out] at ho; have n0_ := Aside0.mk (blk_grown (g := gb119) (o := .cells #[.string a0_0, .string a0_1, .string a0_2, .bool a0_3, .string a0_4, .string a0_5, .string a0_6] 55 (0, 0)) (by (with_reducible repeat (first | refine blk_drewN ?_ _ | refine blk_drew ?_ | refine blk_alloc ?_ _)); exact BK119.out) hg (Kd.R_ne HO_3.out BK119.out (by decide))); have n1_ := Aside0.mk (hb); have n2_ := Aside0.mk (ho); clear BK119; clear HB; clear HO_3; have BK119 := n0_; have HB := n1_; have HO141 := n2_; clear n0_ n1_ n2_; clear ho hb hg hat))
                go_ret
                exact ⟨_, by first | rfl | (simp [errW_none, errW_some] <;> rfl) | (simp [*, errW_none, errW_some] <;> rfl), by (with_reducible repeat (first | apply Kd.R_alloc | apply Kd.R_drewN | apply Kd.R_drew)); exact HO141.out, by repeat (first | (with_reducible first | exact HB.out | apply below_alloc | apply pw_below_drewN | apply below_drew1 | refine below_set ?_ GE119.out) | exact HB.out)⟩
              · rw [if_neg c29] at H
                exact absurd H (by simp)
          · rw [if_neg c25] at H
            have c25b0 : (a0_5.toList == ([] : List UInt8)) = false := beq_eq_false_iff_ne.mpr c25
            have c25b1 : (a0_5.toList != ([] : List UInt8)) = true := bne_iff_ne.mpr c25
            (try (have c25b2 : a0_5.toList.isEmpty = false := by simpa using c25))
            (try (have c25b3 : (!a0_5.toList.isEmpty) = true := by simpa using c25))
            replace H := Option.bind_eq_some_iff.mp H
            obtain ⟨t142, A320, H⟩ := H
            replace H : (if x3_17.length < 8796093022208 then ((some (x3_17 ++ [t142] : List ByteArray)).bind fun y143 => (if a0_6.toList = ([] : List UInt8) then (some y143) else ((spec_Line.f (⟨#[85, 82, 73]⟩ : ByteArray) a0_6 true).bind fun t146 => (if y143.length < 8796093022208 then (some (y143 ++ [t146])) else (none))))) else (none)) = some r := H
            have A32 := Aside0.mk A320
            clear A320
            by_cases c33 : x3_17.length < 8796093022208
            · rw [if_pos c33] at H
              have LMc33 := Aside0.mk c33
              clear c33
              obtain ⟨y143, hy143⟩ : ∃ y_ : List ByteArray, y_ = (x3_17 ++ [t142]) := ⟨_, rfl⟩
              replace H : (if a0_6.toList = ([] : List UInt8) then (some y143) else ((spec_Line.f (⟨#[85, 82, 73]⟩ : ByteArray) a0_6 true).bind fun t146 => (if y143.length < 8796093022208 then (some (y143 ++ [t146])) else (none)))) = some r := by first | (rw [hy143]; with_reducible exact H) | (have H2_ := (Option.bind_some _ _).symm.trans H; rw [hy143]; with_reducible exact H2_) | (have H2_ := (Option.bind_some _ _).symm.trans H; with_reducible exact H2_) | with_reducible exact H | (rw [hy143]; exact H) | exact H
              have Ny143 := Aside0.mk hy143
              clear hy143
              by_cases c34 : a0_6.toList = ([] : List UInt8)
              · rw [if_pos c34] at H
                have c34b0 : (a0_6.toList == ([] : List UInt8)) = true := beq_iff_eq.mpr c34
                have c34b1 : (a0_6.toList != ([] : List UInt8)) = false := bne_eq_false_iff_eq.mpr c34
                (try (have c34b2 : a0_6.toList.isEmpty = true := by simpa using c34))
                (try (have c34b3 : (!a0_6.toList.isEmpty) = false := by simpa using c34))
                clear c34
                obtain rfl := Option.some.inj H
                have hcz35_0 : wc.cell? ⟨gb119, 0, none⟩ = some (.string a0_0) := (blk_cell BK119.out 0).trans rfl
                have hcz35_1 : wc.cell? ⟨gb119, 1, none⟩ = some (.string a0_1) := (blk_cell BK119.out 1).trans rfl
                have hcz35_2 : wc.cell? ⟨gb119, 2, none⟩ = some (.string a0_2) := (blk_cell BK119.out 2).trans rfl
                have hcz35_3 : wc.cell? ⟨gb119, 3, none⟩ = some (.bool a0_3) := (blk_cell BK119.out 3).trans rfl
                have hcz35_4 : wc.cell? ⟨gb119, 4, none⟩ = some (.string a0_4) := (blk_cell BK119.out 4).trans rfl
                have hcz35_5 : wc.cell? ⟨gb119, 5, none⟩ = some (.string a0_5) := (blk_cell BK119.out 5).trans rfl
                have hcz35_6 : wc.cell? ⟨gb119, 6, none⟩ = some (.string a0_6) := (blk_cell BK119.out 6).trans rfl
                have hfz35_0 := blk_frozen BK119.out 0
                have hfz35_1 := blk_frozen BK119.out 1
                have hfz35_2 := blk_frozen BK119.out 2
                have hfz35_3 := blk_frozen BK119.out 3
                have hfz35_4 := blk_frozen BK119.out 4
                have hfz35_5 := blk_frozen BK119.out 5
                have hfz35_6 := blk_frozen BK119.out 6
                go_wp2_with (first | ((with_reducible refine gate_callee (f := 24) rfl ?_); refine goesL_ (some 39) rfl rfl Tryz.func24 (by kernel_rfl) rfl #[.string (⟨#[76, 65, 78, 71, 85, 65, 71, 69]⟩ : ByteArray), .string a0_5, .bool true] rfl (by (try simp only [List.map_toArray, List.map_cons, List.map_nil]); first | done | rfl | (simp only [List.length_drop, List.length_take]; rfl)) ?_; (with_reducible refine (spec_Line.calls (⟨#[76, 65, 78, 71, 85, 65, 71, 69]⟩ : ByteArray) a0_5 true t142 _ A32.out).mono ?_); rintro e w' ⟨rfl, ⟨nd, rfl⟩⟩; refine ⟨_, rfl, ?_⟩) | ((with_reducible refine gate_builtin (b := .append) (xs := #[.tmp 36, .tmp 40]) rfl ?_); at_builtin; refine Kd.R_append Kd.string (w0 := w) w.heap.size rfl (.tmp 36) (.tmp 40) 50 9 (.string ⟨#[]⟩) 16 rfl Tryz.underlying50 info9 rfl (by decide) (by omega) u3 x3_17 t142 [.string t142] (fun _ => True) (fun _ => False) rfl rfl ?aP (fun _ hk => hk.elim) ?aF ?aO ?aB ?aS ?aL ?_; (case aP => exact rfl); (case aB => exact (by repeat (first | (with_reducible first | exact HB.out | apply below_alloc | apply pw_below_drewN | apply below_drew1 | refine below_set ?_ GE119.out) | exact HB.out))); (case aF => exact (fun _ _ => trivial)); (case aO => exact (by (with_reducible repeat (first | apply Kd.R_alloc | apply Kd.R_drewN | apply Kd.R_drew)); exact HO_3.out)); (case aS => exact (below_size (by repeat (first | (with_reducible first | exact HB.out | apply below_alloc | apply pw_below_drewN | apply below_drew1 | refine below_set ?_ GE119.out) | exact HB.out)))); (case aL => have := LMc33.out; omega); intro v144 w36 ho hb hg hat; rw [← Ny143.out] at ho; have n0_ := Aside0.mk (blk_grown (g := gb119) (o := .cells #[.string a0_0, .string a0_1, .string a0_2, .bool a0_3, .string a0_4, .string a0_5, .string a0_6] 55 (0, 0)) (by (with_reducible repeat (first | refine blk_drewN ?_ _ | refine blk_drew ?_ | refine blk_alloc ?_ _)); exact BK119.out) hg (Kd.R_ne HO_3.out BK119.out (by decide))); have n1_ := Aside0.mk (hb); have n2_ := Aside0.mk (ho); clear BK119; clear HB; clear HO_3; have BK119 := n0_; have HB := n1_; have HO145 := n2_; clear n0_ n1_ n2_; clear ho hb hg hat; have hcz37_0 : w36.cell? ⟨gb119, 0, none⟩ = some (.string a0_0) := (blk_cell BK119.out 0).trans rfl; have hcz37_1 : w36.cell? ⟨gb119, 1, none⟩ = some (.string a0_1) := (blk_cell BK119.out 1).trans rfl; have hcz37_2 : w36.cell? ⟨gb119, 2, none⟩ = some (.string a0_2) := (blk_cell BK119.out 2).trans rfl; have hcz37_3 : w36.cell? ⟨gb119, 3, none⟩ = some (.bool a0_3) := (blk_cell BK119.out 3).trans rfl; have hcz37_4 : w36.cell? ⟨gb119, 4, none⟩ = some (.string a0_4) := (blk_cell BK119.out 4).trans rfl; have hcz37_5 : w36.cell? ⟨gb119, 5, none⟩ = some (.string a0_5) := (blk_cell BK119.out 5).trans rfl; have hcz37_6 : w36.cell? ⟨gb119, 6, none⟩ = some (.string a0_6) := (blk_cell BK119.out 6).trans rfl; have hfz37_0 := blk_frozen BK119.out 0; have hfz37_1 := blk_frozen BK119.out 1; have hfz37_2 := blk_frozen BK119.out 2; have hfz37_3 := blk_frozen BK119.out 3; have hfz37_4 := blk_frozen BK119.out 4; have hfz37_5 := blk_frozen BK119.out 5; have hfz37_6 := blk_frozen BK119.out 6))
                go_ret
                exact ⟨_, by first | rfl | (simp [errW_none, errW_some] <;> rfl) | (simp [*, errW_none, errW_some] <;> rfl), by (with_reducible repeat (first | apply Kd.R_alloc | apply Kd.R_drewN | apply Kd.R_drew)); exact HO145.out, by repeat (first | (with_reducible first | exact HB.out | apply below_alloc | apply pw_below_drewN | apply below_drew1 | refine below_set ?_ GE119.out) | exact HB.out)⟩
              · rw [if_neg c34] at H
                have c34b0 : (a0_6.toList == ([] : List UInt8)) = false := beq_eq_false_iff_ne.mpr c34
                have c34b1 : (a0_6.toList != ([] : List UInt8)) = true := bne_iff_ne.mpr c34
                (try (have c34b2 : a0_6.toList.isEmpty = false := by simpa using c34))
                (try (have c34b3 : (!a0_6.toList.isEmpty) = true := by simpa using c34))
                replace H := Option.bind_eq_some_iff.mp H
                obtain ⟨t146, A380, H⟩ := H
                replace H : (if y143.length < 8796093022208 then (some (y143 ++ [t146])) else (none)) = some r := H
                have A38 := Aside0.mk A380
                clear A380
                by_cases c39 : y143.length < 8796093022208
                · rw [if_pos c39] at H
                  have LMc39 := Aside0.mk c39
                  clear c39
                  obtain ⟨y147, hy147⟩ : ∃ y_ : List ByteArray, y_ = (y143 ++ [t146]) := ⟨_, rfl⟩
                  replace H : (some y147) = some r := by first | (rw [hy147]; with_reducible exact H) | (have H2_ := (Option.bind_some _ _).symm.trans H; rw [hy147]; with_reducible exact H2_) | (have H2_ := (Option.bind_some _ _).symm.trans H; with_reducible exact H2_) | with_reducible exact H | (rw [hy147]; exact H) | exact H
                  have Ny147 := Aside0.mk hy147
                  clear hy147
                  obtain rfl := Option.some.inj H
                  have hcz40_0 : wc.cell? ⟨gb119, 0, none⟩ = some (.string a0_0) := (blk_cell BK119.out 0).trans rfl
                  have hcz40_1 : wc.cell? ⟨gb119, 1, none⟩ = some (.string a0_1) := (blk_cell BK119.out 1).trans rfl
                  have hcz40_2 : wc.cell? ⟨gb119, 2, none⟩ = some (.string a0_2) := (blk_cell BK119.out 2).trans rfl
                  have hcz40_3 : wc.cell? ⟨gb119, 3, none⟩ = some (.bool a0_3) := (blk_cell BK119.out 3).trans rfl
                  have hcz40_4 : wc.cell? ⟨gb119, 4, none⟩ = some (.string a0_4) := (blk_cell BK119.out 4).trans rfl
                  have hcz40_5 : wc.cell? ⟨gb119, 5, none⟩ = some (.string a0_5) := (blk_cell BK119.out 5).trans rfl
                  have hcz40_6 : wc.cell? ⟨gb119, 6, none⟩ = some (.string a0_6) := (blk_cell BK119.out 6).trans rfl
                  have hfz40_0 := blk_frozen BK119.out 0
                  have hfz40_1 := blk_frozen BK119.out 1
                  have hfz40_2 := blk_frozen BK119.out 2
                  have hfz40_3 := blk_frozen BK119.out 3
                  have hfz40_4 := blk_frozen BK119.out 4
                  have hfz40_5 := blk_frozen BK119.out 5
                  have hfz40_6 := blk_frozen BK119.out 6
                  go_wp2_with (first | ((with_reducible refine gate_callee (f := 24) rfl ?_); refine goesL_ (some 39) rfl rfl Tryz.func24 (by kernel_rfl) rfl #[.string (⟨#[76, 65, 78, 71, 85, 65, 71, 69]⟩ : ByteArray), .string a0_5, .bool true] rfl (by (try simp only [List.map_toArray, List.map_cons, List.map_nil]); first | done | rfl | (simp only [List.length_drop, List.length_take]; rfl)) ?_; (with_reducible refine (spec_Line.calls (⟨#[76, 65, 78, 71, 85, 65, 71, 69]⟩ : ByteArray) a0_5 true t142 _ A32.out).mono ?_); rintro e w' ⟨rfl, ⟨nd, rfl⟩⟩; refine ⟨_, rfl, ?_⟩) | ((with_reducible refine gate_builtin (b := .append) (xs := #[.tmp 36, .tmp 40]) rfl ?_); at_builtin; refine Kd.R_append Kd.string (w0 := w) w.heap.size rfl (.tmp 36) (.tmp 40) 50 9 (.string ⟨#[]⟩) 16 rfl Tryz.underlying50 info9 rfl (by decide) (by omega) u3 x3_17 t142 [.string t142] (fun _ => True) (fun _ => False) rfl rfl ?aP (fun _ hk => hk.elim) ?aF ?aO ?aB ?aS ?aL ?_; (case aP => exact rfl); (case aB => exact (by repeat (first | (with_reducible first | exact HB.out | apply below_alloc | apply pw_below_drewN | apply below_drew1 | refine below_set ?_ GE119.out) | exact HB.out))); (case aF => exact (fun _ _ => trivial)); (case aO => exact (by (with_reducible repeat (first | apply Kd.R_alloc | apply Kd.R_drewN | apply Kd.R_drew)); exact HO_3.out)); (case aS => exact (below_size (by repeat (first | (with_reducible first | exact HB.out | apply below_alloc | apply pw_below_drewN | apply below_drew1 | refine below_set ?_ GE119.out) | exact HB.out)))); (case aL => have := LMc33.out; omega); intro v144 w41 ho hb hg hat; rw [← Ny143.out] at ho; have n0_ := Aside0.mk (blk_grown (g := gb119) (o := .cells #[.string a0_0, .string a0_1, .string a0_2, .bool a0_3, .string a0_4, .string a0_5, .string a0_6] 55 (0, 0)) (by (with_reducible repeat (first | refine blk_drewN ?_ _ | refine blk_drew ?_ | refine blk_alloc ?_ _)); exact BK119.out) hg (Kd.R_ne HO_3.out BK119.out (by decide))); have n1_ := Aside0.mk (hb); have n2_ := Aside0.mk (ho); clear BK119; clear HB; clear HO_3; have BK119 := n0_; have HB := n1_; have HO145 := n2_; clear n0_ n1_ n2_; clear ho hb hg hat; have hcz42_0 : w41.cell? ⟨gb119, 0, none⟩ = some (.string a0_0) := (blk_cell BK119.out 0).trans rfl; have hcz42_1 : w41.cell? ⟨gb119, 1, none⟩ = some (.string a0_1) := (blk_cell BK119.out 1).trans rfl; have hcz42_2 : w41.cell? ⟨gb119, 2, none⟩ = some (.string a0_2) := (blk_cell BK119.out 2).trans rfl; have hcz42_3 : w41.cell? ⟨gb119, 3, none⟩ = some (.bool a0_3) := (blk_cell BK119.out 3).trans rfl; have hcz42_4 : w41.cell? ⟨gb119, 4, none⟩ = some (.string a0_4) := (blk_cell BK119.out 4).trans rfl; have hcz42_5 : w41.cell? ⟨gb119, 5, none⟩ = some (.string a0_5) := (blk_cell BK119.out 5).trans rfl; have hcz42_6 : w41.cell? ⟨gb119, 6, none⟩ = some (.string a0_6) := (blk_cell BK119.out 6).trans rfl; have hfz42_0 := blk_frozen BK119.out 0; have hfz42_1 := blk_frozen BK119.out 1; have hfz42_2 := blk_frozen BK119.out 2; have hfz42_3 := blk_frozen BK119.out 3; have hfz42_4 := blk_frozen BK119.out 4; have hfz42_5 := blk_frozen BK119.out 5; have hfz42_6 := blk_frozen BK119.out 6) | ((with_reducible refine gate_callee (f := 24) rfl ?_); refine goesL_ (some 48) rfl rfl Tryz.func24 (by kernel_rfl) rfl #[.string (⟨#[85, 82, 73]⟩ : ByteArray), .string a0_6, .bool true] rfl (by (try simp only [List.map_toArray, List.map_cons, List.map_nil]); first | done | rfl | (simp only [List.length_drop, List.length_take]; rfl)) ?_; (with_reducible refine (spec_Line.calls (⟨#[85, 82, 73]⟩ : ByteArray) a0_6 true t146 _ A38.out).mono ?_); rintro e w' ⟨rfl, ⟨nd, rfl⟩⟩; refine ⟨_, rfl, ?_⟩) | ((with_reducible refine gate_builtin (b := .append) (xs := #[.tmp 45, .tmp 49]) rfl ?_); at_builtin; refine Kd.R_append Kd.string (w0 := w) w.heap.size rfl (.tmp 45) (.tmp 49) 50 9 (.string ⟨#[]⟩) 16 rfl Tryz.underlying50 info9 rfl (by decide) (by omega) v144 y143 t146 [.string t146] (fun _ => True) (fun _ => False) rfl rfl ?aP (fun _ hk => hk.elim) ?aF ?aO ?aB ?aS ?aL ?_; (case aP => exact rfl); (case aB => exact (by repeat (first | (with_reducible first | exact HB.out | apply below_alloc | apply pw_below_drewN | apply below_drew1 | refine below_set ?_ GE119.out) | exact HB.out))); (case aF => exact (fun _ _ => trivial)); (case aO => exact (by (with_reducible repeat (first | apply Kd.R_alloc | apply Kd.R_drewN | apply Kd.R_drew)); exact HO145.out)); (case aS => exact (below_size (by repeat (first | (with_reducible first | exact HB.out | apply below_alloc | apply pw_below_drewN | apply below_drew1 | refine below_set ?_ GE119.out) | exact HB.out)))); (case aL => have := LMc39.out; omega); intro v148 w43 ho hb hg hat; rw [← Ny147.out] at ho; have n0_ := Aside0.mk (blk_grown (g := gb119) (o := .cells #[.string a0_0, .string a0_1, .string a0_2, .bool a0_3, .string a0_4, .string a0_5, .string a0_6] 55 (0, 0)) (by (with_reducible repeat (first | refine blk_drewN ?_ _ | refine blk_drew ?_ | refine blk_alloc ?_ _)); exact BK119.out) hg (Kd.R_ne HO145.out BK119.out (by decide))); have n1_ := Aside0.mk (hb); have n2_ := Aside0.mk (ho); clear BK119; clear HB; clear HO145; have BK119 := n0_; have HB := n1_; have HO149 := n2_; clear n0_ n1_ n2_; clear ho hb hg hat))
                  go_ret
                  exact ⟨_, by first | rfl | (simp [errW_none, errW_some] <;> rfl) | (simp [*, errW_none, errW_some] <;> rfl), by (with_reducible repeat (first | apply Kd.R_alloc | apply Kd.R_drewN | apply Kd.R_drew)); exact HO149.out, by repeat (first | (with_reducible first | exact HB.out | apply below_alloc | apply pw_below_drewN | apply below_drew1 | refine below_set ?_ GE119.out) | exact HB.out)⟩
                · rw [if_neg c39] at H
                  exact absurd H (by simp)
            · rw [if_neg c33] at H
              exact absurd H (by simp)
def spec_Variant_Resolution.f (k : Nat) (a0_0 : ByteArray) (a0_1 : Int) (a0_2 : Int) (a0_3 : Int) (a0_4 : ByteArray) (a0_5 : Int) (a0_6 : Int) (a0_7 : ByteArray) (a0_8 : ByteArray) (a0_9 : ByteArray) (a0_10 : ByteArray) (a0_11 : ByteArray) (a0_12 : Int) : Option (ByteArray) := if a0_5 = 0 then (some (⟨#[]⟩ : ByteArray)) else ((spec_Decimal.f k (IntKind.u64.wrap (a0_5))).bind fun t151 => (if t151.size + 1 ≤ 9223372036854775807 then ((spec_Decimal.f k (IntKind.u64.wrap (a0_6))).bind fun t152 => (if (t151 ++ (⟨#[120]⟩ : ByteArray)).size + t152.size ≤ 9223372036854775807 then (some ((t151 ++ (⟨#[120]⟩ : ByteArray)) ++ t152)) else (none))) else (none)))
set_option maxHeartbeats 8000000 in
set_option maxRecDepth 100000 in
theorem spec_Variant_Resolution.calls (k : Nat) (a0_0 : ByteArray) (a0_1 : Int) (a0_2 : Int) (a0_3 : Int) (a0_4 : ByteArray) (a0_5 : Int) (a0_6 : Int) (a0_7 : ByteArray) (a0_8 : ByteArray) (a0_9 : ByteArray) (a0_10 : ByteArray) (a0_11 : ByteArray) (a0_12 : Int) (r : ByteArray) (w : World) (h : spec_Variant_Resolution.f k a0_0 a0_1 a0_2 a0_3 a0_4 a0_5 a0_6 a0_7 a0_8 a0_9 a0_10 a0_11 a0_12 = some r) :
    Calls Tryz.prog 25 #[.agg #[.string a0_0, .int .u32 a0_1, .int .u32 a0_2, .int .u32 a0_3, .string a0_4, .int .u32 a0_5, .int .u32 a0_6, .string a0_7, .string a0_8, .string a0_9, .string a0_10, .string a0_11, .int .i64 a0_12]] w fun e w' => e = .returned (.string r) ∧ Below w.heap.size w w' := by
  have hu44 := Tryz.underlying44
  have HB := Aside0.mk (Below.refl w.heap.size w)
  have H : (if a0_5 = 0 then (some (⟨#[]⟩ : ByteArray)) else ((spec_Decimal.f k (IntKind.u64.wrap (a0_5))).bind fun t151 => (if t151.size + 1 ≤ 9223372036854775807 then ((spec_Decimal.f k (IntKind.u64.wrap (a0_6))).bind fun t152 => (if (t151 ++ (⟨#[120]⟩ : ByteArray)).size + t152.size ≤ 9223372036854775807 then (some ((t151 ++ (⟨#[120]⟩ : ByteArray)) ++ t152)) else (none))) else (none)))) = some r := h
  clear h
  by_cases c2 : a0_5 = 0
  · rw [if_pos c2] at H
    have c2b0 : (a0_5 == 0) = true := beq_iff_eq.mpr c2
    have c2b1 : (a0_5 != 0) = false := bne_eq_false_iff_eq.mpr c2
    clear c2
    obtain rfl := Option.some.inj H
    go_enter Tryz.func25, Tryz.ntmps25
    go_wp2_with (first | ((with_reducible refine gate_dst (N := 1) rfl ?_); refine box_event ?hg (N := 1) ?hd (cs := #[.string a0_0, .int .u32 a0_1, .int .u32 a0_2, .int .u32 a0_3, .string a0_4, .int .u32 a0_5, .int .u32 a0_6, .string a0_7, .string a0_8, .string a0_9, .string a0_10, .string a0_11, .int .i64 a0_12]) (t := 44) ?hr ?_; (case hd => rfl); (case hg => rfl); (case hr => first | (go_simp; done) | (go_simp; rfl)); intro gb150 hg w3 hbox hb; have n0_ := Aside0.mk (below_step (by repeat (first | (with_reducible first | exact HB.out | apply below_alloc | apply pw_below_drewN | apply below_drew1) | exact HB.out)) hb); have n1_ := Aside0.mk (hbox); have n2_ := Aside0.mk ((by rw [hg]; exact (below_size (by repeat (first | (with_reducible first | exact HB.out | apply below_alloc | apply pw_below_drewN | apply below_drew1) | exact HB.out))) : w.heap.size ≤ gb150)); have n3_ := Aside0.mk ((by rw [hg]; exact (below_size (by repeat (first | (with_reducible first | exact HB.out | apply below_alloc | apply pw_below_drewN | apply below_drew1) | exact HB.out))) : w.heap.size ≤ gb150)); clear HB; have HB := n0_; have BK150 := n1_; have GW150 := n2_; have GE150 := n3_; clear n0_ n1_ n2_ n3_; clear hb hbox hg; have hcz4_0 : w3.cell? ⟨gb150, 0, none⟩ = some (.string a0_0) := (blk_cell BK150.out 0).trans rfl; have hcz4_1 : w3.cell? ⟨gb150, 1, none⟩ = some (.int .u32 a0_1) := (blk_cell BK150.out 1).trans rfl; have hcz4_2 : w3.cell? ⟨gb150, 2, none⟩ = some (.int .u32 a0_2) := (blk_cell BK150.out 2).trans rfl; have hcz4_3 : w3.cell? ⟨gb150, 3, none⟩ = some (.int .u32 a0_3) := (blk_cell BK150.out 3).trans rfl; have hcz4_4 : w3.cell? ⟨gb150, 4, none⟩ = some (.string a0_4) := (blk_cell BK150.out 4).trans rfl; have hcz4_5 : w3.cell? ⟨gb150, 5, none⟩ = some (.int .u32 a0_5) := (blk_cell BK150.out 5).trans rfl; have hcz4_6 : w3.cell? ⟨gb150, 6, none⟩ = some (.int .u32 a0_6) := (blk_cell BK150.out 6).trans rfl; have hcz4_7 : w3.cell? ⟨gb150, 7, none⟩ = some (.string a0_7) := (blk_cell BK150.out 7).trans rfl; have hcz4_8 : w3.cell? ⟨gb150, 8, none⟩ = some (.string a0_8) := (blk_cell BK150.out 8).trans rfl; have hcz4_9 : w3.cell? ⟨gb150, 9, none⟩ = some (.string a0_9) := (blk_cell BK150.out 9).trans rfl; have hcz4_10 : w3.cell? ⟨gb150, 10, none⟩ = some (.string a0_10) := (blk_cell BK150.out 10).trans rfl; have hcz4_11 : w3.cell? ⟨gb150, 11, none⟩ = some (.string a0_11) := (blk_cell BK150.out 11).trans rfl; have hcz4_12 : w3.cell? ⟨gb150, 12, none⟩ = some (.int .i64 a0_12) := (blk_cell BK150.out 12).trans rfl; have hfz4_0 := blk_frozen BK150.out 0; have hfz4_1 := blk_frozen BK150.out 1; have hfz4_2 := blk_frozen BK150.out 2; have hfz4_3 := blk_frozen BK150.out 3; have hfz4_4 := blk_frozen BK150.out 4; have hfz4_5 := blk_frozen BK150.out 5; have hfz4_6 := blk_frozen BK150.out 6; have hfz4_7 := blk_frozen BK150.out 7; have hfz4_8 := blk_frozen BK150.out 8; have hfz4_9 := blk_frozen BK150.out 9; have hfz4_10 := blk_frozen BK150.out 10; have hfz4_11 := blk_frozen BK150.out 11; have hfz4_12 := blk_frozen BK150.out 12))
    repeat (go_quiet (first | ((with_reducible refine gate_dst (N := 1) rfl ?_); refine box_event ?hg (N := 1) ?hd (cs := #[.string a0_0, .int .u32 a0_1, .int .u32 a0_2, .int .u32 a0_3, .string a0_4, .int .u32 a0_5, .int .u32 a0_6, .string a0_7, .string a0_8, .string a0_9, .string a0_10, .string a0_11, .int .i64 a0_12]) (t := 44) ?hr ?_; (case hd => rfl); (case hg => rfl); (case hr => first | (go_simp; done) | (go_simp; rfl)); intro gb150 hg w3 hbox hb; have n0_ := Aside0.mk (below_step (by repeat (first | (with_reducible first | exact HB.out | apply below_alloc | apply pw_below_drewN | apply below_drew1) | exact HB.out)) hb); have n1_ := Aside0.mk (hbox); have n2_ := Aside0.mk ((by rw [hg]; exact (below_size (by repeat (first | (with_reducible first | exact HB.out | apply below_alloc | apply pw_below_drewN | apply below_drew1) | exact HB.out))) : w.heap.size ≤ gb150)); have n3_ := Aside0.mk ((by rw [hg]; exact (below_size (by repeat (first | (with_reducible first | exact HB.out | apply below_alloc | apply pw_below_drewN | apply below_drew1) | exact HB.out))) : w.heap.size ≤ gb150)); clear HB; have HB := n0_; have BK150 := n1_; have GW150 := n2_; have GE150 := n3_; clear n0_ n1_ n2_ n3_; clear hb hbox hg; have hcz4_0 : w3.cell? ⟨gb150, 0, none⟩ = some (.string a0_0) := (blk_cell BK150.out 0).trans rfl; have hcz4_1 : w3.cell? ⟨gb150, 1, none⟩ = some (.int .u32 a0_1) := (blk_cell BK150.out 1).trans rfl; have hcz4_2 : w3.cell? ⟨gb150, 2, none⟩ = some (.int .u32 a0_2) := (blk_cell BK150.out 2).trans rfl; have hcz4_3 : w3.cell? ⟨gb150, 3, none⟩ = some (.int .u32 a0_3) := (blk_cell BK150.out 3).trans rfl; have hcz4_4 : w3.cell? ⟨gb150, 4, none⟩ = some (.string a0_4) := (blk_cell BK150.out 4).trans rfl; have hcz4_5 : w3.cell? ⟨gb150, 5, none⟩ = some (.int .u32 a0_5) := (blk_cell BK150.out 5).trans rfl; have hcz4_6 : w3.cell? ⟨gb150, 6, none⟩ = some (.int .u32 a0_6) := (blk_cell BK150.out 6).trans rfl; have hcz4_7 : w3.cell? ⟨gb150, 7, none⟩ = some (.string a0_7) := (blk_cell BK150.out 7).trans rfl; have hcz4_8 : w3.cell? ⟨gb150, 8, none⟩ = some (.string a0_8) := (blk_cell BK150.out 8).trans rfl; have hcz4_9 : w3.cell? ⟨gb150, 9, none⟩ = some (.string a0_9) := (blk_cell BK150.out 9).trans rfl; have hcz4_10 : w3.cell? ⟨gb150, 10, none⟩ = some (.string a0_10) := (blk_cell BK150.out 10).trans rfl; have hcz4_11 : w3.cell? ⟨gb150, 11, none⟩ = some (.string a0_11) := (blk_cell BK150.out 11).trans rfl; have hcz4_12 : w3.cell? ⟨gb150, 12, none⟩ = some (.int .i64 a0_12) := (blk_cell BK150.out 12).trans rfl; have hfz4_0 := blk_frozen BK150.out 0; have hfz4_1 := blk_frozen BK150.out 1; have hfz4_2 := blk_frozen BK150.out 2; have hfz4_3 := blk_frozen BK150.out 3; have hfz4_4 := blk_frozen BK150.out 4; have hfz4_5 := blk_frozen BK150.out 5; have hfz4_6 := blk_frozen BK150.out 6; have hfz4_7 := blk_frozen BK150.out 7; have hfz4_8 := blk_frozen BK150.out 8; have hfz4_9 := blk_frozen BK150.out 9; have hfz4_10 := blk_frozen BK150.out 10; have hfz4_11 := blk_frozen BK150.out 11; have hfz4_12 := blk_frozen BK150.out 12)); try go_wp2_with (first | ((with_reducible refine gate_dst (N := 1) rfl ?_); refine box_event ?hg (N := 1) ?hd (cs := #[.string a0_0, .int .u32 a0_1, .int .u32 a0_2, .int .u32 a0_3, .string a0_4, .int .u32 a0_5, .int .u32 a0_6, .string a0_7, .string a0_8, .string a0_9, .string a0_10, .string a0_11, .int .i64 a0_12]) (t := 44) ?hr ?_; (case hd => rfl); (case hg => rfl); (case hr => first | (go_simp; done) | (go_simp; rfl)); intro gb150 hg w3 hbox hb; have n0_ := Aside0.mk (below_step (by repeat (first | (with_reducible first | exact HB.out | apply below_alloc | apply pw_below_drewN | apply below_drew1) | exact HB.out)) hb); have n1_ := Aside0.mk (hbox); have n2_ := Aside0.mk ((by rw [hg]; exact (below_size (by repeat (first | (with_reducible first | exact HB.out | apply below_alloc | apply pw_below_drewN | apply below_drew1) | exact HB.out))) : w.heap.size ≤ gb150)); have n3_ := Aside0.mk ((by rw [hg]; exact (below_size (by repeat (first | (with_reducible first | exact HB.out | apply below_alloc | apply pw_below_drewN | apply below_drew1) | exact HB.out))) : w.heap.size ≤ gb150)); clear HB; have HB := n0_; have BK150 := n1_; have GW150 := n2_; have GE150 := n3_; clear n0_ n1_ n2_ n3_; clear hb hbox hg; have hcz4_0 : w3.cell? ⟨gb150, 0, none⟩ = some (.string a0_0) := (blk_cell BK150.out 0).trans rfl; have hcz4_1 : w3.cell? ⟨gb150, 1, none⟩ = some (.int .u32 a0_1) := (blk_cell BK150.out 1).trans rfl; have hcz4_2 : w3.cell? ⟨gb150, 2, none⟩ = some (.int .u32 a0_2) := (blk_cell BK150.out 2).trans rfl; have hcz4_3 : w3.cell? ⟨gb150, 3, none⟩ = some (.int .u32 a0_3) := (blk_cell BK150.out 3).trans rfl; have hcz4_4 : w3.cell? ⟨gb150, 4, none⟩ = some (.string a0_4) := (blk_cell BK150.out 4).trans rfl; have hcz4_5 : w3.cell? ⟨gb150, 5, none⟩ = some (.int .u32 a0_5) := (blk_cell BK150.out 5).trans rfl; have hcz4_6 : w3.cell? ⟨gb150, 6, none⟩ = some (.int .u32 a0_6) := (blk_cell BK150.out 6).trans rfl; have hcz4_7 : w3.cell? ⟨gb150, 7, none⟩ = some (.string a0_7) := (blk_cell BK150.out 7).trans rfl; have hcz4_8 : w3.cell? ⟨gb150, 8, none⟩ = some (.string a0_8) := (blk_cell BK150.out 8).trans rfl; have hcz4_9 : w3.cell? ⟨gb150, 9, none⟩ = some (.string a0_9) := (blk_cell BK150.out 9).trans rfl; have hcz4_10 : w3.cell? ⟨gb150, 10, none⟩ = some (.string a0_10) := (blk_cell BK150.out 10).trans rfl; have hcz4_11 : w3.cell? ⟨gb150, 11, none⟩ = some (.string a0_11) := (blk_cell BK150.out 11).trans rfl; have hcz4_12 : w3.cell? ⟨gb150, 12, none⟩ = some (.int .i64 a0_12) := (blk_cell BK150.out 12).trans rfl; have hfz4_0 := blk_frozen BK150.out 0; have hfz4_1 := blk_frozen BK150.out 1; have hfz4_2 := blk_frozen BK150.out 2; have hfz4_3 := blk_frozen BK150.out 3; have hfz4_4 := blk_frozen BK150.out 4; have hfz4_5 := blk_frozen BK150.out 5; have hfz4_6 := blk_frozen BK150.out 6; have hfz4_7 := blk_frozen BK150.out 7; have hfz4_8 := blk_frozen BK150.out 8; have hfz4_9 := blk_frozen BK150.out 9; have hfz4_10 := blk_frozen BK150.out 10; have hfz4_11 := blk_frozen BK150.out 11; have hfz4_12 := blk_frozen BK150.out 12)))
    go_ret
    exact ⟨by first | rfl | (simp [errW_none, errW_some] <;> rfl) | (simp [*, errW_none, errW_some] <;> rfl), by repeat (first | (with_reducible first | exact HB.out | apply below_alloc | apply pw_below_drewN | apply below_drew1 | refine below_set ?_ GE150.out) | exact HB.out)⟩
  · rw [if_neg c2] at H
    have c2b0 : (a0_5 == 0) = false := beq_eq_false_iff_ne.mpr c2
    have c2b1 : (a0_5 != 0) = true := bne_iff_ne.mpr c2
    replace H := Option.bind_eq_some_iff.mp H
    obtain ⟨t151, A50, H⟩ := H
    replace H : (if t151.size + 1 ≤ 9223372036854775807 then ((spec_Decimal.f k (IntKind.u64.wrap (a0_6))).bind fun t152 => (if (t151 ++ (⟨#[120]⟩ : ByteArray)).size + t152.size ≤ 9223372036854775807 then (some ((t151 ++ (⟨#[120]⟩ : ByteArray)) ++ t152)) else (none))) else (none)) = some r := H
    have A5 := Aside0.mk A50
    clear A50
    by_cases c6 : t151.size + 1 ≤ 9223372036854775807
    · rw [if_pos c6] at H
      have c6b0 := eq_true c6
      have c6b1 : decide (t151.size + 1 ≤ 9223372036854775807) = true := decide_eq_true c6
      try have c6b2 : (9223372036854775807 < t151.size + 1) = False := eq_false (Nat.not_lt.2 c6)
      try (have c6b3 := c6; simp only [ByteArray.size_append, lit_size, List.length_cons, List.length_nil, Nat.zero_add, Nat.reduceAdd] at c6b3)
      replace H := Option.bind_eq_some_iff.mp H
      obtain ⟨t152, A70, H⟩ := H
      replace H : (if (t151 ++ (⟨#[120]⟩ : ByteArray)).size + t152.size ≤ 9223372036854775807 then (some ((t151 ++ (⟨#[120]⟩ : ByteArray)) ++ t152)) else (none)) = some r := H
      have A7 := Aside0.mk A70
      clear A70
      by_cases c8 : (t151 ++ (⟨#[120]⟩ : ByteArray)).size + t152.size ≤ 9223372036854775807
      · rw [if_pos c8] at H
        have c8b0 := eq_true c8
        have c8b1 : decide ((t151 ++ (⟨#[120]⟩ : ByteArray)).size + t152.size ≤ 9223372036854775807) = true := decide_eq_true c8
        try have c8b2 : (9223372036854775807 < (t151 ++ (⟨#[120]⟩ : ByteArray)).size + t152.size) = False := eq_false (Nat.not_lt.2 c8)
        try (have c8b3 := c8; simp only [ByteArray.size_append, lit_size, List.length_cons, List.length_nil, Nat.zero_add, Nat.reduceAdd] at c8b3)
        obtain rfl := Option.some.inj H
        go_enter Tryz.func25, Tryz.ntmps25
        go_wp2_with (first | ((with_reducible refine gate_dst (N := 1) rfl ?_); refine box_event ?hg (N := 1) ?hd (cs := #[.string a0_0, .int .u32 a0_1, .int .u32 a0_2, .int .u32 a0_3, .string a0_4, .int .u32 a0_5, .int .u32 a0_6, .string a0_7, .string a0_8, .string a0_9, .string a0_10, .string a0_11, .int .i64 a0_12]) (t := 44) ?hr ?_; (case hd => rfl); (case hg => rfl); (case hr => first | (go_simp; done) | (go_simp; rfl)); intro gb150 hg w9 hbox hb; have n0_ := Aside0.mk (below_step (by repeat (first | (with_reducible first | exact HB.out | apply below_alloc | apply pw_below_drewN | apply below_drew1) | exact HB.out)) hb); have n1_ := Aside0.mk (hbox); have n2_ := Aside0.mk ((by rw [hg]; exact (below_size (by repeat (first | (with_reducible first | exact HB.out | apply below_alloc | apply pw_below_drewN | apply below_drew1) | exact HB.out))) : w.heap.size ≤ gb150)); have n3_ := Aside0.mk ((by rw [hg]; exact (below_size (by repeat (first | (with_reducible first | exact HB.out | apply below_alloc | apply pw_below_drewN | apply below_drew1) | exact HB.out))) : w.heap.size ≤ gb150)); clear HB; have HB := n0_; have BK150 := n1_; have GW150 := n2_; have GE150 := n3_; clear n0_ n1_ n2_ n3_; clear hb hbox hg; have hcz10_0 : w9.cell? ⟨gb150, 0, none⟩ = some (.string a0_0) := (blk_cell BK150.out 0).trans rfl; have hcz10_1 : w9.cell? ⟨gb150, 1, none⟩ = some (.int .u32 a0_1) := (blk_cell BK150.out 1).trans rfl; have hcz10_2 : w9.cell? ⟨gb150, 2, none⟩ = some (.int .u32 a0_2) := (blk_cell BK150.out 2).trans rfl; have hcz10_3 : w9.cell? ⟨gb150, 3, none⟩ = some (.int .u32 a0_3) := (blk_cell BK150.out 3).trans rfl; have hcz10_4 : w9.cell? ⟨gb150, 4, none⟩ = some (.string a0_4) := (blk_cell BK150.out 4).trans rfl; have hcz10_5 : w9.cell? ⟨gb150, 5, none⟩ = some (.int .u32 a0_5) := (blk_cell BK150.out 5).trans rfl; have hcz10_6 : w9.cell? ⟨gb150, 6, none⟩ = some (.int .u32 a0_6) := (blk_cell BK150.out 6).trans rfl; have hcz10_7 : w9.cell? ⟨gb150, 7, none⟩ = some (.string a0_7) := (blk_cell BK150.out 7).trans rfl; have hcz10_8 : w9.cell? ⟨gb150, 8, none⟩ = some (.string a0_8) := (blk_cell BK150.out 8).trans rfl; have hcz10_9 : w9.cell? ⟨gb150, 9, none⟩ = some (.string a0_9) := (blk_cell BK150.out 9).trans rfl; have hcz10_10 : w9.cell? ⟨gb150, 10, none⟩ = some (.string a0_10) := (blk_cell BK150.out 10).trans rfl; have hcz10_11 : w9.cell? ⟨gb150, 11, none⟩ = some (.string a0_11) := (blk_cell BK150.out 11).trans rfl; have hcz10_12 : w9.cell? ⟨gb150, 12, none⟩ = some (.int .i64 a0_12) := (blk_cell BK150.out 12).trans rfl; have hfz10_0 := blk_frozen BK150.out 0; have hfz10_1 := blk_frozen BK150.out 1; have hfz10_2 := blk_frozen BK150.out 2; have hfz10_3 := blk_frozen BK150.out 3; have hfz10_4 := blk_frozen BK150.out 4; have hfz10_5 := blk_frozen BK150.out 5; have hfz10_6 := blk_frozen BK150.out 6; have hfz10_7 := blk_frozen BK150.out 7; have hfz10_8 := blk_frozen BK150.out 8; have hfz10_9 := blk_frozen BK150.out 9; have hfz10_10 := blk_frozen BK150.out 10; have hfz10_11 := blk_frozen BK150.out 11; have hfz10_12 := blk_frozen BK150.out 12) | (go_at_call 11; (with_reducible refine (spec_Decimal.calls k (IntKind.u64.wrap (a0_5)) t151 _ A5.out).mono ?_); rintro e w' ⟨rfl, ⟨nd, rfl⟩⟩; (try first | exact ⟨rfl, _, World.drewN_drewN _ _ _⟩ | exact ⟨rfl, _, Eq.trans (World.drewN_drewN _ _ _) (congrArg (World.drewN _) (Nat.add_assoc _ _ _))⟩)) | (go_at_call 11; (with_reducible refine (spec_Decimal.calls k (IntKind.u64.wrap (a0_6)) t152 _ A7.out).mono ?_); rintro e w' ⟨rfl, ⟨nd, rfl⟩⟩; (try first | exact ⟨rfl, _, World.drewN_drewN _ _ _⟩ | exact ⟨rfl, _, Eq.trans (World.drewN_drewN _ _ _) (congrArg (World.drewN _) (Nat.add_assoc _ _ _))⟩)))
        repeat (go_quiet (first | ((with_reducible refine gate_dst (N := 1) rfl ?_); refine box_event ?hg (N := 1) ?hd (cs := #[.string a0_0, .int .u32 a0_1, .int .u32 a0_2, .int .u32 a0_3, .string a0_4, .int .u32 a0_5, .int .u32 a0_6, .string a0_7, .string a0_8, .string a0_9, .string a0_10, .string a0_11, .int .i64 a0_12]) (t := 44) ?hr ?_; (case hd => rfl); (case hg => rfl); (case hr => first | (go_simp; done) | (go_simp; rfl)); intro gb150 hg w9 hbox hb; have n0_ := Aside0.mk (below_step (by repeat (first | (with_reducible first | exact HB.out | apply below_alloc | apply pw_below_drewN | apply below_drew1) | exact HB.out)) hb); have n1_ := Aside0.mk (hbox); have n2_ := Aside0.mk ((by rw [hg]; exact (below_size (by repeat (first | (with_reducible first | exact HB.out | apply below_alloc | apply pw_below_drewN | apply below_drew1) | exact HB.out))) : w.heap.size ≤ gb150)); have n3_ := Aside0.mk ((by rw [hg]; exact (below_size (by repeat (first | (with_reducible first | exact HB.out | apply below_alloc | apply pw_below_drewN | apply below_drew1) | exact HB.out))) : w.heap.size ≤ gb150)); clear HB; have HB := n0_; have BK150 := n1_; have GW150 := n2_; have GE150 := n3_; clear n0_ n1_ n2_ n3_; clear hb hbox hg; have hcz10_0 : w9.cell? ⟨gb150, 0, none⟩ = some (.string a0_0) := (blk_cell BK150.out 0).trans rfl; have hcz10_1 : w9.cell? ⟨gb150, 1, none⟩ = some (.int .u32 a0_1) := (blk_cell BK150.out 1).trans rfl; have hcz10_2 : w9.cell? ⟨gb150, 2, none⟩ = some (.int .u32 a0_2) := (blk_cell BK150.out 2).trans rfl; have hcz10_3 : w9.cell? ⟨gb150, 3, none⟩ = some (.int .u32 a0_3) := (blk_cell BK150.out 3).trans rfl; have hcz10_4 : w9.cell? ⟨gb150, 4, none⟩ = some (.string a0_4) := (blk_cell BK150.out 4).trans rfl; have hcz10_5 : w9.cell? ⟨gb150, 5, none⟩ = some (.int .u32 a0_5) := (blk_cell BK150.out 5).trans rfl; have hcz10_6 : w9.cell? ⟨gb150, 6, none⟩ = some (.int .u32 a0_6) := (blk_cell BK150.out 6).trans rfl; have hcz10_7 : w9.cell? ⟨gb150, 7, none⟩ = some (.string a0_7) := (blk_cell BK150.out 7).trans rfl; have hcz10_8 : w9.cell? ⟨gb150, 8, none⟩ = some (.string a0_8) := (blk_cell BK150.out 8).trans rfl; have hcz10_9 : w9.cell? ⟨gb150, 9, none⟩ = some (.string a0_9) := (blk_cell BK150.out 9).trans rfl; have hcz10_10 : w9.cell? ⟨gb150, 10, none⟩ = some (.string a0_10) := (blk_cell BK150.out 10).trans rfl; have hcz10_11 : w9.cell? ⟨gb150, 11, none⟩ = some (.string a0_11) := (blk_cell BK150.out 11).trans rfl; have hcz10_12 : w9.cell? ⟨gb150, 12, none⟩ = some (.int .i64 a0_12) := (blk_cell BK150.out 12).trans rfl; have hfz10_0 := blk_frozen BK150.out 0; have hfz10_1 := blk_frozen BK150.out 1; have hfz10_2 := blk_frozen BK150.out 2; have hfz10_3 := blk_frozen BK150.out 3; have hfz10_4 := blk_frozen BK150.out 4; have hfz10_5 := blk_frozen BK150.out 5; have hfz10_6 := blk_frozen BK150.out 6; have hfz10_7 := blk_frozen BK150.out 7; have hfz10_8 := blk_frozen BK150.out 8; have hfz10_9 := blk_frozen BK150.out 9; have hfz10_10 := blk_frozen BK150.out 10; have hfz10_11 := blk_frozen BK150.out 11; have hfz10_12 := blk_frozen BK150.out 12) | (go_at_call 11; (with_reducible refine (spec_Decimal.calls k (IntKind.u64.wrap (a0_5)) t151 _ A5.out).mono ?_); rintro e w' ⟨rfl, ⟨nd, rfl⟩⟩; (try first | exact ⟨rfl, _, World.drewN_drewN _ _ _⟩ | exact ⟨rfl, _, Eq.trans (World.drewN_drewN _ _ _) (congrArg (World.drewN _) (Nat.add_assoc _ _ _))⟩)) | (go_at_call 11; (with_reducible refine (spec_Decimal.calls k (IntKind.u64.wrap (a0_6)) t152 _ A7.out).mono ?_); rintro e w' ⟨rfl, ⟨nd, rfl⟩⟩; (try first | exact ⟨rfl, _, World.drewN_drewN _ _ _⟩ | exact ⟨rfl, _, Eq.trans (World.drewN_drewN _ _ _) (congrArg (World.drewN _) (Nat.add_assoc _ _ _))⟩))); try go_wp2_with (first | ((with_reducible refine gate_dst (N := 1) rfl ?_); refine box_event ?hg (N := 1) ?hd (cs := #[.string a0_0, .int .u32 a0_1, .int .u32 a0_2, .int .u32 a0_3, .string a0_4, .int .u32 a0_5, .int .u32 a0_6, .string a0_7, .string a0_8, .string a0_9, .string a0_10, .string a0_11, .int .i64 a0_12]) (t := 44) ?hr ?_; (case hd => rfl); (case hg => rfl); (case hr => first | (go_simp; done) | (go_simp; rfl)); intro gb150 hg w9 hbox hb; have n0_ := Aside0.mk (below_step (by repeat (first | (with_reducible first | exact HB.out | apply below_alloc | apply pw_below_drewN | apply below_drew1) | exact HB.out)) hb); have n1_ := Aside0.mk (hbox); have n2_ := Aside0.mk ((by rw [hg]; exact (below_size (by repeat (first | (with_reducible first | exact HB.out | apply below_alloc | apply pw_below_drewN | apply below_drew1) | exact HB.out))) : w.heap.size ≤ gb150)); have n3_ := Aside0.mk ((by rw [hg]; exact (below_size (by repeat (first | (with_reducible first | exact HB.out | apply below_alloc | apply pw_below_drewN | apply below_drew1) | exact HB.out))) : w.heap.size ≤ gb150)); clear HB; have HB := n0_; have BK150 := n1_; have GW150 := n2_; have GE150 := n3_; clear n0_ n1_ n2_ n3_; clear hb hbox hg; have hcz10_0 : w9.cell? ⟨gb150, 0, none⟩ = some (.string a0_0) := (blk_cell BK150.out 0).trans rfl; have hcz10_1 : w9.cell? ⟨gb150, 1, none⟩ = some (.int .u32 a0_1) := (blk_cell BK150.out 1).trans rfl; have hcz10_2 : w9.cell? ⟨gb150, 2, none⟩ = some (.int .u32 a0_2) := (blk_cell BK150.out 2).trans rfl; have hcz10_3 : w9.cell? ⟨gb150, 3, none⟩ = some (.int .u32 a0_3) := (blk_cell BK150.out 3).trans rfl; have hcz10_4 : w9.cell? ⟨gb150, 4, none⟩ = some (.string a0_4) := (blk_cell BK150.out 4).trans rfl; have hcz10_5 : w9.cell? ⟨gb150, 5, none⟩ = some (.int .u32 a0_5) := (blk_cell BK150.out 5).trans rfl; have hcz10_6 : w9.cell? ⟨gb150, 6, none⟩ = some (.int .u32 a0_6) := (blk_cell BK150.out 6).trans rfl; have hcz10_7 : w9.cell? ⟨gb150, 7, none⟩ = some (.string a0_7) := (blk_cell BK150.out 7).trans rfl; have hcz10_8 : w9.cell? ⟨gb150, 8, none⟩ = some (.string a0_8) := (blk_cell BK150.out 8).trans rfl; have hcz10_9 : w9.cell? ⟨gb150, 9, none⟩ = some (.string a0_9) := (blk_cell BK150.out 9).trans rfl; have hcz10_10 : w9.cell? ⟨gb150, 10, none⟩ = some (.string a0_10) := (blk_cell BK150.out 10).trans rfl; have hcz10_11 : w9.cell? ⟨gb150, 11, none⟩ = some (.string a0_11) := (blk_cell BK150.out 11).trans rfl; have hcz10_12 : w9.cell? ⟨gb150, 12, none⟩ = some (.int .i64 a0_12) := (blk_cell BK150.out 12).trans rfl; have hfz10_0 := blk_frozen BK150.out 0; have hfz10_1 := blk_frozen BK150.out 1; have hfz10_2 := blk_frozen BK150.out 2; have hfz10_3 := blk_frozen BK150.out 3; have hfz10_4 := blk_frozen BK150.out 4; have hfz10_5 := blk_frozen BK150.out 5; have hfz10_6 := blk_frozen BK150.out 6; have hfz10_7 := blk_frozen BK150.out 7; have hfz10_8 := blk_frozen BK150.out 8; have hfz10_9 := blk_frozen BK150.out 9; have hfz10_10 := blk_frozen BK150.out 10; have hfz10_11 := blk_frozen BK150.out 11; have hfz10_12 := blk_frozen BK150.out 12) | (go_at_call 11; (with_reducible refine (spec_Decimal.calls k (IntKind.u64.wrap (a0_5)) t151 _ A5.out).mono ?_); rintro e w' ⟨rfl, ⟨nd, rfl⟩⟩; (try first | exact ⟨rfl, _, World.drewN_drewN _ _ _⟩ | exact ⟨rfl, _, Eq.trans (World.drewN_drewN _ _ _) (congrArg (World.drewN _) (Nat.add_assoc _ _ _))⟩)) | (go_at_call 11; (with_reducible refine (spec_Decimal.calls k (IntKind.u64.wrap (a0_6)) t152 _ A7.out).mono ?_); rintro e w' ⟨rfl, ⟨nd, rfl⟩⟩; (try first | exact ⟨rfl, _, World.drewN_drewN _ _ _⟩ | exact ⟨rfl, _, Eq.trans (World.drewN_drewN _ _ _) (congrArg (World.drewN _) (Nat.add_assoc _ _ _))⟩))))
        go_ret
        exact ⟨by first | rfl | (simp [errW_none, errW_some] <;> rfl) | (simp [*, errW_none, errW_some] <;> rfl), by repeat (first | (with_reducible first | exact HB.out | apply below_alloc | apply pw_below_drewN | apply below_drew1 | refine below_set ?_ GE150.out) | exact HB.out)⟩
      · rw [if_neg c8] at H
        exact absurd H (by simp)
    · rw [if_neg c6] at H
      exact absurd H (by simp)
end Go.Proofs.YtlghdacdpkaoeaaGreatDoor.PFnMasterLoose
