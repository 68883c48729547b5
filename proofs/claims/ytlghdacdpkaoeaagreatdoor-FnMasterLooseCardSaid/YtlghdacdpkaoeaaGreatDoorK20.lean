import Derived.Test.YtlghdacdpkaoeaaGreatDoorK11
import Derived.Test.YtlghdacdpkaoeaaGreatDoorK14
import Derived.Maps.Own
import Derived.WalkLawsBesides
import Derived.WalkMore
import Derived.Deep.LoopGhost
section
namespace Go.Proofs.YtlghdacdpkaoeaaGreatDoor.PFnMasterLoose
open Go.RowKit Go.Proofs.YtlghdacdpkaoeaaGreatDoorW.PrintWords Go.Proofs.YtlghdacdpkaoeaaGreatDoorW.PrintLast Go.Proofs.YtlghdacdpkaoeaaGreatDoorW.PrintMore
attribute [local go_sem] max2_int min2_int max_two min_two max_three min_three max_four min_four
set_option linter.unusedVariables false
set_option linter.unusedSimpArgs false
def impl_begins.f (a0 : ByteArray) (a1 : ByteArray) : Option (Bool) := if (a0.size : Int) ≥ (a1.size : Int) then (if 0 ≤ (a1.size : Int) then (if (a1.size : Int) ≤ (a0.size : Int) then (some ((a0.extract 0 ((a1.size : Int) : Int).toNat).toList == a1.toList)) else (none)) else (none)) else (some false)
set_option maxHeartbeats 8000000 in
set_option maxRecDepth 100000 in
theorem impl_begins.calls (a0 : ByteArray) (a1 : ByteArray) (r : Bool) (w : World) (h : impl_begins.f a0 a1 = some r) :
    Calls Tryz.prog 28 #[.string a0, .string a1] w fun e w' => e = .returned (.bool r) ∧ Drawn0 w w' := by
  have H : (if (a0.size : Int) ≥ (a1.size : Int) then (if 0 ≤ (a1.size : Int) then (if (a1.size : Int) ≤ (a0.size : Int) then (some ((a0.extract 0 ((a1.size : Int) : Int).toNat).toList == a1.toList)) else (none)) else (none)) else (some false)) = some r := h
  clear h
  by_cases c3 : (a0.size : Int) ≥ (a1.size : Int)
  · rw [if_pos c3] at H
    have c3b0 : decide ((a1.size : Int) ≤ (a0.size : Int)) = true := decide_eq_true c3
    have c3b1 : decide (a1.size ≤ a0.size) = true := decide_eq_true (Int.ofNat_le.mp c3)
    clear c3
    by_cases c4 : 0 ≤ (a1.size : Int)
    · rw [if_pos c4] at H
      have c4b0 := eq_true c4
      have c4b1 : decide (0 ≤ (a1.size : Int)) = true := decide_eq_true c4
      clear c4
      by_cases c5 : (a1.size : Int) ≤ (a0.size : Int)
      · rw [if_pos c5] at H
        have c5b0 := eq_true c5
        have c5b1 : decide ((a1.size : Int) ≤ (a0.size : Int)) = true := decide_eq_true c5
        clear c5
        obtain rfl := Option.some.inj H
        go_enter Tryz.func28, Tryz.ntmps28
        go_wp2
        go_ret
        exact ⟨by first | rfl | (simp; done) | (simp [*]; done), by repeat (first | exact Drawn0.refl _ | apply Drawn0.step)⟩
      · rw [if_neg c5] at H
        exact absurd H (by simp)
    · rw [if_neg c4] at H
      exact absurd H (by simp)
  · rw [if_neg c3] at H
    have c3b0 : decide ((a1.size : Int) ≤ (a0.size : Int)) = false := decide_eq_false c3
    have c3b1 : decide (a1.size ≤ a0.size) = false := decide_eq_false (fun h => c3 (Int.ofNat_le.mpr h))
    clear c3
    obtain rfl := Option.some.inj H
    go_enter Tryz.func28, Tryz.ntmps28
    go_wp2
    go_ret
    exact ⟨by first | rfl | (simp; done) | (simp [*]; done), by repeat (first | exact Drawn0.refl _ | apply Drawn0.step)⟩
end Go.Proofs.YtlghdacdpkaoeaaGreatDoor.PFnMasterLoose
end
section
namespace Go.Proofs.YtlghdacdpkaoeaaGreatDoor
open Go.RowKit Go.Proofs.YtlghdacdpkaoeaaGreatDoorW.PrintWords Go.Maps
open Go.Lib hiding intOf
set_option linter.unusedVariables false
set_option linter.unusedSimpArgs false
structure RF where
  m : Nat
  nd : Nat
  dp : Int
  dot : Bool
  dig : Bool
def rfStep (s : RF) (c : UInt8) : RF :=
  if c = 46 then { s with dot := true, dp := s.nd }
  else if c = 48 ∧ s.nd = 0 then { s with dp := s.dp - 1, dig := true }
  else { s with m := s.m * 10 + (c.toNat - 48), nd := s.nd + 1, dig := true }
def rf (l : List UInt8) : RF := l.foldl rfStep ⟨0, 0, 0, false, false⟩
theorem snoc_ind {α : Type} {P : List α → Prop} (h0 : P []) (hs : ∀ l c, P l → P (l ++ [c])) (l : List α) : P l := by
  have key : ∀ r : List α, P r.reverse := by
    intro r
    induction r with
    | nil => simpa using h0
    | cons c r ih => rw [List.reverse_cons]; exact hs _ _ ih
  simpa using key l.reverse
theorem rf_snoc (l : List UInt8) (c : UInt8) : rf (l ++ [c]) = rfStep (rf l) c := by simp [rf]
theorem rf_bd (l : List UInt8) (hd : ∀ c ∈ l, c = 46 ∨ (48 ≤ c ∧ c ≤ 57)) : (rf l).nd ≤ l.length ∧ (rf l).m < 10 ^ (rf l).nd ∧ -(l.length : Int) ≤ (rf l).dp ∧ (rf l).dp ≤ l.length := by
  induction l using snoc_ind with
  | h0 => simp [rf]
  | hs l c ih =>
    obtain ⟨h1, h2, h3, h4⟩ := ih (fun x hx => hd x (by simp [hx]))
    rw [rf_snoc]
    unfold rfStep
    simp only [List.length_append, List.length_cons, List.length_nil]
    split
    · refine ⟨by simpa using by omega, h2, ?_, ?_⟩ <;> simp <;> omega
    · split
      · refine ⟨by simpa using by omega, h2, ?_, ?_⟩ <;> simp <;> omega
      · rename_i hc _
        have hcc : c.toNat ≤ 57 := by
          rcases hd c (by simp) with h | ⟨_, h⟩
          · exact absurd h hc
          · simpa [UInt8.le_iff_toNat_le] using h
        refine ⟨by simpa using by omega, ?_, ?_, ?_⟩
        · simp only [Nat.pow_succ]; omega
        · simp; omega
        · simp; omega
theorem rf_dot (l : List UInt8) : (rf l).dot = decide (46 ∈ l) := by
  induction l using snoc_ind with
  | h0 => simp [rf]
  | hs l c ih =>
    rw [rf_snoc]
    unfold rfStep
    by_cases h : c = 46
    · simp [h]
    · have h' : ¬ (46 : UInt8) = c := fun e => h e.symm
      split
      · contradiction
      · split <;> simp [ih, h']
theorem rf_dig (l : List UInt8) : (rf l).dig = decide (∃ c ∈ l, c ≠ 46) := by
  induction l using snoc_ind with
  | h0 => simp [rf]
  | hs l c ih =>
    rw [rf_snoc]
    unfold rfStep
    by_cases h : c = 46
    · subst h
      simp [ih]
    · split
      · contradiction
      · split <;> · symm; simp only [decide_eq_true_eq]; exact ⟨c, by simp, h⟩
structure NumText (l : List UInt8) : Prop where
  len : l.length ≤ 18
  head : ∃ c r, l = c :: r ∧ 48 ≤ c ∧ c ≤ 57
  signs : ∀ c ∈ l, c = 46 ∨ (48 ≤ c ∧ c ≤ 57)
  one : l.count 46 ≤ 1
def rfExp (l : List UInt8) : Int := if (rf l).m = 0 then 0 else if 46 ∈ l then (rf l).dp - (rf l).nd else 0
end Go.Proofs.YtlghdacdpkaoeaaGreatDoor
end
