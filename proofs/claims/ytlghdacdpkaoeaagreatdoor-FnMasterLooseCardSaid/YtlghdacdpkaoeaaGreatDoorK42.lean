import Derived.Test.YtlghdacdpkaoeaaGreatDoorK26
import Derived.Test.YtlghdacdpkaoeaaGreatDoorK11
import Derived.Test.YtlghdacdpkaoeaaGreatDoorK34
import Derived.BigQuiet
namespace Go.Proofs.YtlghdacdpkaoeaaGreatDoor
open Go.RowKit Go.Proofs.YtlghdacdpkaoeaaGreatDoorW.PrintWords Go.Maps
open Go.Lib hiding intOf
set_option linter.unusedVariables false
set_option linter.unusedSimpArgs false
theorem nat_u32 (x : Int) (h : 0 ≤ x ∧ x < 4294967296) : ∃ h : Nat, x = h ∧ h < 4294967296 := ⟨x.toNat, by omega, by omega⟩
def GroupS (l : List UInt8) : Prop := l = [] ∨ l = [103] ∨ l = [104]
theorem group_calls (n : Nat) (w : World) : Calls Tryz.prog 10 #[.int .u32 n] w fun e w' => ∃ l, e = .returned (.string (bs l)) ∧ GroupS l ∧ Below w.heap.size w w' := by
  have h3 : n % 3 = 0 ∨ n % 3 = 1 ∨ n % 3 = 2 := by omega
  have h4 : ((n : Int) % 3) = ((n % 3 : Nat) : Int) := by omega
  rcases h3 with h3 | h3 | h3
  all_goals
    rw [h3] at h4
    go_enter Tryz.func10, Tryz.ntmps10
    go_wp2_with fail
    go_ret
  · exact ⟨[], rfl, .inl rfl, (Below.refl _ w).alloc (Nat.le_refl _) _⟩
  · exact ⟨[103], rfl, .inr (.inl rfl), (Below.refl _ w).alloc (Nat.le_refl _) _⟩
  · exact ⟨[104], rfl, .inr (.inr rfl), (Below.refl _ w).alloc (Nat.le_refl _) _⟩
theorem at_calls (M : Nat) (A : Option Addr) (n c k : Nat) (xs : List Int) (w : World) (hM : w.cell? ⟨M, 0, none⟩ = some (.slice A n c)) (hC : (Kd.int .u32).C w A n xs) (hxs : ∀ x ∈ xs, 0 ≤ x ∧ x < 4294967296) (hn : xs.length = n) (hl : n ≤ 100) (hk : k ≤ 20) :
    Calls Tryz.prog 9 #[.int .i64 k, .pointer (some ⟨M, 0, none⟩)] w fun e w' => ∃ h : Nat, e = .returned (.int .u32 h) ∧ h < 4294967296 ∧ Drawn0 w w' := by
  rcases Nat.eq_zero_or_pos n with h0 | h0
  · subst h0
    clear hC
    obtain ⟨h, hh, hlt⟩ := nat_u32 ((k : Int) * 2654435761 % 4294967296) (by omega)
    go_enter Tryz.func9, Tryz.ntmps9
    go_wp2_with fail
    go_ret
    exact ⟨h, by rw [← hh]; rfl, hlt, Drawn0.refl _⟩
  · have hkn : k % n < n := Nat.mod_lt _ h0
    obtain ⟨ad, rfl, hc⟩ := Kd.at_int hC ((k % n : Nat) : Int) (by omega) (by omega)
    have hx : ∃ x : Nat, rd xs ((k % n : Nat) : Int) = x ∧ x < 4294967296 := by
      refine nat_u32 _ ?_
      have e : rd xs ((k % n : Nat) : Int) = xs[k % n]'(by omega) := by
        rw [rd, show (((k % n : Nat) : Int)).toNat = k % n by omega, List.getD_eq_getElem?_getD, List.getElem?_eq_getElem (by omega)]; rfl
      rw [e]
      exact hxs _ (List.getElem_mem _)
    obtain ⟨x, hx, hxl⟩ := hx
    rw [hx] at hc
    have hn0 : ¬ n = 0 := by omega
    have hne : ((n : Int) == 0) = false := by simp; omega
    have hb0 : (0 : Int) ≤ (k : Int) % n := by omega
    have hb1 : (k : Int) % n < n := Int.emod_lt_of_pos _ (by omega)
    have hc2 : w.cell? (ad.add ((k : Int) % n).toNat) = some (.int .u32 x) := by
      rw [show (k : Int) % n = ((k % n : Nat) : Int) by omega]; exact hc
    have hc3 : w.cell? (ad.add (k % n)) = some (.int .u32 x) := hc
    have hq0 : (0 : Int) ≤ (k : Int) / n := Int.ediv_nonneg (by omega) (by omega)
    have hq1 : (k : Int) / n ≤ 20 := by
      have : (k : Int) / n ≤ k := Int.ediv_le_self _ (by omega)
      omega
    have hw2 := IntWalk.i64_in ((k : Int) / n) (by omega)
    clear hc hx hC
    go_enter Tryz.func9, Tryz.ntmps9
    go_wp2_with fail
    go_quiet (fail)
    go_wp2_with fail
    obtain ⟨h, hh, hlt⟩ := nat_u32 (((x : Int) + (k : Int) / n * 40503) % 4294967296) (by omega)
    go_ret
    exact ⟨h, by rw [← hh]; rfl, hlt, ⟨_, rfl⟩⟩
end Go.Proofs.YtlghdacdpkaoeaaGreatDoor
