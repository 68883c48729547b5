import Derived.Test.YtlghdacdpkaoeaaGreatDoorK22
namespace Go.Proofs.YtlghdacdpkaoeaaGreatDoor
open Go.RowKit Go.Proofs.YtlghdacdpkaoeaaGreatDoorW.PrintWords Go.Maps
open Go.Lib hiding intOf
set_option linter.unusedVariables false
set_option linter.unusedSimpArgs false
def dval (l : List UInt8) (acc : Nat) : Nat := l.foldl (fun a c => a * 10 + (c.toNat - 48)) acc
def Digits (l : List UInt8) : Prop := ∀ c ∈ l, 48 ≤ c ∧ c ≤ 57
theorem ne46 {c : UInt8} (h : 48 ≤ c) : c ≠ 46 := by rintro rfl; exact absurd h (by decide)
theorem rf_digits : ∀ (l : List UInt8) (s : RF), Digits l → (s.nd = 0 → s.m = 0) →
    (l.foldl rfStep s).m = dval l s.m ∧ ((l.foldl rfStep s).nd = 0 → (l.foldl rfStep s).m = 0) ∧ (l.foldl rfStep s).dp - (l.foldl rfStep s).nd = s.dp - s.nd - l.length ∧ (l.foldl rfStep s).dot = s.dot
  | [], s, _, h0 => ⟨rfl, h0, by simp, rfl⟩
  | c :: r, s, hd, h0 => by
    have hc := hd c (by simp)
    have hr : Digits r := fun x hx => hd x (by simp [hx])
    have key : (rfStep s c).m = s.m * 10 + (c.toNat - 48) ∧ ((rfStep s c).nd = 0 → (rfStep s c).m = 0) ∧ (rfStep s c).dp - (rfStep s c).nd = s.dp - s.nd - 1 ∧ (rfStep s c).dot = s.dot := by
      unfold rfStep
      rw [if_neg (ne46 hc.1)]
      split
      · rename_i h
        obtain ⟨rfl, hn⟩ := h
        have hm := h0 hn
        refine ⟨?_, fun _ => hm, ?_, rfl⟩
        · simp [hm]
        · simp; omega
      · refine ⟨rfl, fun h => by simp at h, ?_, rfl⟩
        simp; omega
    obtain ⟨h1, h2, h3, h4⟩ := key
    obtain ⟨g1, g2, g3, g4⟩ := rf_digits r (rfStep s c) hr h2
    refine ⟨?_, g2, ?_, by rw [List.foldl_cons, g4, h4]⟩
    · rw [List.foldl_cons, g1, h1]; rfl
    · rw [List.foldl_cons, g3, h3]; simp; omega
theorem dval_append (a b : List UInt8) (acc : Nat) : dval (a ++ b) acc = dval b (dval a acc) := by simp [dval]
theorem dec_digits (n : Nat) : Digits (decDigits n) := by
  induction n using Nat.strongRecOn with
  | _ n ih =>
    have one : ∀ d : Nat, d < 10 → (48 : UInt8) ≤ UInt8.ofNat (48 + d) ∧ UInt8.ofNat (48 + d) ≤ 57 := by
      intro d hd
      have : ∀ i : Fin 10, (48 : UInt8) ≤ UInt8.ofNat (48 + i.val) ∧ UInt8.ofNat (48 + i.val) ≤ 57 := by decide
      exact this ⟨d, hd⟩
    by_cases h : n < 10
    · rw [decDigits_lt h]; intro c hc; rw [List.mem_singleton.1 hc]; exact one n h
    · rw [decDigits_ge h]
      intro c hc
      rcases List.mem_append.1 hc with hc | hc
      · exact ih (n / 10) (by omega) c hc
      · rw [List.mem_singleton.1 hc]; exact one _ (by omega)
theorem dval_dec (n : Nat) : ∀ acc, dval (decDigits n) acc = acc * 10 ^ (decDigits n).length + n := by
  induction n using Nat.strongRecOn with
  | _ n ih =>
    intro acc
    have one : ∀ d : Nat, d < 10 → (UInt8.ofNat (48 + d)).toNat - 48 = d := by
      intro d hd
      have : ∀ i : Fin 10, (UInt8.ofNat (48 + i.val)).toNat - 48 = i.val := by decide
      exact this ⟨d, hd⟩
    by_cases h : n < 10
    · rw [decDigits_lt h]; simp only [dval, List.foldl_cons, List.foldl_nil, one n h]; simp
    · rw [decDigits_ge h, dval_append, ih (n / 10) (by omega)]
      simp only [dval, List.foldl_cons, List.foldl_nil, one (n % 10) (by omega), List.length_append, List.length_cons, List.length_nil]
      rw [Nat.pow_succ, Nat.add_mul, Nat.mul_assoc]
      omega
theorem dec_len1 {n : Nat} (h : n < 10) : (decDigits n).length = 1 := by rw [decDigits_lt h]; rfl
def secText (k : Nat) : List UInt8 := decDigits (k / 8) ++ 46 :: (decDigits (k % 8 * 125 / 100) ++ decDigits (k % 8 * 125 / 10 % 10) ++ decDigits (k % 8 * 125 % 10))
theorem rf_sec (k : Nat) : (rf (secText k)).m = 125 * k ∧ rfExp (secText k) = if k = 0 then 0 else -3 := by
  have h8 : k % 8 < 8 := Nat.mod_lt _ (by decide)
  have d1 : k % 8 * 125 / 100 < 10 := by omega
  have d2 : k % 8 * 125 / 10 % 10 < 10 := by omega
  have d3 : k % 8 * 125 % 10 < 10 := by omega
  unfold rfExp rf secText
  rw [List.foldl_append, List.foldl_cons]
  obtain ⟨g1, g2, g3, g4⟩ := rf_digits (decDigits (k / 8)) ⟨0, 0, 0, false, false⟩ (dec_digits _) (fun _ => rfl)
  generalize hs : (decDigits (k / 8)).foldl rfStep ⟨0, 0, 0, false, false⟩ = s at *
  have hp : rfStep s 46 = { s with dot := true, dp := s.nd } := by simp [rfStep]
  rw [hp]
  have hD : Digits (decDigits (k % 8 * 125 / 100) ++ decDigits (k % 8 * 125 / 10 % 10) ++ decDigits (k % 8 * 125 % 10)) := by
    intro c hc
    simp only [List.mem_append] at hc
    rcases hc with (hc | hc) | hc <;> exact dec_digits _ c hc
  obtain ⟨e1, e2, e3, e4⟩ := rf_digits _ { s with dot := true, dp := s.nd } hD g2
  have hm : dval (decDigits (k % 8 * 125 / 100) ++ decDigits (k % 8 * 125 / 10 % 10) ++ decDigits (k % 8 * 125 % 10)) s.m = 125 * k := by
    rw [dval_append, dval_append, dval_dec, dval_dec, dval_dec, dec_len1 d1, dec_len1 d2, dec_len1 d3, g1, dval_dec]
    simp; omega
  have hmm := e1.trans hm
  refine ⟨hmm, ?_⟩
  rw [hmm]
  by_cases h : k = 0
  · rw [if_pos (by omega), if_pos h]
  · rw [if_neg (by omega), if_neg h, if_pos (by simp)]
    rw [e3]
    simp only [List.length_append, dec_len1 d1, dec_len1 d2, dec_len1 d3]
    omega
def eighthBits (k : Nat) : Nat := (floatBits .quo .f64 (floatOfInt .f64 k) (floatOfInt .f64 8)).getD 0
theorem sec_bits : ∀ k : Fin 1001, pfBits (125 * k.val) (if k.val = 0 then 0 else 3) = some (eighthBits k.val) := by decide +kernel
theorem numText_sec (k : Nat) (h : k < 1001) : NumText (secText k) where
  len := by
    have h8 : k % 8 < 8 := Nat.mod_lt _ (by decide)
    have := decDigits_len1 2 (k / 8) (by omega)
    simp only [secText, List.length_append, List.length_cons, dec_len1 (show k % 8 * 125 / 100 < 10 by omega), dec_len1 (show k % 8 * 125 / 10 % 10 < 10 by omega), dec_len1 (show k % 8 * 125 % 10 < 10 by omega)]
    omega
  head := by
    cases hd : decDigits (k / 8) with
    | nil => exact absurd hd (decDigits_ne _)
    | cons c r => exact ⟨c, r ++ 46 :: (decDigits (k % 8 * 125 / 100) ++ decDigits (k % 8 * 125 / 10 % 10) ++ decDigits (k % 8 * 125 % 10)), by simp [secText, hd], dec_digits (k / 8) c (by rw [hd]; simp)⟩
  signs := by
    intro c hc
    simp only [secText, List.mem_append, List.mem_cons] at hc
    rcases hc with hc | hc | (hc | hc) | hc
    · exact .inr (dec_digits _ c hc)
    · exact .inl hc
    all_goals exact .inr (dec_digits _ c hc)
  one := by
    have z : ∀ n, (decDigits n).count 46 = 0 := fun n => List.count_eq_zero.2 (fun h => ne46 (dec_digits n 46 h).1 rfl)
    simp [secText, z]
theorem ParseFloat_sec {N : Nat} (k : Nat) (h : k < 1001) (w : World) (hB : Base N w) :
    Calls Tryz.prog 53 #[.string (bs (secText k)), .int .i64 64] w fun en w' => en = .returned (.tuple #[.float .f64 (eighthBits k), .nilIface]) ∧ w = w' := by
  obtain ⟨h1, h2⟩ := rf_sec k
  refine ParseFloat_calls (secText k) (numText_sec k h) (if k = 0 then 0 else 3) _ (by split <;> omega) ?_ (by rw [h1]; omega) ?_ w hB
  · rw [h2]; split <;> rfl
  · rw [h1]; exact sec_bits ⟨k, h⟩
end Go.Proofs.YtlghdacdpkaoeaaGreatDoor
