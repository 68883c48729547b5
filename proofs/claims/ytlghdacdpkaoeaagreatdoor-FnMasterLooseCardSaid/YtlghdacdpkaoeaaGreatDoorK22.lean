import Derived.Test.YtlghdacdpkaoeaaGreatDoorK21
import Derived.Test.YtlghdacdpkaoeaaGreatDoorK14
import Derived.Laws.FloatArith
section
namespace Go.Proofs.YtlghdacdpkaoeaaGreatDoor
open Go.RowKit Go.Proofs.YtlghdacdpkaoeaaGreatDoorW.PrintWords Go.Maps
open Go.Lib hiding intOf
set_option linter.unusedVariables false
set_option linter.unusedSimpArgs false
set_option maxRecDepth 100000 in
set_option maxHeartbeats 4000000 in
theorem special_walk (T : ByteArray) (h0 : 0 < T.size) (hd : 46 ≤ (T[0].toNat : Int) ∧ (T[0].toNat : Int) ≤ 57) (w : World) (hd43 : 48 ≤ (T[0].toNat : Int)) :
    Calls Tryz.prog 121 #[.string T] w fun e w' => e = .returned (.tuple #[.float .f64 0, .int .i64 0, .bool false]) ∧ w = w' := by
  have hE : ¬ T = ByteArray.empty := by
    intro e; rw [e] at h0; exact absurd h0 (by decide)
  have b1 : ((T[0].toNat : Int) == 43) = false := by rw [beq_eq_false_iff_ne]; omega
  have b2 : ((T[0].toNat : Int) == 45) = false := by rw [beq_eq_false_iff_ne]; omega
  have b3 : ((T[0].toNat : Int) == 105) = false := by rw [beq_eq_false_iff_ne]; omega
  have b4 : ((T[0].toNat : Int) == 73) = false := by rw [beq_eq_false_iff_ne]; omega
  have b5 : ((T[0].toNat : Int) == 110) = false := by rw [beq_eq_false_iff_ne]; omega
  have b6 : ((T[0].toNat : Int) == 78) = false := by rw [beq_eq_false_iff_ne]; omega
  go_enter Tryz.func121, Tryz.ntmps121
  go_wp2_with fail
  go_returns
  exact ⟨rfl, rfl⟩
def pfBits (m e : Nat) : Option Nat := if m = 0 then some 0 else if e = 0 then some (floatOfInt .f64 m) else floatBits .quo .f64 (floatOfInt .f64 m) (pow10s.getD e 0)
theorem ret_fb {a b : Nat} (h : a = b) : Ending.returned (.tuple #[.float .f64 a, .bool true]) = .returned (.tuple #[.float .f64 b, .bool true]) := by rw [h]
set_option maxRecDepth 100000 in
set_option maxHeartbeats 4000000 in
theorem exact_walk {N : Nat} (m e r : Nat) (hm : Hid (m < 4503599627370496)) (h0 : ¬ m = 0) (he : e ≤ 3) (hr : Hid (pfBits m e = some r)) (w : World) (hB : Base N w) :
    Calls Tryz.prog 132 #[.int .u64 m, .int .i64 (-(e : Int)), .bool false] w fun en w' => en = .returned (.tuple #[.float .f64 r, .bool true]) ∧ w = w' := by
  have c1 := hB.info
  obtain ⟨pb, po, c, c2, _, c3⟩ := hB.pow
  have hq : ∀ x, e ≠ 0 → pow10s[e]? = some x → (binOp .quo 38 (.float .f64 (floatOfInt .f64 m)) (.float .f64 x)).run Tryz.prog w = .ok (.float .f64 r) w := by
    intro x h1 h2
    refine run_float_arith w .quo _ .f64 _ x r ?_
    have := hr.out
    unfold pfBits at this
    rw [if_neg h0, if_neg h1, List.getD_eq_getElem?_getD, h2] at this
    exact this
  have hz : e = 0 → floatOfInt .f64 m = r := by
    rintro rfl
    have := hr.out
    unfold pfBits at this
    rw [if_neg h0, if_pos rfl] at this
    exact Option.some.inj this
  have hd : ((m : Int) / 4503599627370496 != 0) = false := by
    have := hm.out
    have e1 : (m : Int) / 4503599627370496 = 0 := Int.ediv_eq_zero_of_lt (by omega) (by omega)
    rw [e1]; rfl
  have hcase : e = 0 ∨ e = 1 ∨ e = 2 ∨ e = 3 := by omega
  have HZ := Lib.hid hz
  clear hB he hr hm h0 hz
  rcases hcase with rfl | rfl | rfl | rfl
  · clear hq c3
    go_enter Tryz.func132, Tryz.ntmps132
    go_wp2_with fail
    go_returns
    exact ⟨ret_fb (HZ.out trivial), rfl⟩
  · have q := hq 4621819117588971520 (by decide) rfl
    have c4 := c3 1 4621819117588971520 rfl
    clear hq c3
    go_enter Tryz.func132, Tryz.ntmps132
    go_wp2_with fail
    go_returns
    exact ⟨rfl, rfl⟩
  · have q := hq 4636737291354636288 (by decide) rfl
    have c4 := c3 2 4636737291354636288 rfl
    clear hq c3
    go_enter Tryz.func132, Tryz.ntmps132
    go_wp2_with fail
    go_returns
    exact ⟨rfl, rfl⟩
  · have q := hq 4652007308841189376 (by decide) rfl
    have c4 := c3 3 4652007308841189376 rfl
    clear hq c3
    go_enter Tryz.func132, Tryz.ntmps132
    go_wp2_with fail
    go_returns
    exact ⟨rfl, rfl⟩
theorem head_digit {l : List UInt8} (h : NumText l) : 0 < (bs l).size ∧ ∀ h0 : 0 < (bs l).size, 48 ≤ ((bs l)[0].toNat : Int) ∧ ((bs l)[0].toNat : Int) ≤ 57 := by
  obtain ⟨c, r, e, h1, h2⟩ := h.head
  subst e
  refine ⟨by rw [bs_size]; simp, fun h0 => ?_⟩
  rw [bs_get h0]
  simp only [List.getElem_cons_zero, UInt8.le_iff_toNat_le] at *
  have a1 : (48 : UInt8).toNat = 48 := rfl
  have a2 : (57 : UInt8).toNat = 57 := rfl
  omega
set_option maxRecDepth 100000 in
set_option maxHeartbeats 4000000 in
theorem atof64_walk {N : Nat} (l : List UInt8) (h : NumText l) (e r : Nat) (he : e ≤ 3) (hx : rfExp l = -(e : Int)) (hm : (rf l).m < 4503599627370496) (hr : pfBits (rf l).m e = some r) (w : World) (hB : Base N w) :
    Calls Tryz.prog 113 #[.string (bs l)] w fun en w' => en = .returned (.tuple #[.float .f64 r, .int .i64 l.length, .nilIface]) ∧ w = w' := by
  obtain ⟨h0, hd⟩ := head_digit h
  have hd' := hd h0
  have HSp := Lib.hid (fun W => special_walk (bs l) h0 ⟨by omega, hd'.2⟩ W hd'.1)
  have HR := Lib.hid (fun W => readFloat_walk l h (bs l) rfl W)
  rw [hx] at HR
  have co := hB.opt
  have HB := Lib.hid hB
  have HM := Lib.hid hm
  have HRr := Lib.hid hr
  by_cases hm0 : (rf l).m = 0
  · have hr0 : r = 0 := by
      unfold pfBits at hr; rw [if_pos hm0] at hr; exact (Option.some.inj hr).symm
    subst hr0
    rw [hm0] at HR
    have hfb : (callFunc 131 #[.int .u64 (bits BinOp.or .u64 0 0)]).run Tryz.prog w = .ok (.value (.float .f64 0)) w := by kernel_rfl
    clear hr hB hm hm0 hx h hd hd' h0 HRr HM
    go_enter Tryz.func113, Tryz.ntmps113
    go_wp2_with (first
      | (go_at_call 121; refine (HSp.out _).mono ?_; rintro en w' ⟨rfl, rfl⟩)
      | (go_at_call 122; refine (HR.out _).mono ?_; rintro en w' ⟨rfl, rfl⟩)
      | go_in)
    go_returns
    exact ⟨rfl, rfl⟩
  · have hn0 : (((rf l).m : Int) == 0) = false := by rw [beq_eq_false_iff_ne]; omega
    have HEx := Lib.hid (exact_walk (N := N) (rf l).m e r HM hm0 he HRr w hB)
    generalize hmm : (rf l).m = m at *
    have b1 : ¬ (310 < -(e : Int)) := by omega
    have b2 : ¬ (-(e : Int) < -345) := by omega
    clear hr hB hm hm0 hx h hd hd' h0 HRr HM hmm
    go_enter Tryz.func113, Tryz.ntmps113
    go_wp2_with (first
      | (go_at_call 121; refine (HSp.out _).mono ?_; rintro en w' ⟨rfl, rfl⟩)
      | (go_at_call 122; refine (HR.out _).mono ?_; rintro en w' ⟨rfl, rfl⟩)
      | (go_at_call 132; refine HEx.out.mono ?_; rintro en w' ⟨rfl, rfl⟩)
      | go_in)
    go_returns
    exact ⟨rfl, rfl⟩
set_option maxRecDepth 100000 in
set_option maxHeartbeats 4000000 in
theorem prefix_walk {N : Nat} (l : List UInt8) (h : NumText l) (e r : Nat) (he : e ≤ 3) (hx : rfExp l = -(e : Int)) (hm : (rf l).m < 4503599627370496) (hr : pfBits (rf l).m e = some r) (w : World) (hB : Base N w) :
    Calls Tryz.prog 73 #[.string (bs l), .int .i64 64] w fun en w' => en = .returned (.tuple #[.float .f64 r, .nilIface]) ∧ w = w' := by
  have HA := Lib.hid (atof64_walk l h e r he hx hm hr w hB)
  have hs := Lib.hid (bs_size l)
  have hne : ((l.length : Int) != ((bs l).size : Int)) = false := by rw [bs_size]; simp
  clear hx hm hr hB h
  go_enter Tryz.func73, Tryz.ntmps73
  go_wp2_with (first
    | (go_at_call 113; refine HA.out.mono ?_; rintro en w' ⟨rfl, rfl⟩)
    | go_in)
  go_returns
  exact ⟨rfl, rfl⟩
set_option maxRecDepth 100000 in
set_option maxHeartbeats 4000000 in
theorem ParseFloat_calls {N : Nat} (l : List UInt8) (h : NumText l) (e r : Nat) (he : e ≤ 3) (hx : rfExp l = -(e : Int)) (hm : (rf l).m < 4503599627370496) (hr : pfBits (rf l).m e = some r) (w : World) (hB : Base N w) :
    Calls Tryz.prog 53 #[.string (bs l), .int .i64 64] w fun en w' => en = .returned (.tuple #[.float .f64 r, .nilIface]) ∧ w = w' := by
  have HA := Lib.hid (prefix_walk l h e r he hx hm hr w hB)
  clear hx hm hr hB h
  go_enter Tryz.func53, Tryz.ntmps53
  go_wp2_with (first
    | (go_at_call 73; refine HA.out.mono ?_; rintro en w' ⟨rfl, rfl⟩)
    | go_in)
  go_returns
  exact ⟨rfl, rfl⟩
end Go.Proofs.YtlghdacdpkaoeaaGreatDoor
end
section
namespace Go.Proofs.YtlghdacdpkaoeaaGreatDoor
open Go.RowKit Go.Proofs.YtlghdacdpkaoeaaGreatDoorW.PrintWords Go.Maps
open Go.Lib hiding intOf
set_option linter.unusedVariables false
set_option linter.unusedSimpArgs false
theorem decFrom_append (a b : List UInt8) : ∀ (acc n : Nat), Lib.decFrom acc a = some n → Lib.decFrom acc (a ++ b) = Lib.decFrom n b := by
  induction a with
  | nil => intro acc n h; simp [Lib.decFrom] at h; subst h; rfl
  | cons c r ih =>
    intro acc n h
    simp only [Lib.decFrom, List.cons_append] at h ⊢
    cases hd : Lib.digitVal c with
    | none => simp [hd] at h
    | some d => simp only [hd] at h ⊢; exact ih _ _ h
theorem digitVal_of (d : Nat) (h : d < 10) : Lib.digitVal (UInt8.ofNat (48 + d)) = some d := by
  have : ∀ i : Fin 10, Lib.digitVal (UInt8.ofNat (48 + i.val)) = some i.val := by decide
  exact this ⟨d, h⟩
theorem decFrom_dec (n : Nat) : Lib.decFrom 0 (decDigits n) = some n := by
  induction n using Nat.strongRecOn with
  | _ n ih =>
    by_cases h : n < 10
    · rw [decDigits_lt h]
      simp only [Lib.decFrom]; rw [digitVal_of n h]; simp
    · have h0 : 10 ≤ n := by omega
      rw [decDigits_ge h, decFrom_append _ _ 0 (n / 10) (ih (n / 10) (by omega))]
      simp only [Lib.decFrom]; rw [digitVal_of (n % 10) (by omega)]
      simp only [Option.some.injEq]; omega
theorem atoi_dec (n : Nat) : Lib.atoi (decDigits n) = some (n : Int) := by
  have h := decFrom_dec n
  cases hd : decDigits n with
  | nil => exact absurd hd (decDigits_ne n)
  | cons c r =>
    rw [hd] at h
    have hc : Lib.digitVal c ≠ none := by
      intro e; simp [Lib.decFrom, e] at h
    have h1 : (c == 45) = false := by
      cases e : c == 45 with
      | false => rfl
      | true => have : c = 45 := by simpa using e
                subst this; exact absurd rfl hc
    have h2 : (c == 43) = false := by
      cases e : c == 43 with
      | false => rfl
      | true => have : c = 43 := by simpa using e
                subst this; exact absurd rfl hc
    simp [Lib.atoi, h1, h2, Lib.decNat, h]
theorem Atoi_calls (n : Nat) (w : World) (h : n < 1000000000000000000) :
    Calls Tryz.prog 52 #[.string (bs (decDigits n))] w fun e w' => e = .returned (.tuple #[.int .i64 n, .nilIface]) ∧ Below w.heap.size w w' := by
  have hl : (decDigits n).length ≤ 18 := decDigits_len1 17 n h
  refine (Tryz.strconv_Atoi (bs (decDigits n)) n (by rw [bs_size]; exact hl) (by rw [bs_toList]; exact atoi_dec n) w).mono ?_
  rintro e w' ⟨rfl, t, rfl⟩
  exact ⟨rfl, bytesWorld_below _ _ _⟩
end Go.Proofs.YtlghdacdpkaoeaaGreatDoor
end
