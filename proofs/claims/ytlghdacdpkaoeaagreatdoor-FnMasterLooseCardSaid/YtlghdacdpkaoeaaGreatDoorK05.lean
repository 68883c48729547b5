import Derived.Test.YtlghdacdpkaoeaaGreatDoorProg
import Derived.Test.YtlghdacdpkaoeaaGreatDoorK04
import Derived.Laws.Runes
import Derived.Lib.ItoaNum
import Derived.Lib.Atoi
import Derived.WalkKit
import Derived.Deep.LoopGhost
import Derived.BigQuiet
import Derived.OwnWalk
import Derived.Lib.Hide
import Derived.Outline
import Derived.Handy
section
namespace Go.Proofs.YtlghdacdpkaoeaaGreatDoor
open Go.RowKit Go.Proofs.YtlghdacdpkaoeaaGreatDoorW.PrintWords Go.Lib
set_option linter.unusedVariables false
set_option linter.unusedSimpArgs false
def bs (l : List UInt8) : ByteArray := ⟨l.toArray⟩
theorem bs_size (l : List UInt8) : (bs l).size = l.length := by simp [bs, ByteArray.size]
theorem bs_append (a b : List UInt8) : bs a ++ bs b = bs (a ++ b) := by
  apply ByteArray.ext; simp [bs]
theorem bs_toList (l : List UInt8) : (bs l).data.toList = l := by simp [bs]
theorem bs_of (s : ByteArray) : bs s.data.toList = s := by apply ByteArray.ext; simp [bs]
theorem ret_str {a b : ByteArray} (h : a = b) : Ending.returned (.string a) = .returned (.string b) := by rw [h]
theorem ret_int {k : IntKind} {a b : Int} (h : a = b) : Ending.returned (.int k a) = .returned (.int k b) := by rw [h]
theorem encode_small (n : Nat) (h : n < 128) : Utf8.encode (n : Int) = bs [UInt8.ofNat n] := by
  unfold Utf8.encode
  have hv : Utf8.valid (n : Int) = true := by simp [Utf8.valid]; omega
  simp only [hv, if_true, Int.toNat_natCast]
  rw [if_pos h]; rfl
theorem decDigits_lt {n : Nat} (h : n < 10) : decDigits n = [UInt8.ofNat (48 + n)] := by rw [decDigits, dif_pos h]
theorem decDigits_ge {n : Nat} (h : ¬ n < 10) : decDigits n = decDigits (n / 10) ++ [UInt8.ofNat (48 + n % 10)] := by rw [decDigits, dif_neg h]
theorem decDigits_len1 (k : Nat) : ∀ n : Nat, n < 10 ^ (k + 1) → (decDigits n).length ≤ k + 1 := by
  induction k with
  | zero => intro n h; rw [decDigits_lt (by omega)]; simp
  | succ k ih =>
    intro n h
    by_cases h1 : n < 10
    · rw [decDigits_lt h1]; simp
    · rw [decDigits_ge h1]
      have := ih (n / 10) (by rw [Nat.pow_succ] at h; omega)
      simp; omega
def U64 (n : Nat) : Prop := n < 18446744073709551616
theorem U64.div {n : Nat} (h : U64 n) : U64 (n / 10) := by unfold U64 at *; omega
theorem U64.len {n : Nat} (h : U64 n) : (decDigits n).length ≤ 20 := decDigits_len1 19 n (by unfold U64 at h; omega)
theorem u64_in (n : Int) (h0 : 0 ≤ n) (h : n < 18446744073709551616) : IntKind.u64.wrap n = n := by
  rw [IntKind.wrap_u64]; omega
theorem dig_enc (a0 : Int) (n : Nat) (h : a0 = n) (h0 : n < 10) : Utf8.encode (wrap32 (IntKind.u64.wrap (48 + a0))) = bs (decDigits n) := by
  subst h
  rw [u64_in _ (by omega) (by omega), decDigits_lt h0]
  have : wrap32 (48 + (n : Int)) = ((48 + n : Nat) : Int) := by unfold wrap32; omega
  rw [this]; exact encode_small _ (by omega)
theorem dig_div (a0 : Int) (n : Nat) (h : a0 = n) (h64 : U64 n) : IntKind.u64.wrap (Int.tdiv a0 10) = ((n / 10 : Nat) : Int) := by
  subst h
  have : Int.tdiv (n : Int) 10 = ((n / 10 : Nat) : Int) := by rw [Int.tdiv_eq_ediv_of_nonneg (by omega)]; omega
  rw [this]; unfold U64 at h64; exact u64_in _ (by omega) (by omega)
theorem dig_mod (a0 : Int) (n : Nat) (h : a0 = n) : Utf8.encode (wrap32 (IntKind.u64.wrap (48 + Int.tmod a0 10))) = bs [UInt8.ofNat (48 + n % 10)] := by
  subst h
  have e : Int.tmod (n : Int) 10 = ((n % 10 : Nat) : Int) := by rw [Int.tmod_eq_emod_of_nonneg (by omega)]; omega
  rw [e, u64_in _ (by omega) (by omega)]
  have : wrap32 (48 + ((n % 10 : Nat) : Int)) = ((48 + n % 10 : Nat) : Int) := by unfold wrap32; omega
  rw [this]; exact encode_small _ (by omega)
set_option maxHeartbeats 1000000 in
set_option maxRecDepth 100000 in
theorem Decimal_calls (j : Nat) : ∀ (a0 : Int) (n : Nat) (w : World), Hid (a0 = n) → Hid (n < 10 ^ j) → U64 n →
    Calls Tryz.prog 11 #[.int .u64 a0] w fun e w' => e = .returned (.string (bs (decDigits n))) ∧ Drawn0 w w' := by
  induction j with
  | zero =>
    intro a0 n w ha h h64
    have e1 := Lib.hid (dig_enc a0 n ha.out (by have := h.out; omega))
    have c : decide (a0 < 10) = true := decide_eq_true (by have := h.out; have := ha.out; omega)
    go_enter Tryz.func11, Tryz.ntmps11
    go_wp2
    go_ret
    exact ⟨ret_str e1.out, Drawn0.refl _⟩
  | succ j ih =>
    intro a0 n w ha h h64
    by_cases h0 : n < 10
    · have e1 := Lib.hid (dig_enc a0 n ha.out h0)
      have c : decide (a0 < 10) = true := decide_eq_true (by have := ha.out; omega)
      clear h0
      go_enter Tryz.func11, Tryz.ntmps11
      go_wp2
      go_ret
      exact ⟨ret_str e1.out, Drawn0.refl _⟩
    · have hl := h64.len
      have e0 := decDigits_ge h0
      have hl' : (decDigits (n / 10)).length ≤ 19 := by rw [e0] at hl; simp at hl; omega
      have E0 := Lib.hid e0
      have E1 := Lib.hid (dig_mod a0 n ha.out)
      have E2 := Lib.hid (dig_div a0 n ha.out h64)
      have c : decide (a0 < 10) = false := decide_eq_false (by have := ha.out; omega)
      have hq := Lib.hid (show n / 10 < 10 ^ j by have := h.out; rw [Nat.pow_succ] at this; omega)
      have HL := Lib.hid hl'
      clear e0 hl hl' h0
      have IH := Lib.hid ih
      clear ih
      go_enter Tryz.func11, Tryz.ntmps11
      go_wp2_with fail
      refine (IH.out _ _ _ E2 hq h64.div).mono ?_
      rintro e w1 ⟨rfl, ⟨q, rfl⟩⟩
      have hsz : (9223372036854775807 < (bs (decDigits (n / 10))).size + (Utf8.encode (wrap32 (IntKind.u64.wrap (48 + a0.tmod 10)))).size) = False := eq_false (by
        rw [E1.out, bs_size, bs_size]; have := HL.out; simp; omega)
      go_wp2_with fail
      go_ret
      exact ⟨ret_str (by rw [E1.out, bs_append, ← E0.out]), ⟨q, rfl⟩⟩
def alphabet : List UInt8 := [97, 98, 99, 100, 101, 102, 103, 88, 89, 90, 48, 49, 56, 57, 46, 95, 45, 47, 32, 58]
def Inner (l : List UInt8) : Prop := ∀ c ∈ l, c ∈ alphabet
structure Word (l : List UInt8) (m : Nat) : Prop where
  len : l.length ≤ m
  signs : ∀ c ∈ l, c ∈ alphabet ∨ c = 119
  head : l.head? ≠ some 32
  last : l.getLast? ≠ some 32
theorem enc_size (r : Int) : (Utf8.encode r).size ≤ 4 := by
  unfold Utf8.encode
  simp only
  repeat' split
  all_goals simp [ByteArray.size]
theorem enc_byte (c : UInt8) (h : c < 128) : Utf8.encode (wrap32 ((c.toNat : Nat) : Int)) = bs [c] := by
  have h1 : c.toNat < 128 := by simpa [UInt8.lt_iff_toNat_lt] using h
  have : wrap32 ((c.toNat : Nat) : Int) = ((c.toNat : Nat) : Int) := by unfold wrap32; omega
  rw [this, encode_small _ h1]; simp
theorem alphabet_lt {c : UInt8} (h : c ∈ alphabet) : c < 128 := by
  revert c; decide
theorem alphabet_at (i : Nat) (h : i < (⟨#[97, 98, 99, 100, 101, 102, 103, 88, 89, 90, 48, 49, 56, 57, 46, 95, 45, 47, 32, 58]⟩ : ByteArray).size) :
    (⟨#[97, 98, 99, 100, 101, 102, 103, 88, 89, 90, 48, 49, 56, 57, 46, 95, 45, 47, 32, 58]⟩ : ByteArray)[i] ∈ alphabet := by
  have h' : i < alphabet.length := h
  exact (show _ = alphabet[i] from rfl) ▸ List.getElem_mem h'
def InnerS (s : ByteArray) (k : Nat) : Prop := ∃ l, s = bs l ∧ l.length = k ∧ Inner l
theorem InnerS.step {s : ByteArray} {k : Nat} (h : InnerS s k) (i : Nat) (hi : i < (⟨#[97, 98, 99, 100, 101, 102, 103, 88, 89, 90, 48, 49, 56, 57, 46, 95, 45, 47, 32, 58]⟩ : ByteArray).size) :
    InnerS (s ++ Utf8.encode (wrap32 (((⟨#[97, 98, 99, 100, 101, 102, 103, 88, 89, 90, 48, 49, 56, 57, 46, 95, 45, 47, 32, 58]⟩ : ByteArray)[i]).toNat : Nat))) (k + 1) := by
  obtain ⟨l, rfl, hl, hin⟩ := h
  refine ⟨l ++ [(⟨#[97, 98, 99, 100, 101, 102, 103, 88, 89, 90, 48, 49, 56, 57, 46, 95, 45, 47, 32, 58]⟩ : ByteArray)[i]], ?_, by simp [hl], ?_⟩
  · rw [enc_byte _ (alphabet_lt (alphabet_at i hi)), bs_append]
  · intro c hc
    rcases List.mem_append.1 hc with hc | hc
    · exact hin c hc
    · rw [List.mem_singleton.1 hc]; exact alphabet_at i hi
theorem InnerS.size {s : ByteArray} {k : Nat} (h : InnerS s k) : s.size = k := by
  obtain ⟨l, rfl, hl, _⟩ := h; rw [bs_size, hl]
theorem not32 {c : UInt8} (h : ¬ ((c.toNat : Nat) : Int) = 32) : c ≠ 32 := fun e => h (by rw [e]; rfl)
theorem not32b {c : UInt8} (h : (((c.toNat : Nat) : Int) == 32) = false) : c ≠ 32 := not32 (by simpa using h)
theorem bs_get {l : List UInt8} {i : Nat} (h : i < (bs l).size) : (bs l)[i] = l[i]'(by simpa [bs_size] using h) := by
  show (bs l).data[i] = _
  simp [bs]
theorem InnerS.empty {s : ByteArray} {k m : Nat} (h : InnerS s k) (hk : k ≤ m) (he : s.toList = []) : ∃ l, s = bs l ∧ Word l m ∧ l.length = k := by
  obtain ⟨l, rfl, hl, hin⟩ := h
  have : l = [] := by
    have h0 : (bs l).size = 0 := by rw [ByteArray.toList_eq] at he; rw [bs_toList] at he; simp [he, bs_size]
    rw [bs_size] at h0; exact List.eq_nil_of_length_eq_zero h0
  subst this
  exact ⟨[], rfl, ⟨by simp, by simp, by simp, by simp⟩, hl⟩
theorem InnerS.wrapped {s : ByteArray} {k m : Nat} (h : InnerS s k) (hk : k + 2 ≤ m) : ∃ l, (⟨#[119]⟩ : ByteArray) ++ s ++ (⟨#[119]⟩ : ByteArray) = bs l ∧ Word l m ∧ k ≤ l.length := by
  obtain ⟨l, rfl, hl, hin⟩ := h
  refine ⟨[119] ++ l ++ [119], ?_, ⟨by simp; omega, ?_, by simp, ?_⟩, by simp; omega⟩
  · rw [← bs_append, ← bs_append]; rfl
  · intro c hc
    simp at hc
    rcases hc with hc | hc | hc
    · exact .inr hc
    · exact .inl (hin c hc)
    · exact .inr hc
  · rw [List.getLast?_append]; simp
theorem InnerS.plain {s : ByteArray} {k m : Nat} (h : InnerS s k) (hk : k ≤ m) (hp : 0 < s.size) (h0 : s[0] ≠ 32) (h1 : s[s.size - 1] ≠ 32) : ∃ l, s = bs l ∧ Word l m ∧ l.length = k := by
  obtain ⟨l, rfl, hl, hin⟩ := h
  rw [bs_get] at h0 h1
  have hl0 : 0 < l.length := by simpa [bs_size] using hp
  refine ⟨l, rfl, ⟨by omega, fun c hc => .inl (hin c hc), ?_, ?_⟩, hl⟩
  · cases l with
    | nil => simp
    | cons a r => simp at h0 ⊢; exact h0
  · rw [List.getLast?_eq_getElem?]
    simp only [bs_size] at h1
    rw [List.getElem?_eq_getElem (by omega)]
    intro e; exact h1 (Option.some.inj e)
set_option maxHeartbeats 1000000 in
set_option maxRecDepth 100000 in
theorem wordOf_calls (a0 : Int) (m : Nat) (w : World) (h0 : 0 ≤ a0) (hm : m ≤ 100) :
    Calls Tryz.prog 23 #[.int .u32 a0, .int .i64 m] w fun e w' => ∃ l, e = .returned (.string (bs l)) ∧ Word l (m + 14) ∧ m ≤ l.length ∧ Drawn0 w w' := by
  go_enter Tryz.func23, Tryz.ntmps23
  go_wp2
  go_loopw [5, 12] (fun v5 v12 wr => ∃ s : ByteArray, ∃ k : Nat, v5 = .string s ∧ v12 = .int .i64 k ∧ Hid (InnerS s k) ∧ s.size ≤ m + 12 ∧ (k : Int) ≤ m + a0 % 12 ∧ Drawn0 w wr) (fun _ i _ => (m + 12 - (intOf i).toNat))
  case atStart => exact ⟨_, 0, rfl, rfl, ⟨[], rfl, rfl, by simp [Inner]⟩, by simp [ByteArray.size], by simp; omega, Drawn0.refl _⟩
  case round =>
    obtain ⟨s, k, rfl, rfl, hin, hsz, hk, ⟨q, rfl⟩⟩ := hrel
    go_wp2
    · exfalso
      have h : ∃ x, 9223372036854775807 < s.size + (Utf8.encode x).size := ⟨_, by assumption⟩
      obtain ⟨x, hx⟩ := h
      have := enc_size x
      omega
    · go_roundw
      case rel => exact ⟨_, k + 1, rfl, by go_num, hin.out.step _ _, by rw [(hin.out.step _ _).size]; have := hin.out.size; omega, by omega, ⟨q, rfl⟩⟩
      case measure => simp [intOf]; omega
    · have he : s.toList = [] := by assumption
      go_ret
      obtain ⟨l, e, hw, hl⟩ := hin.out.empty (m := m + 14) (by omega) he
      exact ⟨l, ret_str e, hw, by omega, ⟨q, rfl⟩⟩
    · go_ret
      obtain ⟨l, e, hw, hl⟩ := hin.out.wrapped (m := m + 14) (by omega)
      exact ⟨l, ret_str e, hw, by omega, ⟨q, rfl⟩⟩
    · exfalso
      have h1 : ¬ s.toList = [] := by assumption
      have h2 : (!s.toList.isEmpty) = false := by assumption
      simp at h2; exact h1 h2
    · go_ret
      obtain ⟨l, e, hw, hl⟩ := hin.out.wrapped (m := m + 14) (by omega)
      exact ⟨l, ret_str e, hw, by omega, ⟨q, rfl⟩⟩
    · have hp : 0 < s.size := by assumption
      have h1 : ¬ s.toList = [] := by assumption
      have h3 : (!s.toList.isEmpty) = false ∨ ((s[0].toNat : Int) == 32) = false ∧ ((s[s.size - 1].toNat : Int) == 32) = false := by assumption
      go_ret
      rcases h3 with h3 | ⟨h3, h4⟩
      · simp at h3; exact absurd h3 h1
      · obtain ⟨l, e, hw, hl⟩ := hin.out.plain (m := m + 14) (by omega) hp (not32b h3) (not32b h4)
        exact ⟨l, ret_str e, hw, by omega, ⟨q, rfl⟩⟩
    · exfalso
      have h1 : ¬ s.toList = [] := by assumption
      have h2 : ¬ 0 < s.size := by assumption
      apply h1; rw [ByteArray.toList_eq]
      apply List.eq_nil_of_length_eq_zero
      have : s.data.size = s.size := rfl
      rw [Array.length_toList]; omega
set_option maxHeartbeats 1000000 in
set_option maxRecDepth 100000 in
theorem uriOf_calls (a0 : Int) (w : World) (h0 : 0 ≤ a0) :
    Calls Tryz.prog 12 #[.int .u32 a0] w fun e w' => ∃ l, e = .returned (.string (bs ([117] ++ l ++ [46, 116, 115]))) ∧ Word l 15 ∧ 1 ≤ l.length ∧ Drawn0 w w' := by
  have hc := Lib.hid (fun w => show Calls Tryz.prog 23 #[.int .u32 a0, .int .i64 1] w _ from wordOf_calls a0 1 w h0 (by omega))
  go_enter Tryz.func12, Tryz.ntmps12
  go_wp2_with fail
  refine (hc.out _).mono ?_
  rintro e w1 ⟨l, rfl, hw, hl, ⟨q, rfl⟩⟩
  have hsz := hw.len
  have h1 : (bs l).size ≤ 100 := by rw [bs_size]; omega
  go_wp2
  go_ret
  exact ⟨l, ret_str (by rw [show (⟨#[117]⟩ : ByteArray) = bs [117] from rfl, show (⟨#[46, 116, 115]⟩ : ByteArray) = bs [46, 116, 115] from rfl, bs_append, bs_append]; simp), hw, hl, ⟨q, rfl⟩⟩
end Go.Proofs.YtlghdacdpkaoeaaGreatDoor
end
section
namespace Go
theorem lit_size (l : List UInt8) : (⟨l.toArray⟩ : ByteArray).size = l.length := by simp [ByteArray.size]
end Go
end
