import Derived.Test.YtlghdacdpkaoeaaGreatDoorK13
import Derived.Test.YtlghdacdpkaoeaaGreatDoorK11
import Derived.Handy
import Derived.Lib.SlBytesRow
import Derived.Laws.IdiomStrings
import Derived.BigQuiet
section
namespace Go.Proofs.YtlghdacdpkaoeaaGreatDoor
open Go.RowKit Go.Proofs.YtlghdacdpkaoeaaGreatDoorW.PrintWords
open Go.Lib hiding intOf
set_option linter.unusedVariables false
set_option linter.unusedSimpArgs false
def pow10s : List Nat := [4607182418800017408, 4621819117588971520, 4636737291354636288, 4652007308841189376]
structure Base (N : Nat) (w : World) : Prop where
  big : 1 < N ∧ 5 < N ∧ 2 < N
  bigF : 13 < N ∧ 14 < N ∧ 17 < N
  opt : w.cell? ⟨13, 0, none⟩ = some (.bool true)
  info : w.cell? ⟨14, 0, none⟩ = some (.int .u64 52)
  pow : ∃ pb po c, w.cell? ⟨17, 0, none⟩ = some (.slice (some ⟨pb, po, none⟩) 23 c) ∧ pb < N ∧ ∀ (i x : Nat), pow10s[i]? = some x → w.cell? ⟨pb, po + i, none⟩ = some (.float .f64 x)
  size : N ≤ w.heap.size
  sp : Lib.TabIs Tryz.prog w "strings.asciiSpace" .u8 Lib.asciiSpaceTab
  bp : Lib.TabIs Tryz.prog w "bytes.asciiSpace" .u8 Lib.asciiSpaceTab
  eof : ∃ t a, w.cell? ⟨1, 0, none⟩ = some (.iface t (.pointer (some a)))
theorem globalSp : Tryz.prog.globalNamed "strings.asciiSpace" = some 5 := by kernel_rfl
theorem globalBp : Tryz.prog.globalNamed "bytes.asciiSpace" = some 2 := by kernel_rfl
theorem tabIs_below {N : Nat} {w w' : World} {name : String} {k : IntKind} {zs : List Int} {g : Nat} (h : Lib.TabIs Tryz.prog w name k zs) (hg : Tryz.prog.globalNamed name = some g) (hN : g < N) (hb : Below N w w') : Lib.TabIs Tryz.prog w' name k zs := by
  unfold Lib.TabIs World.var? at *
  rw [hg] at h ⊢
  simp only [Option.bind_some] at h ⊢
  rw [hb.block g hN]; exact h
theorem Base.below {N : Nat} {w w' : World} (h : Base N w) (hb : Below N w w') : Base N w' where
  big := h.big
  bigF := h.bigF
  opt := (hb.cell h.bigF.1).trans h.opt
  info := (hb.cell h.bigF.2.1).trans h.info
  pow := by
    obtain ⟨pb, po, c, h1, h2, h3⟩ := h.pow
    exact ⟨pb, po, c, (hb.cell h.bigF.2.2).trans h1, h2, fun i x hx => (hb.cell (p := ⟨pb, po + i, none⟩) h2).trans (h3 i x hx)⟩
  size := Nat.le_trans h.size hb.size
  sp := tabIs_below h.sp globalSp h.big.2.1 hb
  bp := tabIs_below h.bp globalBp h.big.2.2 hb
  eof := by obtain ⟨t, a, e⟩ := h.eof; exact ⟨t, a, (hb.cell h.big.1).trans e⟩
structure Trimmed (l : List UInt8) : Prop where
  ascii : ∀ c ∈ l, c < 128
  head : ∀ c, l.head? = some c → Lib.isSp c = false
  last : ∀ c, l.getLast? = some c → Lib.isSp c = false
theorem dropWhile_none {l : List UInt8} (h : ∀ c, l.head? = some c → Lib.isSp c = false) : l.dropWhile Lib.isSp = l := by
  cases l with
  | nil => rfl
  | cons a r => rw [List.dropWhile_cons, h a rfl]; simp
theorem trim_eq {l ws : List UInt8} (h : Trimmed l) (hw : ∀ c ∈ ws, Lib.isSp c = true) : Lib.trimSpace (l ++ ws) = l := by
  unfold Lib.trimSpace
  cases l with
  | nil =>
    have : ws.dropWhile Lib.isSp = [] := by
      clear h
      induction ws with
      | nil => rfl
      | cons a r ih => rw [List.dropWhile_cons, hw a (by simp)]; simp; exact ih (fun c hc => hw c (by simp [hc]))
    simp [this]
  | cons a r =>
    rw [dropWhile_none (l := a :: r ++ ws) (by intro c hc; exact h.head c (by simpa using hc))]
    rw [List.reverse_append, List.dropWhile_append_of_pos (by intro c hc; exact hw c (by simpa using hc))]
    rw [dropWhile_none (l := (a :: r).reverse) (by intro c hc; rw [List.head?_reverse] at hc; exact h.last c hc)]
    simp
theorem bytesWorld_below (w : World) (e : TypeId) (s : ByteArray) : Below w.heap.size w (Lib.bytesWorld w e s) := by
  unfold Lib.bytesWorld
  refine Below.trans (b := w.drew.alloc (.cells (Lib.bytesCells w e s) e)) (((Below.refl w.heap.size w).drew).alloc (Nat.le_refl _) _) ?_
  unfold World.freeze
  split
  · exact Below.refl _ _
  · refine ⟨rfl, rfl, rfl, by simp, fun k hk => ?_⟩
    show (Array.modify _ _ _)[k]? = _
    rw [Array.getElem?_modify]
    rw [if_neg (by show ¬ w.heap.size = k; omega)]
theorem TrimSpace_calls {N : Nat} (l ws : List UInt8) (w : World) (hB : Base N w) (h : Trimmed l) (hw : ∀ c ∈ ws, Lib.isSp c = true ∧ c < 128) (hs : l.length + ws.length ≤ 100000) :
    Calls Tryz.prog 46 #[.string (bs (l ++ ws))] w fun e w' => e = .returned (.string (bs l)) ∧ Below w.heap.size w w' := by
  refine (Tryz.strings_TrimSpace (bs (l ++ ws)) w (by rw [bs_size, List.length_append]; omega) ?_ hB.sp).mono ?_
  · intro j b hj
    rw [bs_toList] at hj
    have hm := List.mem_of_getElem? hj
    have : b < 128 := by
      rcases List.mem_append.1 hm with hm | hm
      · exact h.ascii b hm
      · exact (hw b hm).2
    simpa [UInt8.lt_iff_toNat_lt] using this
  · rintro e w' ⟨rfl, rfl⟩
    rw [bs_toList, trim_eq h (fun c hc => (hw c hc).1)]
    exact ⟨rfl, bytesWorld_below _ _ _⟩
end Go.Proofs.YtlghdacdpkaoeaaGreatDoor
end
section
namespace Go.Proofs.YtlghdacdpkaoeaaGreatDoor
open Go.RowKit Go.Proofs.YtlghdacdpkaoeaaGreatDoorW.PrintWords
open Go.Lib hiding intOf
set_option linter.unusedVariables false
set_option linter.unusedSimpArgs false
theorem ext1 {s : List UInt8} {k : Nat} {c : UInt8} (h : s[k]? = some c) : (bs s).extract k (k + 1) = bs [c] := by
  obtain ⟨hk, e⟩ := bs_at h
  rw [ba_ext1 _ _ hk, e]
theorem bs_toList' (l : List UInt8) : (bs l).toList = l := by rw [ByteArray.toList_eq, bs_toList]
set_option maxRecDepth 100000 in
set_option maxHeartbeats 1000000 in
theorem zzIndex_one (pre post : List UInt8) (c : UInt8) (w : World) (hc : c ∉ pre) (hs : (pre ++ c :: post).length ≤ 100000) :
    Calls Tryz.prog 104 #[.string (bs (pre ++ c :: post)), .string (bs [c])] w fun e w' => e = .returned (.int .i64 (pre.length : Nat)) ∧ Drawn0 w w' := by
  obtain ⟨s, hs0⟩ : ∃ s, s = pre ++ c :: post := ⟨_, rfl⟩
  have hsz : (bs s).size ≤ 100000 := by rw [bs_size, hs0]; exact hs
  have hsl : pre.length < (bs s).size := by rw [bs_size, hs0]; simp
  have hget : ∀ k, k < pre.length → ∃ d, (bs s).extract k (k + 1) = bs [d] ∧ d ≠ c := by
    intro k hk
    have : s[k]? = some pre[k] := by rw [hs0, List.getElem?_append_left hk]; simp
    exact ⟨_, ext1 this, fun e => hc (e ▸ List.getElem_mem _)⟩
  have hat : (bs s).extract pre.length (pre.length + 1) = bs [c] := ext1 (by rw [hs0]; simp)
  rw [← hs0]
  have HG := Lib.hid hget
  have HA := Lib.hid hat
  clear hget hat hs0 hs hc
  show Calls _ _ #[.string (bs s), .string (⟨#[c]⟩ : ByteArray)] w _
  go_enter Tryz.func104, Tryz.ntmps104
  go_wp2
  go_loopw [5] (fun v wr => ∃ k : Nat, v = .int .i64 k ∧ k ≤ pre.length ∧ Drawn0 w wr) (fun i _ => (pre.length - (intOf i).toNat))
  case atStart => exact ⟨0, rfl, by omega, Drawn0.refl _⟩
  case round =>
    obtain ⟨k, rfl, hk, ⟨q, rfl⟩⟩ := hrel
    by_cases hlt : k < pre.length
    · obtain ⟨d, he, hd⟩ := HG.out k hlt
      have t1 : ((bs [d]).toList == [c]) = false := by
        rw [bs_toList']; simpa using hd
      go_wp2
      go_roundw
      case rel => exact ⟨k + 1, by go_num, by omega, ⟨q, rfl⟩⟩
      case measure => simp [intOf]; omega
    · obtain rfl : pre.length = k := by omega
      have he := HA.out
      have t1 : ((bs [c]).toList == [c]) = true := by
        rw [bs_toList']; simp
      go_wp2
      go_ret
      exact ⟨rfl, ⟨q, rfl⟩⟩
def digitsB : List UInt8 := [48, 49, 50, 51, 52, 53, 54, 55, 56, 57]
def isDigit (c : UInt8) : Prop := 48 ≤ c.toNat ∧ c.toNat ≤ 57
theorem digit_split {c : UInt8} (h : isDigit c) : ∃ pre post, digitsB = pre ++ c :: post ∧ c ∉ pre ∧ pre.length ≤ 9 := by
  have hc : c = UInt8.ofNat c.toNat := by simp
  obtain ⟨h1, h2⟩ := h
  rcases (by omega : c.toNat = 48 ∨ c.toNat = 49 ∨ c.toNat = 50 ∨ c.toNat = 51 ∨ c.toNat = 52 ∨ c.toNat = 53 ∨ c.toNat = 54 ∨ c.toNat = 55 ∨ c.toNat = 56 ∨ c.toNat = 57) with h | h | h | h | h | h | h | h | h | h
  all_goals rw [h] at hc; subst hc
  · exact ⟨[], _, rfl, by decide, by decide⟩
  · exact ⟨[48], _, rfl, by decide, by decide⟩
  · exact ⟨[48, 49], _, rfl, by decide, by decide⟩
  · exact ⟨[48, 49, 50], _, rfl, by decide, by decide⟩
  · exact ⟨[48, 49, 50, 51], _, rfl, by decide, by decide⟩
  · exact ⟨[48, 49, 50, 51, 52], _, rfl, by decide, by decide⟩
  · exact ⟨[48, 49, 50, 51, 52, 53], _, rfl, by decide, by decide⟩
  · exact ⟨[48, 49, 50, 51, 52, 53, 54], _, rfl, by decide, by decide⟩
  · exact ⟨[48, 49, 50, 51, 52, 53, 54, 55], _, rfl, by decide, by decide⟩
  · exact ⟨[48, 49, 50, 51, 52, 53, 54, 55, 56], _, rfl, by decide, by decide⟩
theorem zzIndex_digit (S : ByteArray) (c : UInt8) (w : World) (hS : Hid (S = bs [c])) (h : isDigit c) :
    Calls Tryz.prog 104 #[.string (⟨#[48, 49, 50, 51, 52, 53, 54, 55, 56, 57]⟩ : ByteArray), .string S] w fun e w' => ∃ n : Nat, e = .returned (.int .i64 n) ∧ n ≤ 9 ∧ Drawn0 w w' := by
  rw [hS.out]
  obtain ⟨pre, post, h1, h2, h3⟩ := digit_split h
  have := zzIndex_one pre post c w h2 (by rw [← h1]; decide)
  rw [← h1] at this
  exact this.mono fun e w' ⟨he, hw⟩ => ⟨_, he, h3, hw⟩
set_option maxRecDepth 100000 in
set_option maxHeartbeats 1000000 in
theorem zzToken_digits (s : List UInt8) (w : World) (hd : ∀ c ∈ s, isDigit c) (hs : s.length ≤ 100000) (h0 : s ≠ []) :
    Calls Tryz.prog 83 #[.string (bs s), .string (⟨#[48, 49, 50, 51, 52, 53, 54, 55, 56, 57]⟩ : ByteArray)] w fun e w' => e = .returned (.tuple #[.string (bs s), .string (bs [])]) ∧ Drawn0 w w' := by
  have hsz : (bs s).size ≤ 100000 := by rw [bs_size]; exact hs
  have hpos : 0 < (bs s).size := by rw [bs_size]; exact List.length_pos_iff.2 h0
  have hget : ∀ k, (hk : k < (bs s).size) → ∃ d, (bs s).extract k (k + 1) = bs [d] ∧ isDigit d ∧ (bs s)[k] = d := by
    intro k hk
    have hk' : k < s.length := by rw [bs_size] at hk; exact hk
    have : s[k]? = some s[k] := by simp
    refine ⟨s[k], ext1 this, hd _ (List.getElem_mem _), by rw [bs_get]⟩
  obtain ⟨d0, e0, hd0, e0'⟩ := hget 0 hpos
  have t1 : ((((bs s)[0]).toNat : Int) == 32) = false := by rw [e0']; have := hd0.1; rw [beq_eq_false_iff_ne]; omega
  have t2 : ((((bs s)[0]).toNat : Int) == 9) = false := by rw [e0']; have := hd0.1; rw [beq_eq_false_iff_ne]; omega
  have hend : (bs s).extract 0 (bs s).size = bs s := by simp
  have hend2 : (bs s).extract (bs s).size (bs s).size = bs [] := by
    have := bs_rest (s := s) (k := s.length) (t := []) (by simp)
    rwa [← bs_size] at this
  have HG := Lib.hid hget
  have HE := Lib.hid hend
  have HE2 := Lib.hid hend2
  clear hget e0 hd0 e0' hd hs h0 hend hend2
  go_enter Tryz.func83, Tryz.ntmps83
  go_wp2
  refine wp_loop_rounds 1 ?_
  rw [rounds_succ]
  go_wp2
  clear t1 t2
  go_loopw [6] (fun v wr => ∃ k : Nat, v = .int .i64 k ∧ k ≤ (bs s).size ∧ Drawn0 w wr) (fun i _ => ((bs s).size - (intOf i).toNat))
  case atStart => exact ⟨0, rfl, by omega, Drawn0.refl _⟩
  case round =>
    obtain ⟨k, rfl, hk, ⟨q, rfl⟩⟩ := hrel
    by_cases hlt : k < (bs s).size
    · obtain ⟨d, he, hdd, _⟩ := HG.out k hlt
      have HED := Lib.hid he
      have HDD := Lib.hid hdd
      clear he hdd
      go_wp2_with (go_at_call 104; refine (zzIndex_digit _ d _ HED HDD).mono ?_; rintro e w2 ⟨n, rfl, hn, ⟨q2, rfl⟩⟩)
      go_roundw
      case rel => exact ⟨k + 1, by go_num, by omega, ⟨q + q2, rfl⟩⟩
      case measure => simp [intOf]; omega
    · obtain rfl : (bs s).size = k := by omega
      go_wp2
      have o1 : ((bs s).size : Int) ≤ ((bs s).size : Int) := Int.le_refl _
      have o2 : (0 : Int) ≤ ((bs s).size : Int) := by omega
      go_quiet (fail)
      go_wp2
      go_ret2
      exact ⟨rfl, ((Drawn0.refl _).step _).step _⟩
theorem decDigits_digit (n : Nat) : ∀ c ∈ decDigits n, isDigit c := by
  induction n using Nat.strongRecOn with
  | _ n ih =>
    intro c hc
    by_cases h : n < 10
    · rw [decDigits_lt h] at hc
      rw [List.mem_singleton.1 hc]
      unfold isDigit; rw [UInt8.toNat_ofNat']; omega
    · rw [decDigits_ge h] at hc
      rcases List.mem_append.1 hc with hc | hc
      · exact ih _ (by omega) c hc
      · rw [List.mem_singleton.1 hc]
        unfold isDigit; rw [UInt8.toNat_ofNat']; omega
theorem decDigits_ne (n : Nat) : decDigits n ≠ [] := by
  by_cases h : n < 10
  · rw [decDigits_lt h]; simp
  · rw [decDigits_ge h]; simp
theorem parseM_append (M : Nat) (d : UInt8) (hd : isDigit d) : ∀ (l : List UInt8) (acc u : Nat), Lib.parseUintM M acc l = .ok u → u < 1844674407370955162 → u * 10 + 9 ≤ M → Lib.parseUintM M acc (l ++ [d]) = .ok (u * 10 + (d.toNat - 48))
  | [], acc, u, h, h1, h2 => by
    simp only [Lib.parseUintM] at h
    injection h with h
    subst h
    have hd' : 48 ≤ d.toNat ∧ d.toNat ≤ 57 := hd
    have e1 : ¬ 1844674407370955162 ≤ acc := by omega
    have e2 : ¬ M < acc * 10 + (d.toNat - 48) := by omega
    simp only [List.nil_append, Lib.parseUintM, if_pos hd', if_neg e1, if_neg e2]
  | c :: r, acc, u, h, h1, h2 => by
    simp only [List.cons_append, Lib.parseUintM] at h ⊢
    split at h
    · rename_i hc
      rw [if_pos hc]
      split at h
      · cases h
      · rename_i h3
        rw [if_neg h3]
        split at h
        · cases h
        · rename_i h4
          rw [if_neg h4]
          exact parseM_append M d hd r _ u h h1 h2
    · cases h
theorem parse_decM (n : Nat) : n < 1000000000000000000 → Lib.parseUintM 18446744073709551615 0 (decDigits n) = .ok n := by
  induction n using Nat.strongRecOn with
  | _ n ih =>
    intro h
    by_cases h0 : n < 10
    · rw [decDigits_lt h0]
      have e : (UInt8.ofNat (48 + n)).toNat = 48 + n := by rw [UInt8.toNat_ofNat']; omega
      have hd : 48 ≤ (UInt8.ofNat (48 + n)).toNat ∧ (UInt8.ofNat (48 + n)).toNat ≤ 57 := by omega
      have e1 : ¬ 1844674407370955162 ≤ 0 := by omega
      have e2 : ¬ 18446744073709551615 < 0 * 10 + ((UInt8.ofNat (48 + n)).toNat - 48) := by omega
      simp only [Lib.parseUintM, if_pos hd, if_neg e1, if_neg e2]
      rw [e]; congr 1; omega
    · rw [decDigits_ge h0]
      have e : (UInt8.ofNat (48 + n % 10)).toNat = 48 + n % 10 := by rw [UInt8.toNat_ofNat']; omega
      rw [parseM_append _ _ (by unfold isDigit; omega) _ 0 _ (ih (n / 10) (by omega) (by omega)) (by omega) (by omega), e]
      congr 1; omega
theorem parse_dec (n : Nat) (h : n < 1000000000000000000) : Lib.parseUintB 64 (decDigits n) = .ok n := by
  unfold Lib.parseUintB
  rw [if_neg (decDigits_ne n)]
  exact parse_decM n h
theorem below_two {e : TypeId} {s : ByteArray} {w w' : World} {q : Nat} (h : w' = w.drewN q ∨ w' = Lib.bytesWorld (w.drewN q) e s) : Below w.heap.size w w' := by
  have hb : Below w.heap.size w (w.drewN q) := below_drewN (Below.refl _ _) q
  rcases h with rfl | rfl
  · exact hb
  · have h2 := bytesWorld_below (w.drewN q) e s
    have hs : (w.drewN q).heap.size = w.heap.size := rfl
    rw [hs] at h2
    exact hb.trans h2
set_option maxRecDepth 100000 in
set_option maxHeartbeats 1000000 in
theorem zzUint64_calls (n : Nat) (old : Int) (w : World) (h : n < 1000000000000000000) :
    Calls Tryz.prog 62 #[.string (bs (decDigits n)), .int .u64 old] w fun e w' => e = .returned (.tuple #[.int .u64 n, .nilIface]) ∧ Below w.heap.size w w' := by
  have hl : (decDigits n).length ≤ 18 := decDigits_len1 17 n h
  have h1 := Lib.hid (fun W => zzToken_digits (decDigits n) W (decDigits_digit n) (by omega) (decDigits_ne n))
  have h2 := Lib.hid (fun W => Tryz.strconv_ParseUint_10_at64_ok (bs (decDigits n)) (by rw [bs_size]; omega) n (by rw [bs_toList]; exact parse_dec n h) W)
  clear h hl
  go_enter Tryz.func62, Tryz.ntmps62
  go_wp2_with (first
    | (go_at_call 83; refine (h1.out _).mono ?_; rintro e w1 ⟨rfl, ⟨q, rfl⟩⟩)
    | (go_at_call 84; refine (h2.out _).mono ?_; rintro e w2 ⟨rfl, hw2⟩))
  go_ret2
  exact ⟨rfl, below_two hw2⟩
set_option maxRecDepth 100000 in
set_option maxHeartbeats 1000000 in
theorem zzUint8_calls (n : Nat) (old : Int) (w : World) (h : n < 256) :
    Calls Tryz.prog 48 #[.string (bs (decDigits n)), .int .u8 old] w fun e w' => e = .returned (.tuple #[.int .u8 n, .nilIface]) ∧ Below w.heap.size w w' := by
  have h1 := Lib.hid (fun W => zzUint64_calls n 0 W (by omega))
  go_enter Tryz.func48, Tryz.ntmps48
  go_wp2_with (go_at_call 62; refine (h1.out _).mono ?_; rintro e w1 ⟨rfl, hb⟩)
  go_ret2
  exact ⟨rfl, hb⟩
end Go.Proofs.YtlghdacdpkaoeaaGreatDoor
end
section
namespace Go.Proofs.YtlghdacdpkaoeaaGreatDoor
open Go.RowKit Go.Proofs.YtlghdacdpkaoeaaGreatDoorW.PrintWords
open Go.Lib hiding intOf
set_option linter.unusedVariables false
set_option linter.unusedSimpArgs false
def Lies (w : World) (b : Nat) (T : TypeId) (cs : Array Value) : Prop := w.heap[b]? = some (.cells cs T (0, 0))
structure But (X : List Nat) (w w' : World) : Prop where
  os : w'.os = w.os
  tape : w'.tape = w.tape
  output : w'.output = w.output
  size : w.heap.size ≤ w'.heap.size
  block : ∀ k, k < w.heap.size → k ∉ X → w'.heap[k]? = w.heap[k]?
section
variable {w w' w'' : World} {b : Nat} {T : TypeId} {cs : Array Value} {X Y : List Nat}
theorem Lies.lt (h : Lies w b T cs) : b < w.heap.size := by
  rcases Nat.lt_or_ge b w.heap.size with hlt | hge
  · exact hlt
  · unfold Lies at h; rw [Array.getElem?_eq_none hge] at h; cases h
theorem Lies.cell (h : Lies w b T cs) (i : Nat) : w.cell? ⟨b, i, none⟩ = cs[i]? := cell_of_row w b i cs T (0, 0) h
theorem Lies.frozen (h : Lies w b T cs) (i : Nat) : w.frozen? ⟨b, i, none⟩ = false := frozen_of_row w b i cs T h
theorem Lies.set (h : Lies w b T cs) (i : Nat) (u : Value) : Lies (w.setCell ⟨b, i, none⟩ u) b T (cs.setIfInBounds i u) := heap_setCell_same w b i cs T u h
theorem Lies.other (h : Lies w b T cs) {p : Addr} (hp : b ≠ p.block) (u : Value) : Lies (w.setCell p u) b T cs := (heap_setCell_other w p b u hp).trans h
theorem Lies.ne {b' : Nat} {T' : TypeId} {cs' : Array Value} (h : Lies w b T cs) (h' : Lies w b' T' cs') (hT : T ≠ T') : b ≠ b' := by
  rintro rfl
  have := h.symm.trans h'
  injection this with e
  injection e with _ e
  exact hT e
theorem Lies.but (h : Lies w b T cs) (hb : But X w w') (hx : b ∉ X) : Lies w' b T cs := (hb.block b h.lt hx).trans h
theorem Lies.below (h : Lies w b T cs) (hb : Below w.heap.size w w') : Lies w' b T cs := (hb.block b h.lt).trans h
theorem Lies.alloc (h : Lies w b T cs) (o : Obj) : Lies (w.alloc o) b T cs := (Below.heap_alloc w o b h.lt).trans h
theorem But.refl (X : List Nat) (w : World) : But X w w := ⟨rfl, rfl, rfl, Nat.le_refl _, fun _ _ _ => rfl⟩
theorem But.trans (h : But X w w') (k : But X w' w'') : But X w w'' :=
  ⟨k.os.trans h.os, k.tape.trans h.tape, k.output.trans h.output, Nat.le_trans h.size k.size, fun i hi hx => (k.block i (Nat.lt_of_lt_of_le hi h.size) hx).trans (h.block i hi hx)⟩
theorem But.mono (h : But X w w') (hs : ∀ k ∈ X, k ∈ Y) : But Y w w' := ⟨h.os, h.tape, h.output, h.size, fun i hi hx => h.block i hi (fun e => hx (hs i e))⟩
theorem But.below (h : But X w w') (k : Below w'.heap.size w' w'') : But X w w'' :=
  h.trans ⟨k.os, k.tape, k.output, k.size, fun i hi _ => k.block i hi⟩
theorem But.drewN (h : But X w w') (n : Nat) : But X w (w'.drewN n) := h.below (below_drewN (Below.refl _ _) n)
theorem But.set (h : But X w w') {p : Addr} (hp : p.block ∈ X) (u : Value) : But X w (w'.setCell p u) :=
  h.trans ⟨rfl, rfl, rfl, by simp, fun k _ hk => heap_setCell_other _ _ _ _ (fun e => hk (e ▸ hp))⟩
theorem But.setNew (h : But X w w') {p : Addr} (hp : w.heap.size ≤ p.block) (u : Value) : But X w (w'.setCell p u) :=
  ⟨h.os, h.tape, h.output, by simp; exact h.size, fun k hk hx => (heap_setCell_other _ _ _ _ (by omega)).trans (h.block k hk hx)⟩
theorem But.alloc (h : But X w w') (o : Obj) : But X w (w'.alloc o) :=
  h.trans ⟨rfl, rfl, rfl, by simp, fun k hk _ => Below.heap_alloc _ _ _ hk⟩
theorem But.grown (h : But X w w') {row : Option Nat} (hg : w'.grownBy w'' row) (hr : ∀ k, row = some k → k ∈ X) : But X w w'' :=
  h.trans ⟨hg.os, hg.tape, hg.output, hg.size, fun k hk hx => hg.block k hk (fun e => hx (hr k e.symm))⟩
end
def StAt (w : World) (S : Nat) (m3u tag : Bool) (v al : Value) : Prop :=
  ∃ cs, Lies w S 112 cs ∧ cs.size = 20 ∧ cs[1]? = some (.bool m3u) ∧ cs[2]? = some (.bool tag) ∧ cs[15]? = some v ∧ cs[16]? = some al
def PlAt (w : World) (P : Nat) (vs : Value) (ver : Int) (ind : Bool) : Prop :=
  ∃ cs, Lies w P 81 cs ∧ cs.size = 8 ∧ cs[0]? = some vs ∧ cs[1]? = some (.string ⟨#[]⟩) ∧ cs[6]? = some (.int .u8 ver) ∧ cs[7]? = some (.bool ind)
section
variable {w w' : World} {S P : Nat} {m3u tag ind : Bool} {v al vs : Value} {ver : Int}
theorem at_of_lt {cs : Array Value} {n i : Nat} (h : cs.size = n) (hi : i < n) : ∃ x, cs[i]? = some x := ⟨cs[i], by simp [h, hi]⟩
theorem StAt.cells (h : StAt w S m3u tag v al) : (∃ x, w.cell? ⟨S, 0, none⟩ = some x) ∧ w.cell? ⟨S, 1, none⟩ = some (.bool m3u) ∧ w.cell? ⟨S, 2, none⟩ = some (.bool tag) ∧ w.cell? ⟨S, 15, none⟩ = some v ∧ w.cell? ⟨S, 16, none⟩ = some al ∧
    w.frozen? ⟨S, 0, none⟩ = false ∧ w.frozen? ⟨S, 1, none⟩ = false ∧ w.frozen? ⟨S, 2, none⟩ = false ∧ w.frozen? ⟨S, 15, none⟩ = false ∧ w.frozen? ⟨S, 16, none⟩ = false := by
  obtain ⟨cs, h, hs, h1, h2, h3, h4⟩ := h
  refine ⟨?_, (h.cell _).trans h1, (h.cell _).trans h2, (h.cell _).trans h3, (h.cell _).trans h4, h.frozen _, h.frozen _, h.frozen _, h.frozen _, h.frozen _⟩
  obtain ⟨x, hx⟩ := at_of_lt hs (i := 0) (by omega)
  exact ⟨x, (h.cell _).trans hx⟩
theorem PlAt.cells (h : PlAt w P vs ver ind) : w.cell? ⟨P, 0, none⟩ = some vs ∧ w.cell? ⟨P, 1, none⟩ = some (.string ⟨#[]⟩) ∧ w.cell? ⟨P, 6, none⟩ = some (.int .u8 ver) ∧ w.cell? ⟨P, 7, none⟩ = some (.bool ind) ∧
    w.frozen? ⟨P, 0, none⟩ = false ∧ w.frozen? ⟨P, 1, none⟩ = false ∧ w.frozen? ⟨P, 6, none⟩ = false ∧ w.frozen? ⟨P, 7, none⟩ = false := by
  obtain ⟨cs, h, hs, h1, h2, h3, h4⟩ := h
  exact ⟨(h.cell _).trans h1, (h.cell _).trans h2, (h.cell _).trans h3, (h.cell _).trans h4, h.frozen _, h.frozen _, h.frozen _, h.frozen _⟩
theorem StAt.below (h : StAt w S m3u tag v al) (hb : Below w.heap.size w w') : StAt w' S m3u tag v al := by
  obtain ⟨cs, h, r⟩ := h; exact ⟨cs, h.below hb, r⟩
theorem PlAt.below (h : PlAt w P vs ver ind) (hb : Below w.heap.size w w') : PlAt w' P vs ver ind := by
  obtain ⟨cs, h, r⟩ := h; exact ⟨cs, h.below hb, r⟩
theorem StAt.other (h : StAt w S m3u tag v al) {p : Addr} (hp : S ≠ p.block) (u : Value) : StAt (w.setCell p u) S m3u tag v al := by
  obtain ⟨cs, h, r⟩ := h; exact ⟨cs, h.other hp u, r⟩
theorem PlAt.other (h : PlAt w P vs ver ind) {p : Addr} (hp : P ≠ p.block) (u : Value) : PlAt (w.setCell p u) P vs ver ind := by
  obtain ⟨cs, h, r⟩ := h; exact ⟨cs, h.other hp u, r⟩
theorem StAt.lt (h : StAt w S m3u tag v al) : S < w.heap.size := by obtain ⟨cs, h, r⟩ := h; exact h.lt
theorem PlAt.lt (h : PlAt w P vs ver ind) : P < w.heap.size := by obtain ⟨cs, h, r⟩ := h; exact h.lt
theorem StAt.nePl (h : StAt w S m3u tag v al) (h' : PlAt w P vs ver ind) : S ≠ P := by
  obtain ⟨cs, h, _⟩ := h; obtain ⟨cs', h', _⟩ := h'; exact h.ne h' (by decide)
theorem StAt.set0 (h : StAt w S m3u tag v al) (u : Value) : StAt (w.setCell ⟨S, 0, none⟩ u) S m3u tag v al := by
  obtain ⟨cs, h, hs, h1, h2, h3, h4⟩ := h
  exact ⟨_, h.set 0 u, by simp [hs], by simpa using h1, by simpa using h2, by simpa using h3, by simpa using h4⟩
theorem StAt.set1 (h : StAt w S m3u tag v al) (u : Bool) : StAt (w.setCell ⟨S, 1, none⟩ (.bool u)) S u tag v al := by
  obtain ⟨cs, h, hs, h1, h2, h3, h4⟩ := h
  exact ⟨_, h.set 1 _, by simp [hs], by simp [hs], by simpa using h2, by simpa using h3, by simpa using h4⟩
theorem StAt.set2 (h : StAt w S m3u tag v al) (u : Bool) : StAt (w.setCell ⟨S, 2, none⟩ (.bool u)) S m3u u v al := by
  obtain ⟨cs, h, hs, h1, h2, h3, h4⟩ := h
  exact ⟨_, h.set 2 _, by simp [hs], by simpa using h1, by simp [hs], by simpa using h3, by simpa using h4⟩
theorem StAt.set15 (h : StAt w S m3u tag v al) (u : Value) : StAt (w.setCell ⟨S, 15, none⟩ u) S m3u tag u al := by
  obtain ⟨cs, h, hs, h1, h2, h3, h4⟩ := h
  exact ⟨_, h.set 15 _, by simp [hs], by simpa using h1, by simpa using h2, by simp [hs], by simpa using h4⟩
theorem StAt.set16 (h : StAt w S m3u tag v al) (u : Value) : StAt (w.setCell ⟨S, 16, none⟩ u) S m3u tag v u := by
  obtain ⟨cs, h, hs, h1, h2, h3, h4⟩ := h
  exact ⟨_, h.set 16 _, by simp [hs], by simpa using h1, by simpa using h2, by simpa using h3, by simp [hs]⟩
theorem PlAt.set0 (h : PlAt w P vs ver ind) (u : Value) : PlAt (w.setCell ⟨P, 0, none⟩ u) P u ver ind := by
  obtain ⟨cs, h, hs, h1, h2, h3, h4⟩ := h
  exact ⟨_, h.set 0 _, by simp [hs], by simp [hs], by simpa using h2, by simpa using h3, by simpa using h4⟩
theorem PlAt.set6 (h : PlAt w P vs ver ind) (u : Int) : PlAt (w.setCell ⟨P, 6, none⟩ (.int .u8 u)) P vs u ind := by
  obtain ⟨cs, h, hs, h1, h2, h3, h4⟩ := h
  exact ⟨_, h.set 6 _, by simp [hs], by simpa using h1, by simpa using h2, by simp [hs], by simpa using h4⟩
theorem PlAt.set7 (h : PlAt w P vs ver ind) (u : Bool) : PlAt (w.setCell ⟨P, 7, none⟩ (.bool u)) P vs ver u := by
  obtain ⟨cs, h, hs, h1, h2, h3, h4⟩ := h
  exact ⟨_, h.set 7 _, by simp [hs], by simpa using h1, by simpa using h2, by simpa using h3, by simp [hs]⟩
end
end Go.Proofs.YtlghdacdpkaoeaaGreatDoor
end
section
namespace Go.Proofs.YtlghdacdpkaoeaaGreatDoor
open Go.RowKit Go.Proofs.YtlghdacdpkaoeaaGreatDoorW.PrintWords Go.Maps
open Go.Lib hiding intOf
set_option linter.unusedVariables false
set_option linter.unusedSimpArgs false
theorem run_slice_from {P : Program} (W : World) (t e : TypeId) (ht : P.underlying t = some (.slice e)) (hz : ∀ w, (Go.sizeOf e).run P w = .ok 1 w) (b o len cap l : Nat) (hl : l ≤ len) (hc : l < cap) :
    (Instr.slice t (.slice (some ⟨b, o, none⟩) len cap) (some (.int .i64 (l : Int))) none none).run P W = .ok (.slice (some ⟨b, o + l, none⟩) (len - l) (cap - l)) W := by
  have ht' : P.underlying t = some (.slice (P.elem t)) := by simp [Program.elem, ht]
  have he : P.elem t = e := by simp [Program.elem, ht]
  rw [run_slice_l W t _ _ _ ht' .i64 _ (by omega) (by omega), he, hz]
  have hne : ¬ cap = l := by omega
  by_cases h0 : l = 0
  · subst h0
    simp [Result.andThen, sliced, Addr.add, hne]
  · simp [Result.andThen, sliced, Addr.add, hne, h0]
theorem size5 : ∀ w, (Go.sizeOf 5).run Tryz.prog w = .ok 1 w := fun w => by kernel_rfl
structure BufAt (w : World) (B D : Nat) (l : List UInt8) (o : Nat) (cap : Nat) (cu : Array Value) : Prop where
  buf : ∃ lr, Lies w B 79 #[.slice (some ⟨D, 0, none⟩) l.length cap, .int .i64 o, .int .i8 lr]
  row : Lies w D 5 cu
  byt : ∀ (i : Nat) (h : i < l.length), cu[i]? = some (.int .u8 (l[i].toNat : Nat))
  cap : l.length < cap
  off : o ≤ l.length
  len : l.length ≤ 100000
theorem indexByte_at (x r : List UInt8) (c : UInt8) (h : c ∉ x) : Lib.indexByte (x ++ c :: r) c = (x.length : Nat) := by
  induction x with
  | nil => simp [Lib.indexByte]
  | cons a x ih =>
    simp only [List.mem_cons, not_or] at h
    have := ih h.2
    simp only [List.cons_append, Lib.indexByte, this]
    rw [if_neg (by simpa using fun e => h.1 e.symm), if_neg (by simp)]
    simp
theorem indexByte_none (x : List UInt8) (c : UInt8) (h : c ∉ x) : Lib.indexByte x c = -1 := by
  induction x with
  | nil => simp [Lib.indexByte]
  | cons a x ih =>
    simp only [List.mem_cons, not_or] at h
    have := ih h.2
    simp only [Lib.indexByte, this]
    rw [if_neg (by simpa using fun e => h.1 e.symm)]
    simp
def numsOf (l : List UInt8) : List Int := l.map fun c => (c.toNat : Int)
theorem bytesOf_numsOf (l : List UInt8) : Lib.bytesOf (numsOf l) = l := by
  unfold Lib.bytesOf numsOf
  rw [List.map_map]
  refine (List.map_congr_left (g := id) (fun c _ => ?_)).trans (List.map_id l)
  simp
theorem numsOf_getD {l : List UInt8} {i : Nat} (h : i < l.length) : (numsOf l).getD i 0 = (l[i].toNat : Int) := by
  simp [numsOf, List.getD_eq_getElem?_getD, h]
theorem BufAt.cell {w : World} {B D : Nat} {l : List UInt8} {o cap : Nat} {cu : Array Value} (h : BufAt w B D l o cap cu) (i : Nat) (hi : i < l.length) : w.cell? ⟨D, i, none⟩ = some (.int .u8 (l[i].toNat : Nat)) := (h.row.cell i).trans (h.byt i hi)
theorem IndexByte_calls {w : World} {B D : Nat} {l : List UInt8} {o cap : Nat} {cu : Array Value} (h : BufAt w B D l o cap cu) (c : Nat) (n : Nat) :
    Calls Tryz.prog 58 #[.slice (some ⟨D, o, none⟩) (l.length - o) c, .int .u8 10] (w.drewN n) fun e w' => e = .returned (.int .i64 (Lib.indexByte (l.drop o) 10)) ∧ w' = w.drewN n := by
  have := Tryz.bytes_IndexByte_at ⟨D, o, none⟩ (l.length - o) c (numsOf (l.drop o)) 10 (w.drewN n) (by simp [numsOf]) (fun i hi => by
    have ea : (⟨D, o, none⟩ : Addr).add i = ⟨D, o + i, none⟩ := by
      unfold Addr.add; split <;> simp_all
    rw [ea]
    have e : (w.drewN n).cell? ⟨D, o + i, none⟩ = w.cell? ⟨D, o + i, none⟩ := by simp
    rw [e, h.cell (o + i) (by omega), numsOf_getD (by simp; omega)]
    simp)
  rwa [bytesOf_numsOf] at this
theorem run_slice_to {P : Program} (W : World) (t e : TypeId) (ht : P.underlying t = some (.slice e)) (hz : ∀ w, (Go.sizeOf e).run P w = .ok 1 w) (b o len cap l h : Nat) (hlh : l ≤ h) (hh : h ≤ cap) (hc : l < cap) :
    (Instr.slice t (.slice (some ⟨b, o, none⟩) len cap) (some (.int .i64 (l : Int))) (some (.int .i64 (h : Int))) none).run P W = .ok (.slice (some ⟨b, o + l, none⟩) (h - l) (cap - l)) W := by
  have ht' : P.underlying t = some (.slice (P.elem t)) := by simp [Program.elem, ht]
  have he : P.elem t = e := by simp [Program.elem, ht]
  rw [run_slice_lh W t _ _ _ ht' .i64 .i64 _ _ (by omega) (by omega) (by omega), he, hz]
  have hne : ¬ cap = l := by omega
  by_cases h0 : l = 0
  · subst h0
    simp [Result.andThen, sliced, Addr.add, hne]
  · simp [Result.andThen, sliced, Addr.add, hne, h0]
theorem conv_at {w : World} {B D : Nat} {l : List UInt8} {o cap : Nat} {cu : Array Value} (h : BufAt w B D l o cap cu) (k : Nat) (x r : List UInt8) (hd : l.drop k = x ++ r) (c : Nat) (hx : k + x.length ≤ l.length) :
    (convert 68 9 (.slice (some ⟨D, k, none⟩) x.length c)).run Tryz.prog w = .ok (.string (bs x)) w :=
  run_convert_bytes_back w _ _ 5 _ _ x Tryz.underlying68 Tryz.underlying5 Tryz.underlying9 (fun j hj => by
    have ea : (⟨D, k, none⟩ : Addr).add j = ⟨D, k + j, none⟩ := by
      unfold Addr.add; split <;> simp_all
    rw [ea, h.cell (k + j) (by omega)]
    have : (l.drop k)[j]? = some x[j] := by rw [hd, List.getElem?_append_left hj]; simp
    rw [List.getElem?_drop, List.getElem?_eq_getElem (by omega)] at this
    rw [Option.some.inj this])
structure BufEnd (w : World) (B D : Nat) (l : List UInt8) (o cap : Nat) (cu : Array Value) (w' : World) : Prop where
  at' : BufAt w' B D l o cap cu
  but : But [B] w w'
theorem BufEnd.of {w : World} {B D : Nat} {l : List UInt8} {o cap : Nat} {cu : Array Value} {lr : Int} (h : BufAt w B D l o cap cu) (hb : Lies w B 79 #[.slice (some ⟨D, 0, none⟩) l.length cap, .int .i64 o, .int .i8 lr]) (n : Nat) {o' : Nat} {v : Int} (ho : o' ≤ l.length) (hv : v = (o' : Nat)) :
    BufEnd w B D l o' cap cu (((w.drewN n).setCell ⟨B, 1, none⟩ (.int .i64 v)).setCell ⟨B, 2, none⟩ (.int .i8 (-1))) := by
  subst hv
  have hbn : Lies (w.drewN n) B 79 #[.slice (some ⟨D, 0, none⟩) l.length cap, .int .i64 o, .int .i8 lr] := hb.below (below_drewN (Below.refl _ _) n)
  have hrn : Lies (w.drewN n) D 5 cu := h.row.below (below_drewN (Below.refl _ _) n)
  have hne : D ≠ B := h.row.ne hb (by decide)
  exact ⟨⟨⟨-1, (hbn.set 1 _).set 2 _⟩, (hrn.other hne _).other hne _, h.byt, h.cap, ho, h.len⟩, (((But.refl [B] w).drewN n).set (by simp) _).set (by simp) _⟩
set_option maxRecDepth 100000 in
set_option maxHeartbeats 4000000 in
theorem readSlice_hit {w : World} {B D : Nat} {l : List UInt8} {o cap : Nat} {cu : Array Value} (x r : List UInt8) (h : BufAt w B D l o cap cu) (hd : l.drop o = x ++ 10 :: r) (hx : (10 : UInt8) ∉ x) :
    Calls Tryz.prog 45 #[.pointer (some ⟨B, 0, none⟩), .int .u8 10] w fun e w' => e = .returned (.tuple #[.slice (some ⟨D, o, none⟩) (x.length + 1) (cap - o), .nilIface]) ∧ BufEnd w B D l (o + (x.length + 1)) cap cu w' := by
  obtain ⟨⟨lr, hb⟩, hrow, hbyt, hcap, hoff, hlen⟩ := id h
  have hl : o + (x.length + 1) ≤ l.length := by
    have := congrArg List.length hd
    simp at this; omega
  have k0 := hb.cell 0
  have k1 := hb.cell 1
  have k2 := hb.cell 2
  have f1 := hb.frozen 1
  have f2 := hb.frozen 2
  simp only [List.getElem?_toArray, List.getElem?_cons_zero, List.getElem?_cons_succ] at k0 k1 k2
  have hidx : ∀ n c, Calls Tryz.prog 58 #[.slice (some ⟨D, o, none⟩) (l.length - o) c, .int .u8 10] (w.drewN n) fun e w' => e = .returned (.int .i64 (x.length : Nat)) ∧ w' = w.drewN n := fun n c => by
    have := IndexByte_calls h c n
    rwa [hd, indexByte_at _ _ _ hx] at this
  have HI := Lib.hid hidx
  have s1 := fun W => run_slice_from (P := Tryz.prog) W 68 5 Tryz.underlying68 size5 D 0 l.length cap o hoff (by omega)
  have s2 := fun W => Lib.run_slice_window (P := Tryz.prog) W 68 5 Tryz.underlying68 size5 D 0 l.length cap o (o + (x.length + 1)) (by omega) (by omega)
  have e2 : o + (x.length + 1) - o = x.length + 1 := by omega
  rw [e2] at s2
  simp only [Nat.zero_add] at s1 s2
  have H := Lib.hid h
  have HB := Lib.hid hb
  have hxl : (x.length : Int) ≤ 100000 := by omega
  have hol : (o : Int) ≤ 100000 := by omega
  have hx0 : (0 : Int) ≤ (x.length : Int) := by omega
  have hc2 : ((o + (x.length + 1) : Nat) : Int) = (o : Int) + (x.length : Int) + 1 := by omega
  rw [hc2] at s2
  have HC := Lib.hid hc2
  clear h hd hx hidx hb hrow hbyt e2 hc2
  go_enter Tryz.func45, Tryz.ntmps45
  go_wp2_with fail
  go_quiet ((go_at_call 58; exact Calls.quiet_of_same (HI.out _ _)))
  go_wp2_with fail
  have q1 : (o : Int) ≤ (o : Int) + (x.length : Int) + 1 := by omega
  have q2 : (o : Int) + (x.length : Int) + 1 ≤ (cap : Int) := by omega
  have q3 : (0 : Int) ≤ (o : Int) + (x.length : Int) + 1 := by omega
  go_quiet (fail)
  go_wp2_with fail
  go_ret2
  exact ⟨rfl, BufEnd.of H.out HB.out _ hl HC.out.symm⟩
set_option maxRecDepth 100000 in
set_option maxHeartbeats 4000000 in
theorem readSlice_end {w : World} {B D : Nat} {l : List UInt8} {o cap : Nat} {cu : Array Value} (ev : Value) (h : BufAt w B D l o cap cu) (hx : (10 : UInt8) ∉ l.drop o) (hev : ∃ t a, ev = .iface t (.pointer (some a))) (he : w.cell? ⟨1, 0, none⟩ = some ev) :
    Calls Tryz.prog 45 #[.pointer (some ⟨B, 0, none⟩), .int .u8 10] w fun e w' => e = .returned (.tuple #[.slice (some ⟨D, o, none⟩) (l.length - o) (cap - o), ev]) ∧ BufEnd w B D l l.length cap cu w' := by
  obtain ⟨⟨lr, hb⟩, hrow, hbyt, hcap, hoff, hlen⟩ := id h
  obtain ⟨et, ea, rfl⟩ := hev
  have k0 := hb.cell 0
  have k1 := hb.cell 1
  have k2 := hb.cell 2
  have f1 := hb.frozen 1
  have f2 := hb.frozen 2
  simp only [List.getElem?_toArray, List.getElem?_cons_zero, List.getElem?_cons_succ] at k0 k1 k2
  have hidx : ∀ n c, Calls Tryz.prog 58 #[.slice (some ⟨D, o, none⟩) (l.length - o) c, .int .u8 10] (w.drewN n) fun e w' => e = .returned (.int .i64 (-1)) ∧ w' = w.drewN n := fun n c => by
    have := IndexByte_calls h c n
    rwa [indexByte_none _ _ hx] at this
  have HI := Lib.hid hidx
  have s1 := fun W => run_slice_from (P := Tryz.prog) W 68 5 Tryz.underlying68 size5 D 0 l.length cap o hoff (by omega)
  have s2 := fun W => run_slice_to (P := Tryz.prog) W 68 5 Tryz.underlying68 size5 D 0 l.length cap o l.length (by omega) (by omega) (by omega)
  simp only [Nat.zero_add] at s1 s2
  have H := Lib.hid h
  have HB := Lib.hid hb
  have hol : (o : Int) ≤ 100000 := by omega
  clear h hx hidx hb hrow hbyt
  go_enter Tryz.func45, Tryz.ntmps45
  go_wp2_with fail
  go_quiet ((go_at_call 58; exact Calls.quiet_of_same (HI.out _ _)))
  go_wp2_with fail
  have q1 : (o : Int) ≤ (l.length : Int) := by omega
  have q2 : (l.length : Int) ≤ (cap : Int) := by omega
  have q3 : (0 : Int) ≤ (l.length : Int) := by omega
  go_quiet (fail)
  go_wp2_with fail
  go_ret2
  exact ⟨rfl, BufEnd.of H.out HB.out _ (Nat.le_refl _) rfl⟩
set_option maxRecDepth 100000 in
set_option maxHeartbeats 4000000 in
theorem ReadString_hit {w : World} {B D : Nat} {l : List UInt8} {o cap : Nat} {cu : Array Value} (x r : List UInt8) (h : BufAt w B D l o cap cu) (hd : l.drop o = x ++ 10 :: r) (hx : (10 : UInt8) ∉ x) :
    Calls Tryz.prog 35 #[.pointer (some ⟨B, 0, none⟩), .int .u8 10] w fun e w' => e = .returned (.tuple #[.string (bs (x ++ [10])), .nilIface]) ∧ BufEnd w B D l (o + (x.length + 1)) cap cu w' := by
  have HR := Lib.hid (readSlice_hit x r h hd hx)
  have HD := Lib.hid hd
  clear h hd hx
  go_enter Tryz.func35, Tryz.ntmps35
  go_wp2_with (go_at_call 45; refine HR.out.mono ?_; rintro e w1 ⟨rfl, hE⟩; have HE := Lib.hid hE; clear hE; have cv := conv_at HE.out.at' o (x ++ [10]) r (by rw [HD.out]; simp) (cap - o) (by have := HE.out.at'.off; simp; omega); rw [List.length_append, List.length_singleton] at cv)
  go_ret2
  exact ⟨rfl, HE.out⟩
set_option maxRecDepth 100000 in
set_option maxHeartbeats 4000000 in
theorem ReadString_end {w : World} {B D : Nat} {l : List UInt8} {o cap : Nat} {cu : Array Value} (ev : Value) (h : BufAt w B D l o cap cu) (hx : (10 : UInt8) ∉ l.drop o) (hev : ∃ t a, ev = .iface t (.pointer (some a))) (he : w.cell? ⟨1, 0, none⟩ = some ev) :
    Calls Tryz.prog 35 #[.pointer (some ⟨B, 0, none⟩), .int .u8 10] w fun e w' => e = .returned (.tuple #[.string (bs (l.drop o)), ev]) ∧ BufEnd w B D l l.length cap cu w' := by
  have HR := Lib.hid (readSlice_end ev h hx hev he)
  obtain ⟨et, ea, rfl⟩ := hev
  have HL := Lib.hid (show (l.drop o).length = l.length - o by simp)
  have hol := h.off
  clear h hx he
  go_enter Tryz.func35, Tryz.ntmps35
  go_wp2_with (go_at_call 45; refine HR.out.mono ?_; rintro e w1 ⟨rfl, hE⟩; have HE := Lib.hid hE; clear hE; have cv := conv_at HE.out.at' o (l.drop o) [] (by simp) (cap - o) (by have := HL.out; omega); rw [HL.out] at cv)
  go_ret2
  exact ⟨rfl, HE.out⟩
end Go.Proofs.YtlghdacdpkaoeaaGreatDoor
end
section
namespace Go.Proofs.YtlghdacdpkaoeaaGreatDoor.PFnMasterLoose
open Go.RowKit Go.Proofs.YtlghdacdpkaoeaaGreatDoorW.PrintWords Go.Proofs.YtlghdacdpkaoeaaGreatDoorW.PrintLast Go.Proofs.YtlghdacdpkaoeaaGreatDoorW.PrintMore
attribute [local go_sem] max2_int min2_int max_two min_two max_three min_three max_four min_four
set_option linter.unusedVariables false
set_option linter.unusedSimpArgs false
def spec_Decimal.f : Nat → Int → Option (ByteArray)
  | 0, _ => none
  | k + 1, a0 => if a0 < 10 then (some (Utf8.encode (wrap32 (IntKind.u64.wrap (48 + a0))))) else ((spec_Decimal.f k (IntKind.u64.wrap (Int.tdiv a0 10))).bind fun t101 => (if t101.size + (Utf8.encode (wrap32 (IntKind.u64.wrap (48 + (Int.tmod a0 10))))).size ≤ 9223372036854775807 then (some (t101 ++ (Utf8.encode (wrap32 (IntKind.u64.wrap (48 + (Int.tmod a0 10))))))) else (none)))
set_option maxHeartbeats 8000000 in
set_option maxRecDepth 100000 in
theorem spec_Decimal.calls (k : Nat) : ∀ (a0 : Int) (r : ByteArray) (w : World) (h : spec_Decimal.f k a0 = some r),
    Calls Tryz.prog 11 #[.int .u64 a0] w fun e w' => e = .returned (.string r) ∧ Drawn0 w w' := by
  induction k using Nat.strongRecOn with
  | _ k ih =>
  intro a0 r w h
  cases k with
  | zero => exact absurd h (by simp [spec_Decimal.f])
  | succ k =>
  simp only [spec_Decimal.f] at h
  have H : (if a0 < 10 then (some (Utf8.encode (wrap32 (IntKind.u64.wrap (48 + a0))))) else ((spec_Decimal.f k (IntKind.u64.wrap (Int.tdiv a0 10))).bind fun t101 => (if t101.size + (Utf8.encode (wrap32 (IntKind.u64.wrap (48 + (Int.tmod a0 10))))).size ≤ 9223372036854775807 then (some (t101 ++ (Utf8.encode (wrap32 (IntKind.u64.wrap (48 + (Int.tmod a0 10))))))) else (none)))) = some r := h
  clear h
  by_cases c2 : a0 < 10
  · rw [if_pos c2] at H
    have c2b0 : decide (a0 < 10) = true := decide_eq_true c2
    clear c2
    obtain rfl := Option.some.inj H
    go_enter Tryz.func11, Tryz.ntmps11
    go_wp2
    go_ret
    exact ⟨by first | rfl | (simp; done) | (simp [*]; done), by repeat (first | exact Drawn0.refl _ | apply Drawn0.step)⟩
  · rw [if_neg c2] at H
    have c2b0 : decide (a0 < 10) = false := decide_eq_false c2
    clear c2
    replace H := Option.bind_eq_some_iff.mp H
    obtain ⟨t101, A30, H⟩ := H
    replace H : (if t101.size + (Utf8.encode (wrap32 (IntKind.u64.wrap (48 + (Int.tmod a0 10))))).size ≤ 9223372036854775807 then (some (t101 ++ (Utf8.encode (wrap32 (IntKind.u64.wrap (48 + (Int.tmod a0 10))))))) else (none)) = some r := H
    have A3 := Aside0.mk A30
    clear A30
    by_cases c4 : t101.size + (Utf8.encode (wrap32 (IntKind.u64.wrap (48 + (Int.tmod a0 10))))).size ≤ 9223372036854775807
    · rw [if_pos c4] at H
      have c4b0 := eq_true c4
      have c4b1 : decide (t101.size + (Utf8.encode (wrap32 (IntKind.u64.wrap (48 + (Int.tmod a0 10))))).size ≤ 9223372036854775807) = true := decide_eq_true c4
      try have c4b2 : (9223372036854775807 < t101.size + (Utf8.encode (wrap32 (IntKind.u64.wrap (48 + (Int.tmod a0 10))))).size) = False := eq_false (Nat.not_lt.2 c4)
      try (have c4b3 := c4; simp only [ByteArray.size_append, lit_size, List.length_cons, List.length_nil, Nat.zero_add, Nat.reduceAdd] at c4b3)
      obtain rfl := Option.some.inj H
      go_enter Tryz.func11, Tryz.ntmps11
      go_wp2_with (first | ((with_reducible refine gate_callee (f := 11) rfl ?_); refine goesL_ (some 11) rfl rfl Tryz.func11 (by kernel_rfl) rfl #[.int .u64 (IntKind.u64.wrap (Int.tdiv a0 10))] rfl (by (try simp only [List.map_toArray, List.map_cons, List.map_nil]); first | done | rfl | (simp only [List.length_drop, List.length_take]; rfl)) ?_; (with_reducible refine (ih k (by omega) (IntKind.u64.wrap (Int.tdiv a0 10)) t101 _ A3.out).mono ?_); rintro e w' ⟨rfl, ⟨nd, rfl⟩⟩; refine ⟨_, rfl, ?_⟩))
      go_ret
      exact ⟨by first | rfl | (simp; done) | (simp [*]; done), by repeat (first | exact Drawn0.refl _ | apply Drawn0.step)⟩
    · rw [if_neg c4] at H
      exact absurd H (by simp)
end Go.Proofs.YtlghdacdpkaoeaaGreatDoor.PFnMasterLoose
end
