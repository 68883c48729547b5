import Derived.Test.YtlghdacdpkaoeaaGreatDoorK06
import Derived.Test.YtlghdacdpkaoeaaGreatDoorK07
import Derived.Test.YtlghdacdpkaoeaaGreatDoorK12
import Derived.Test.YtlghdacdpkaoeaaGreatDoorK11
import Derived.WalkLawsBesides
import Derived.Deep.AppendLies
import Derived.Deep.RegionLaw
import Derived.Maps.AppendAt
import Derived.IntWalk
import Derived.Maps.Own
import Derived.Maps.OwnSet
import Derived.Maps.StringElems
import Derived.Deep.QuietTactic
import Derived.BigQuiet
import Derived.Laws.Rows
import Derived.Laws.OwnMore
section
namespace Go.Proofs.YtlghdacdpkaoeaaGreatDoor
open Go.RowKit Go.Proofs.YtlghdacdpkaoeaaGreatDoorW.PrintWords
open Go.Lib hiding intOf
set_option linter.unusedVariables false
set_option linter.unusedSimpArgs false
def nameB (c : UInt8) : Bool := (97 ≤ c && c ≤ 122) || (65 ≤ c && c ≤ 90) || (48 ≤ c && c ≤ 57) || c == 95 || c == 45
theorem nameB_f (c : UInt8) : PFnMasterLoose.m3u8_zzNameByte.f (c.toNat : Nat) = some (nameB c) := by
  have h : ∀ i : Fin 256, PFnMasterLoose.m3u8_zzNameByte.f ((UInt8.ofNat i.val).toNat : Nat) = some (nameB (UInt8.ofNat i.val)) := by decide +kernel
  have := h ⟨c.toNat, c.toNat_lt⟩
  simpa using this
theorem zzNameByte_calls (a : Int) (c : UInt8) (w : World) (ha : Hid (a = (c.toNat : Nat))) :
    Calls Tryz.prog 85 #[.int .u8 a] w fun e w' => e = .returned (.bool (nameB c)) ∧ Drawn0 w w' := by
  rw [ha.out]
  exact PFnMasterLoose.m3u8_zzNameByte.calls _ _ w (nameB_f c)
theorem bs_at {l : List UInt8} {k : Nat} {c : UInt8} (h : l[k]? = some c) : ∃ hk : k < (bs l).size, (bs l)[k] = c := by
  obtain ⟨hk, e⟩ := List.getElem?_eq_some_iff.1 h
  exact ⟨by rw [bs_size]; exact hk, by rw [bs_get]; exact e⟩
set_option maxRecDepth 100000 in
set_option maxHeartbeats 1000000 in
theorem zzValue_quoted (s : ByteArray) (v r : List UInt8) (w : World) (hs : s = bs (34 :: (v ++ 34 :: r))) (hv : v ≠ []) (h34 : (34 : UInt8) ∉ v) (hsz : s.size ≤ 100000) :
    Calls Tryz.prog 86 #[.string s] w fun e w' => e = .returned (.int .i64 ((v.length + 2 : Nat) : Int)) ∧ Drawn0 w w' := by
  have hz : s.size = v.length + 2 + r.length := by rw [hs, bs_size]; simp; omega
  have hv1 : 1 ≤ v.length := List.length_pos_iff.2 hv
  have hat : ∀ k, k < v.length + 1 → 1 ≤ k → ∃ hk : k < s.size, s[k] ≠ 34 := by
    intro k h1 h2
    have : (34 :: (v ++ 34 :: r))[k]? = some (v[k-1]'(by omega)) := by
      rw [List.getElem?_cons, if_neg (by omega), List.getElem?_append_left (by omega)]; simp
    obtain ⟨hk, e⟩ := bs_at this
    subst hs
    refine ⟨hk, ?_⟩
    rw [e]; intro h; exact h34 (h ▸ List.getElem_mem _)
  have hend : ∃ hk : v.length + 1 < s.size, s[v.length + 1] = 34 := by
    have : (34 :: (v ++ 34 :: r))[v.length + 1]? = some 34 := by simp
    subst hs; exact bs_at this
  have h0 : ∃ hk : 0 < s.size, s[0] = 34 := by
    have : (34 :: (v ++ 34 :: r))[0]? = some 34 := by simp
    subst hs; exact bs_at this
  obtain ⟨hk0, e0⟩ := h0
  obtain ⟨hke, ee⟩ := hend
  have t0 : (((s[0].toNat : Nat) : Int) == 34) = true := by rw [e0]; rfl
  have HAT := Lib.hid hat
  have HE := Lib.hid ee
  have HZ := Lib.hid hz
  clear hat ee e0 hz hs hv h34
  go_enter Tryz.func86, Tryz.ntmps86
  go_wp2
  go_loopw [3] (fun v3 wr => ∃ k : Nat, v3 = .int .i64 k ∧ 1 ≤ k ∧ k ≤ v.length + 1 ∧ Drawn0 w wr) (fun i _ => (v.length + 1 - (intOf i).toNat))
  case atStart => exact ⟨1, rfl, by omega, by omega, Drawn0.refl _⟩
  case round =>
    obtain ⟨k, rfl, hk1, hk2, ⟨q, rfl⟩⟩ := hrel
    by_cases hlt : k < v.length + 1
    · obtain ⟨hks, hne⟩ := HAT.out k hlt hk1
      have ne : ¬ ((s[k].toNat : Nat) : Int) = 34 := fun e => hne (by apply UInt8.toNat_inj.1; show s[k].toNat = 34; omega)
      have t1 : (((s[k].toNat : Nat) : Int) != 34) = true := by simpa using ne
      have hks' : (k : Int) < s.size := by omega
      clear hne ne
      go_wp2
      go_roundw
      case rel => exact ⟨k + 1, by go_num, by omega, by omega, ⟨q, rfl⟩⟩
      case measure => simp [intOf]; omega
    · obtain rfl : v.length + 1 = k := by omega
      have t1 : (((s[v.length + 1].toNat : Nat) : Int) != 34) = false := by rw [HE.out]; rfl
      have hle : ((v.length + 1 : Nat) : Int) < s.size := by omega
      have h2 : (1 : Int) < ((v.length + 1 : Nat) : Int) := by omega
      go_wp2
      go_ret
      exact ⟨ret_int (by omega), ⟨q, rfl⟩⟩
set_option maxRecDepth 100000 in
set_option maxHeartbeats 1000000 in
theorem zzValue_plain (s : ByteArray) (v r : List UInt8) (w : World) (hs : s = bs (v ++ r)) (hv : v ≠ []) (h34 : ∀ c ∈ v, c ≠ 34 ∧ c ≠ 44) (hr : r = [] ∨ r.head? = some 44) (hsz : s.size ≤ 100000) :
    Calls Tryz.prog 86 #[.string s] w fun e w' => e = .returned (.int .i64 ((v.length : Nat) : Int)) ∧ Drawn0 w w' := by
  have hz : s.size = v.length + r.length := by rw [hs, bs_size]; simp
  have hv1 : 1 ≤ v.length := List.length_pos_iff.2 hv
  have hat : ∀ k, k < v.length → ∃ hk : k < s.size, s[k] ≠ 34 ∧ s[k] ≠ 44 := by
    intro k h1
    have : (v ++ r)[k]? = some (v[k]'h1) := by
      rw [List.getElem?_append_left h1]; simp
    obtain ⟨hk, e⟩ := bs_at this
    subst hs
    refine ⟨hk, ?_⟩
    rw [e]; exact h34 _ (List.getElem_mem _)
  have hend : (r = [] ∧ s.size ≤ v.length) ∨ ∃ hk : v.length < s.size, s[v.length] = 44 := by
    rcases hr with rfl | hr
    · exact .inl ⟨rfl, by rw [hz]; simp⟩
    · right
      have : (v ++ r)[v.length]? = some 44 := by
        rw [List.getElem?_append_right (Nat.le_refl _)]; simp
        cases r with
        | nil => simp at hr
        | cons a r => simpa using hr
      subst hs; exact bs_at this
  obtain ⟨hk0, e0, e0'⟩ := hat 0 (by omega)
  have ne0 : ¬ ((s[0].toNat : Nat) : Int) = 34 := fun e => e0 (by apply UInt8.toNat_inj.1; show s[0].toNat = 34; omega)
  have t0 : (((s[0].toNat : Nat) : Int) == 34) = false := by simpa using ne0
  have HAT := Lib.hid hat
  have HE := Lib.hid hend
  have hle : v.length ≤ s.size := by omega
  clear hat hend e0 e0' ne0 hz hs hv h34 hr
  go_enter Tryz.func86, Tryz.ntmps86
  go_wp2
  go_loopw [3] (fun v3 wr => ∃ k : Nat, v3 = .int .i64 k ∧ k ≤ v.length ∧ Drawn0 w wr) (fun i _ => (v.length - (intOf i).toNat))
  case atStart => exact ⟨0, rfl, by omega, Drawn0.refl _⟩
  case round =>
    obtain ⟨k, rfl, hk2, ⟨q, rfl⟩⟩ := hrel
    by_cases hlt : k < v.length
    · obtain ⟨hks, hne, hne'⟩ := HAT.out k hlt
      have ne : ¬ ((s[k].toNat : Nat) : Int) = 34 := fun e => hne (by apply UInt8.toNat_inj.1; show s[k].toNat = 34; omega)
      have ne' : ¬ ((s[k].toNat : Nat) : Int) = 44 := fun e => hne' (by apply UInt8.toNat_inj.1; show s[k].toNat = 44; omega)
      have t1 : (((s[k].toNat : Nat) : Int) != 34) = true := by simpa using ne
      have t2 : (((s[k].toNat : Nat) : Int) != 44) = true := by simpa using ne'
      have hks' : (k : Int) < s.size := by omega
      clear hne ne hne' ne'
      go_wp2
      go_roundw
      case rel => exact ⟨k + 1, by go_num, by omega, ⟨q, rfl⟩⟩
      case measure => simp [intOf]; omega
    · obtain rfl : v.length = k := by omega
      rcases HE.out with ⟨_, hge⟩ | ⟨hlt2, h44⟩
      · go_wp2
        go_ret
        exact ⟨rfl, ⟨q, rfl⟩⟩
      · have t1 : (((s[v.length].toNat : Nat) : Int) != 34) = true := by rw [h44]; rfl
        have t2 : (((s[v.length].toNat : Nat) : Int) != 44) = false := by rw [h44]; rfl
        have hks' : (v.length : Int) < s.size := by omega
        have H44 := Lib.hid h44
        clear h44
        go_wp2
        go_ret
        exact ⟨rfl, ⟨q, rfl⟩⟩
end Go.Proofs.YtlghdacdpkaoeaaGreatDoor
end
section
namespace Go.Proofs.YtlghdacdpkaoeaaGreatDoor
open Go.RowKit Go.Proofs.YtlghdacdpkaoeaaGreatDoorW.PrintWords
open Go.Lib hiding intOf
set_option linter.unusedVariables false
set_option linter.unusedSimpArgs false
structure Plain (v : List UInt8) : Prop where
  ne : v ≠ []
  head : v.head? ≠ some 32 ∧ v.head? ≠ some 34
  last : v.getLast? ≠ some 32 ∧ v.getLast? ≠ some 34
def raw (q : Bool) (v : List UInt8) : List UInt8 := if q then 34 :: (v ++ [34]) else v
def strSize : Value → Nat
  | .string s => s.size
  | _ => 0
theorem bs_first {l : List UInt8} (h : 0 < (bs l).size) : l.head? = some ((bs l)[0]) := by
  rw [bs_get]; cases l with
  | nil => simp [bs_size] at h
  | cons a l => simp
theorem bs_last {l : List UInt8} (h : (bs l).size - 1 < (bs l).size) : l.getLast? = some ((bs l)[(bs l).size - 1]) := by
  rw [bs_get, List.getLast?_eq_getElem?]
  simp only [bs_size] at h ⊢
  exact List.getElem?_eq_getElem _
theorem bs_drop1 (l : List UInt8) : (bs l).extract 1 (bs l).size = bs (l.drop 1) := by
  apply ByteArray.ext
  rw [ByteArray.data_extract]
  simp only [bs, ByteArray.size]
  apply Array.ext'
  rw [Array.toList_extract]
  simp only [List.extract_eq_take_drop, List.drop_one]
  exact List.take_of_length_le (by simp)
theorem bs_dropLast (l : List UInt8) : (bs l).extract 0 ((bs l).size - 1) = bs l.dropLast := by
  apply ByteArray.ext
  rw [ByteArray.data_extract]
  simp only [bs, ByteArray.size]
  apply Array.ext'
  simp [List.dropLast_eq_take]
theorem neB {c : UInt8} {n : Nat} (hn : n < 256) (h : c ≠ UInt8.ofNat n) : (((c.toNat : Nat) : Int) == (n : Int)) = false := by
  rw [beq_eq_false_iff_ne]
  intro e; apply h; apply UInt8.toNat_inj.1
  have : c.toNat = n := by omega
  rw [this, UInt8.toNat_ofNat']; omega
theorem eqB {c : UInt8} {n : Nat} (hn : n < 256) (h : c = UInt8.ofNat n) : (((c.toNat : Nat) : Int) == (n : Int)) = true := by
  rw [beq_iff_eq, h, UInt8.toNat_ofNat']
  have : n % 2 ^ 8 = n := by omega
  rw [this]
set_option maxRecDepth 100000 in
set_option maxHeartbeats 2000000 in
theorem zzTrim_calls (q : Bool) (v : List UInt8) (w : World) (hv : Plain v) (hsz : v.length ≤ 100000) :
    Calls Tryz.prog 64 #[.string (bs (raw q v))] w fun e w' => e = .returned (.string (bs v)) ∧ Drawn0 w w' := by
  have hv1 : 1 ≤ v.length := List.length_pos_iff.2 hv.ne
  have HV := Lib.hid hv
  clear hv
  obtain ⟨r0, hr0⟩ : ∃ r, r = raw q v := ⟨_, rfl⟩
  obtain ⟨r1, hr1⟩ : ∃ r, r = if q then v ++ [34] else v := ⟨_, rfl⟩
  have hlen0 : (bs r0).size ≤ 100002 := by rw [bs_size, hr0]; unfold raw; cases q <;> simp <;> omega
  have hlen1 : (bs r1).size ≤ 100001 := by rw [bs_size, hr1]; cases q <;> simp <;> omega
  have hlenv : (bs v).size ≤ 100000 := by rw [bs_size]; exact hsz
  have hp0 : 0 < (bs r0).size := by rw [bs_size, hr0]; unfold raw; cases q <;> simp; omega
  have hp1 : 0 < (bs r1).size := by rw [bs_size, hr1]; cases q <;> simp; omega
  have hpv : 0 < (bs v).size := by rw [bs_size]; omega
  have h1f : r1.head? = v.head? := by
    rw [hr1]; cases q
    · rfl
    · cases v with
      | nil => simp at hv1
      | cons a v => simp
  rw [← hr0]
  have HR0 := Lib.hid hr0
  have HR1 := Lib.hid hr1
  have H1F := Lib.hid h1f
  clear hr0 hr1 h1f
  go_enter Tryz.func64, Tryz.ntmps64
  go_wp2
  go_loopw [0] (fun v0 wr => ∃ r, v0 = .string (bs r) ∧ (r = r0 ∨ r = r1) ∧ Drawn0 w wr) (fun v _ => strSize v)
  case atStart => exact ⟨r0, rfl, .inl rfl, Drawn0.refl _⟩
  case round =>
    obtain ⟨r, rfl, hor, ⟨k, rfl⟩⟩ := hrel
    by_cases hd : r.head? = some 34
    · have hr : r = r0 ∧ (bs r0).extract 1 (bs r0).size = bs r1 := by
        have hq : q = true ∧ r = r0 := by
          rcases hor with h | h
          · refine ⟨?_, h⟩
            cases q
            · rw [h, HR0.out] at hd; exact absurd hd HV.out.head.2
            · rfl
          · rw [h, H1F.out] at hd; exact absurd hd HV.out.head.2
        refine ⟨hq.2, ?_⟩
        rw [bs_drop1, HR0.out, HR1.out, hq.1]
        simp [raw]
      obtain ⟨rfl, he⟩ := hr
      have e0 := bs_first hp0
      rw [hd] at e0
      have e0 := Option.some.inj e0
      have t1 : ((((bs r)[0]).toNat : Int) == 32) = false := neB (n := 32) (by decide) (by rw [← e0]; decide)
      have t2 : ((((bs r)[0]).toNat : Int) == 34) = true := eqB (n := 34) (by decide) (by rw [← e0]; rfl)
      have hlt : ((bs r).extract 1 (bs r).size).size < (bs r).size := by
        rw [bs_drop1, bs_size, bs_size, List.length_drop]; rw [bs_size] at hp0; omega
      have HE := Lib.hid he
      have HLT := Lib.hid hlt
      clear he e0 hd hor hlt
      go_wp2
      go_roundw
      case rel => exact ⟨r1, by rw [HE.out], .inr rfl, ⟨k, rfl⟩⟩
      case measure => exact HLT.out
    · have hr : r = r1 := by
        rcases hor with h | h
        · cases q
          · rw [h, HR0.out, HR1.out]; rfl
          · exfalso; apply hd; rw [h, HR0.out]; simp [raw]
        · exact h
      subst hr
      have e0 := bs_first hp1
      have t1 : ((((bs r)[0]).toNat : Int) == 32) = false := neB (n := 32) (by decide) (by intro h; rw [h, H1F.out] at e0; exact HV.out.head.1 e0)
      have t2 : ((((bs r)[0]).toNat : Int) == 34) = false := neB (n := 34) (by decide) (by intro h; rw [h] at e0; exact hd e0)
      clear e0 hd hor
      go_wp2
      go_loopw [0] (fun v0 wr => ∃ x, v0 = .string (bs x) ∧ (x = r ∨ x = v) ∧ Drawn0 w wr) (fun v _ => strSize v)
      case atStart => exact ⟨r, rfl, .inl rfl, ⟨k, rfl⟩⟩
      case round =>
        clear t1 t2
        obtain ⟨x, rfl, hor, ⟨k2, rfl⟩⟩ := hrel
        by_cases hd : x.getLast? = some 34
        · have hx : x = r ∧ (bs r).extract 0 ((bs r).size - 1) = bs v := by
            rcases hor with h | h
            · refine ⟨h, ?_⟩
              cases q
              · exfalso; rw [h, HR1.out] at hd; exact HV.out.last.2 hd
              · rw [bs_dropLast, HR1.out]; simp
            · exfalso; rw [h] at hd; exact HV.out.last.2 hd
          obtain ⟨rfl, he⟩ := hx
          have hl : (bs x).size - 1 < (bs x).size := by omega
          have e0 := bs_last hl
          rw [hd] at e0
          have e0 := Option.some.inj e0
          have t1 : ((((bs x)[(bs x).size - 1]).toNat : Int) == 32) = false := neB (n := 32) (by decide) (by rw [← e0]; decide)
          have t2 : ((((bs x)[(bs x).size - 1]).toNat : Int) == 34) = true := eqB (n := 34) (by decide) (by rw [← e0]; rfl)
          have hlt : ((bs x).extract 0 ((bs x).size - 1)).size < (bs x).size := by
            rw [bs_dropLast, bs_size, bs_size, List.length_dropLast]; rw [bs_size] at hp1; omega
          have HE := Lib.hid he
          have HLT := Lib.hid hlt
          clear he e0 hd hor hlt
          go_wp2
          go_roundw
          case rel => exact ⟨v, by rw [← HE.out], .inr rfl, ⟨k2, rfl⟩⟩
          case measure => exact HLT.out
        · have hx : x = v := by
            rcases hor with h | h
            · cases q
              · rw [h, HR1.out]; rfl
              · exfalso; apply hd; rw [h, HR1.out]; simp
            · exact h
          subst hx
          have hl : (bs x).size - 1 < (bs x).size := by omega
          have e0 := bs_last hl
          have t1 : ((((bs x)[(bs x).size - 1]).toNat : Int) == 32) = false := neB (n := 32) (by decide) (by intro h; rw [h] at e0; exact HV.out.last.1 e0)
          have t2 : ((((bs x)[(bs x).size - 1]).toNat : Int) == 34) = false := neB (n := 34) (by decide) (by intro h; rw [h] at e0; exact hd e0)
          clear e0 hd hor
          go_wp2
          go_ret
          exact ⟨rfl, ⟨k2, rfl⟩⟩
end Go.Proofs.YtlghdacdpkaoeaaGreatDoor
end
section
namespace Go.Proofs.YtlghdacdpkaoeaaGreatDoor
open Go.RowKit Go.Proofs.YtlghdacdpkaoeaaGreatDoorW.PrintWords
open Go.Lib hiding intOf
set_option linter.unusedVariables false
set_option linter.unusedSimpArgs false
structure Attr where
  name : List UInt8
  q : Bool
  val : List UInt8
structure Attr.Ok (a : Attr) : Prop where
  name0 : a.name ≠ []
  names : ∀ c ∈ a.name, nameB c = true
  plain : Plain a.val
  quoted : a.q = true → (34 : UInt8) ∉ a.val
  bare : a.q = false → ∀ c ∈ a.val, c ≠ 34 ∧ c ≠ 44
def Attr.text (a : Attr) : List UInt8 := a.name ++ 61 :: raw a.q a.val
def tailText : List Attr → List UInt8
  | [] => []
  | a :: r => 44 :: (a.text ++ tailText r)
def attrsText : List Attr → List UInt8
  | [] => []
  | a :: r => a.text ++ tailText r
theorem raw_ne {a : Attr} (h : a.Ok) : raw a.q a.val ≠ [] := by
  unfold raw; split
  · simp
  · exact h.plain.ne
theorem raw_len (q : Bool) (v : List UInt8) : (raw q v).length = if q then v.length + 2 else v.length := by
  cases q <;> simp [raw]
theorem tail_head (r : List Attr) : tailText r = [] ∨ (tailText r).head? = some 44 := by
  cases r with
  | nil => exact .inl rfl
  | cons a r => exact .inr rfl
def pairCells (ats : List Attr) : List Value := ats.flatMap fun a => [.string (bs a.name), .string (bs (raw a.q a.val))]
theorem pairCells_snoc (ats : List Attr) (a : Attr) : pairCells (ats ++ [a]) = pairCells ats ++ [.string (bs a.name), .string (bs (raw a.q a.val))] := by
  simp [pairCells]
def KV (s : List UInt8) (ats done : List Attr) (k : Nat) : Prop := ∃ rest, ats = done ++ rest ∧ k ≤ s.length ∧ (s.drop k = attrsText rest ∨ s.drop k = tailText rest)
theorem drop_get {s t u : List UInt8} {k : Nat} (h : s.drop k = t ++ u) (i : Nat) (hi : i < t.length) : s[k + i]? = some t[i] := by
  have : (s.drop k)[i]? = some t[i] := by rw [h, List.getElem?_append_left hi]; simp
  rwa [List.getElem?_drop] at this
theorem drop_more {s t u : List UInt8} {k : Nat} (h : s.drop k = t ++ u) : s.drop (k + t.length) = u := by
  rw [← List.drop_drop, h]; simp
theorem bs_ext {s t u : List UInt8} {k : Nat} (h : s.drop k = t ++ u) : (bs s).extract k (k + t.length) = bs t := by
  apply ByteArray.ext
  rw [ByteArray.data_extract]
  apply Array.ext'
  rw [Array.toList_extract]
  simp only [bs, List.extract_eq_take_drop]
  rw [h, Nat.add_sub_cancel_left]; simp
theorem bs_rest {s t : List UInt8} {k : Nat} (h : s.drop k = t) : (bs s).extract k (bs s).size = bs t := by
  apply ByteArray.ext
  rw [ByteArray.data_extract]
  apply Array.ext'
  rw [Array.toList_extract]
  simp only [bs, List.extract_eq_take_drop, ByteArray.size]
  rw [← h]
  apply List.take_of_length_le
  simp
theorem KV.step {s : List UInt8} {ats done : List Attr} {k : Nat} (h : KV s ats done k) (hok : ∀ a ∈ ats, a.Ok) (hk : k < s.length) :
    (s[k]? = some 44 ∧ KV s ats done (k + 1)) ∨
    ∃ a rest, ats = done ++ a :: rest ∧ a.Ok ∧ s.drop k = a.name ++ 61 :: (raw a.q a.val ++ tailText rest) ∧ KV s ats (done ++ [a]) (k + a.name.length + 1 + (raw a.q a.val).length) := by
  obtain ⟨rest, h1, h2, h3⟩ := h
  have key : ∀ rest, ats = done ++ rest → s.drop k = attrsText rest → ∃ a rest', ats = done ++ a :: rest' ∧ a.Ok ∧ s.drop k = a.name ++ 61 :: (raw a.q a.val ++ tailText rest') ∧ KV s ats (done ++ [a]) (k + a.name.length + 1 + (raw a.q a.val).length) := by
    intro rest h1 h3
    cases rest with
    | nil =>
      exfalso
      have : s.length ≤ k := by simpa [attrsText] using h3
      omega
    | cons a r =>
      have h4 : s.drop k = (a.name ++ 61 :: raw a.q a.val) ++ tailText r := by rw [h3]; simp [attrsText, Attr.text]
      refine ⟨a, r, h1, hok a (by rw [h1]; simp), by rw [h4]; simp, r, by simp [h1], ?_, .inr ?_⟩
      · have := congrArg List.length h4
        simp at this; omega
      · have := drop_more h4
        rw [← this]; congr 1; simp; omega
  rcases h3 with h3 | h3
  · exact .inr (key rest h1 h3)
  · cases rest with
    | nil =>
      exfalso
      have : s.length ≤ k := by simpa [tailText] using h3
      omega
    | cons a r =>
      refine .inl ⟨?_, a :: r, h1, by omega, .inl ?_⟩
      · have := drop_get (t := [44]) (u := a.text ++ tailText r) (by rw [h3]; rfl) 0 (by simp)
        simpa using this
      · have := drop_more (t := [44]) (u := a.text ++ tailText r) (by rw [h3]; rfl)
        simpa [attrsText] using this
theorem KV.end {s : List UInt8} {ats done : List Attr} {k : Nat} (h : KV s ats done k) (hok : ∀ a ∈ ats, a.Ok) (hk : s.length ≤ k) : done = ats := by
  obtain ⟨rest, h1, h2, h3⟩ := h
  rw [List.drop_eq_nil_of_le hk] at h3
  cases rest with
  | nil => simp [h1]
  | cons a r =>
    exfalso
    have := (hok a (by rw [h1]; simp)).name0
    rcases h3 with h3 | h3
    · simp [attrsText, Attr.text] at h3
    · simp [tailText] at h3
theorem info147 : (Tryz.prog.info? 147).map (fun i => (i.zero, i.size, i.bytes)) = some (some (.agg #[.string (bs []), .string (bs [])]), 2, 32) := by kernel_rfl
theorem own_base {w : World} {base : Nat} {e : TypeId} {sz : Nat} {v : Value} {n : Nat} {xs : List Value} (h : w.ownsRow base e sz v n xs) : ∀ j, v.ownBlock = some j → base ≤ j := by
  intro j hj
  rcases h.2 with ⟨rfl, _⟩ | ⟨g, cap, cur, rfl, hb, _⟩
  · cases hj
  · cases hj; exact hb
theorem zzNameByte_is (b : Bool) (a : Int) (c : UInt8) (w : World) (ha : Hid (a = (c.toNat : Nat))) (hb : Hid (nameB c = b)) :
    Calls Tryz.prog 85 #[.int .u8 a] w fun e w' => e = .returned (.bool b) ∧ Drawn0 w w' := by
  rw [← hb.out]; exact zzNameByte_calls a c w ha
theorem zzValue_calls (a : Attr) (r : List Attr) (S : ByteArray) (V : Nat) (w : World) (h : Hid (S = bs (raw a.q a.val ++ tailText r))) (hok : Hid a.Ok) (hV : Hid (V = (raw a.q a.val).length)) (hS : S.size ≤ 100000) :
    Calls Tryz.prog 86 #[.string S] w fun e w' => e = .returned (.int .i64 V) ∧ Drawn0 w w' := by
  obtain ⟨n, q, v⟩ := a
  have hok := hok.out
  rw [hV.out]
  cases q
  · exact zzValue_plain S v (tailText r) w h.out hok.plain.ne (hok.bare rfl) (tail_head r) hS
  · have := zzValue_quoted S v (tailText r) w (by rw [h.out]; simp [raw]) hok.plain.ne (hok.quoted rfl) hS
    rw [raw_len]; exact this
set_option maxRecDepth 100000 in
set_option maxHeartbeats 4000000 in
theorem reKeyValue_calls (ats : List Attr) (w : World) (hok : ∀ a ∈ ats, a.Ok) (hsz : (attrsText ats).length ≤ 100000) :
    Calls Tryz.prog 63 #[.string (bs (attrsText ats))] w fun e w' => ∃ v, e = .returned v ∧ w'.ownsRow w.heap.size 147 2 v ats.length (pairCells ats) ∧ Below w.heap.size w w' := by
  obtain ⟨s, hs⟩ : ∃ s, s = attrsText ats := ⟨_, rfl⟩
  rw [← hs] at hsz ⊢
  have hsz' : (bs s).size ≤ 100000 := by rw [bs_size]; exact hsz
  have hkv : KV s ats [] 0 := ⟨ats, rfl, by omega, .inl (by rw [hs]; rfl)⟩
  obtain ⟨i0, hi, hz0, hz1, hz2⟩ := info_parts info147
  have HKV := Lib.hid hkv
  have HOK := Lib.hid hok
  clear hs hkv hok
  go_enter Tryz.func63, Tryz.ntmps63
  go_wp2
  go_loopw [4, 3] (fun v4 v3 wr => ∃ (k : Nat) (done : List Attr), v4 = .int .i64 k ∧ Hid (KV s ats done k) ∧ k ≤ (bs s).size ∧ done.length ≤ k ∧ wr.ownsRow w.heap.size 147 2 v3 done.length (pairCells done) ∧ Below w.heap.size w wr) (fun i _ _ => ((bs s).size - (intOf i).toNat))
  case atStart => exact ⟨0, [], rfl, HKV, by omega, by simp, World.ownsRow_nil _ _ _ _, Below.refl _ _⟩
  case round =>
    obtain ⟨k, done, rfl, hkv, hk, hdl, hown, hbel⟩ := hrel
    by_cases hlt : k < (bs s).size
    ·
      have hlt' : k < s.length := by rw [bs_size] at hlt; exact hlt
      obtain ⟨L, hL, hname, hstop, hstep⟩ : ∃ L, k + L < (bs s).size ∧ (∀ j, k ≤ j → j < k + L → ∃ hj : j < (bs s).size, nameB ((bs s)[j]) = true) ∧ (∃ hj : k + L < (bs s).size, nameB ((bs s)[k + L]) = false) ∧
          ((L ≤ 0 ∧ KV s ats done (k + 1)) ∨ ∃ a rest, a.Ok ∧ 1 ≤ L ∧ L = a.name.length ∧ s.drop k = a.name ++ 61 :: (raw a.q a.val ++ tailText rest) ∧ KV s ats (done ++ [a]) (k + L + 1 + (raw a.q a.val).length)) := by
        rcases hkv.out.step HOK.out hlt' with ⟨h44, h⟩ | ⟨a, rest, h1, h2, h3, h4⟩
        · obtain ⟨hj, e⟩ := bs_at h44
          exact ⟨0, hlt, fun j h1 h2 => by omega, ⟨hlt, by show nameB ((bs s)[k]) = false; rw [e]; decide⟩, .inl ⟨by omega, h⟩⟩
        · have h61 := drop_get (t := a.name ++ [61]) (u := raw a.q a.val ++ tailText rest) (by rw [h3]; simp) a.name.length (by simp)
          simp at h61
          obtain ⟨hj, e⟩ := bs_at h61
          refine ⟨a.name.length, hj, fun j h5 h6 => ?_, ⟨hj, by rw [e]; decide⟩, .inr ⟨a, rest, h2, List.length_pos_iff.2 h2.name0, rfl, h3, h4⟩⟩
          have hn := drop_get h3 (j - k) (by omega)
          rw [Nat.add_sub_cancel' h5] at hn
          obtain ⟨hj', e'⟩ := bs_at hn
          exact ⟨hj', by rw [e']; exact h2.names _ (List.getElem_mem _)⟩
      have HSTEP := Lib.hid hstep
      clear hstep
      have HN := Lib.hid hname
      have HST := Lib.hid hstop
      clear hname hstop
      go_wp2
      obtain ⟨wo, rfl⟩ : ∃ wo : World, wo = wr := ⟨_, rfl⟩
      go_loopw [5] (fun v5 w2 => ∃ e : Nat, v5 = .int .i64 e ∧ k ≤ e ∧ e ≤ k + L ∧ Drawn0 wo w2) (fun i _ => (k + L - (intOf i).toNat))
      case atStart => exact ⟨k, rfl, by omega, by omega, Drawn0.refl _⟩
      case round =>
        obtain ⟨e, rfl, he1, he2, ⟨q, rfl⟩⟩ := hrel
        by_cases hle : e < k + L
        · obtain ⟨hj, hnb⟩ := HN.out e he1 hle
          have HNB := Lib.hid hnb
          clear hnb
          go_wp2_with (go_at_call 85; refine (zzNameByte_is true _ ((bs s)[e]'hj) _ (Lib.hid rfl) HNB).mono ?_; rintro e2 w2 ⟨rfl, ⟨q2, rfl⟩⟩)
          go_roundw
          case rel => exact ⟨e + 1, by go_num, by omega, by omega, ⟨q + q2, rfl⟩⟩
          case measure => simp [intOf]; omega
        · obtain rfl : k + L = e := by omega
          obtain ⟨hj, hnb⟩ := HST.out
          have HNB := Lib.hid hnb
          clear hnb he1 he2 hle
          rcases HSTEP.out with ⟨hL0, hkv'⟩ | ⟨a, rest, hok, hL1, hLa, hdrop, hkv'⟩
          · have HKV' := Lib.hid hkv'
            clear hkv'
            go_wp2_with (go_at_call 85; refine (zzNameByte_is false _ ((bs s)[k + L]'hj) _ (Lib.hid rfl) HNB).mono ?_; rintro e2 w2 ⟨rfl, ⟨q2, rfl⟩⟩)
            go_roundw
            case rel => exact ⟨k + 1, done, by go_num, HKV', by omega, by omega, hown, below_drewN hbel _⟩
            case measure => simp [intOf]; omega
          · have h61 := drop_get (t := a.name ++ [61]) (u := raw a.q a.val ++ tailText rest) (by rw [hdrop]; simp) L (by simp; omega)
            have t61 : ((((bs s)[k + L]'hj).toNat : Int) != 61) = false := by
              obtain ⟨hj', e⟩ := bs_at h61
              have e2 : (bs s)[k + L]'hj = 61 := by rw [e]; simp [hLa]
              rw [e2]; rfl
            obtain ⟨V, hV⟩ : ∃ V, V = (raw a.q a.val).length := ⟨_, rfl⟩
            have hV1 : 1 ≤ V := by rw [hV]; exact List.length_pos_iff.2 (raw_ne hok)
            have hV0 : ((V : Int) == 0) = false := by simp; omega
            have hb1 : ((k : Int) + (L : Int) == (k : Int)) = false := by rw [beq_eq_false_iff_ne]; omega
            have hb2 : ((k : Int) + (L : Int) == ((bs s).size : Int)) = false := by rw [beq_eq_false_iff_ne]; omega
            have hrest := drop_more (t := a.name ++ [61]) (u := raw a.q a.val ++ tailText rest) (by rw [hdrop]; simp)
            have hrest' : s.drop (k + L + 1) = raw a.q a.val ++ tailText rest := by rw [← hrest]; congr 1; simp [hLa]; omega
            have hS := bs_rest hrest'
            have hfit : k + L + 1 + V ≤ (bs s).size := by
              have := congrArg List.length hrest'
              rw [bs_size]
              simp at this; omega
            have hs1 := bs_ext hdrop
            rw [← hLa] at hs1
            have hs2 := bs_ext hrest'
            rw [← hV] at hs2 hkv'
            have HS := Lib.hid hS
            have HOKA := Lib.hid hok
            have HV := Lib.hid hV
            have HS1 := Lib.hid hs1
            have HS2 := Lib.hid hs2
            have HKV' := Lib.hid hkv'
            have hSz : ((bs s).extract (k + L + 1) (bs s).size).size ≤ 100000 := by rw [ByteArray.size_extract]; omega
            have HSz := Lib.hid hSz
            clear h61 hrest hrest' hS hok hV hs1 hs2 hkv' hdrop hLa hSz
            go_wp2_with (first
              | (go_at_call 85; refine (zzNameByte_is false _ ((bs s)[k + L]'hj) _ (Lib.hid rfl) HNB).mono ?_; rintro e2 w2 ⟨rfl, ⟨q2, rfl⟩⟩)
              | (go_at_call 86; refine (zzValue_calls a rest _ V _ HS HOKA HV HSz.out).mono ?_; rintro e3 w3 ⟨rfl, ⟨q3, rfl⟩⟩))
            have hown2 : (wo.drewN (q + q2 + q3)).ownsRow w.heap.size 147 2 u3 done.length (pairCells done) := hown
            have hbel2 : Below w.heap.size w (wo.drewN (q + q2 + q3)) := below_drewN hbel _
            generalize hwp : wo.drewN (q + q2 + q3) = wp at hown2 hbel2 ⊢
            clear hwp
            have ow1 : IntKind.i64.wrap ((k : Int) + (L : Int) + 1) = (k : Int) + (L : Int) + 1 := IntWalk.i64_in _ (by omega)
            have ow2 : IntKind.i64.wrap ((k : Int) + (L : Int) + 1 + (V : Int)) = (k : Int) + (L : Int) + 1 + (V : Int) := IntWalk.i64_in _ (by omega)
            have o1 : (k : Int) + (L : Int) ≤ ((bs s).size : Int) := by omega
            have o2 : (k : Int) ≤ (k : Int) + (L : Int) := by omega
            have o3 : (k : Int) + (L : Int) + 1 + (V : Int) ≤ ((bs s).size : Int) := by omega
            have o4 : (k : Int) + (L : Int) + 1 ≤ (k : Int) + (L : Int) + 1 + (V : Int) := by omega
            have o5 : 0 ≤ (k : Int) + (L : Int) := by omega
            have o6 : 0 ≤ (k : Int) + (L : Int) + 1 := by omega
            have o7 : 0 ≤ (k : Int) + (L : Int) + 1 + (V : Int) := by omega
            have o8 : ((k : Int) + (L : Int)).toNat = k + L := by omega
            have o9 : ((k : Int) + (L : Int) + 1).toNat = k + L + 1 := by omega
            have o10 : ((k : Int) + (L : Int) + 1 + (V : Int)).toNat = k + L + 1 + V := by omega
            have hbs : w.heap.size ≤ wp.heap.size := hbel2.size
            have hown3 := (hown2.drew.alloc (.cells #[.string ((bs s).extract k (k + L)), .string ((bs s).extract (k + L + 1) (k + L + 1 + V))] 147))
            have hb63 : done.length + 1 ≤ maxLen := by unfold maxLen; omega
            have hb47 : (done.length + 1) * 32 ≤ 140737488355328 := by omega
            have hone : ∀ u ∈ [Value.string ((bs s).extract k (k + L)), Value.string ((bs s).extract (k + L + 1) (k + L + 1 + V))], u.oneCell' = true := by
              intro u hu; simp at hu; rcases hu with rfl | rfl <;> rfl
            have hnews := cell_two_new wp.drew (.string ((bs s).extract k (k + L))) (.string ((bs s).extract (k + L + 1) (k + L + 1 + V))) 147
            have hbase : w.heap.size ≤ (wp.drew.alloc (.cells #[.string ((bs s).extract k (k + L)), .string ((bs s).extract (k + L + 1) (k + L + 1 + V))] 147)).heap.size := by simp; omega
            have HOWN3 := Lib.hid hown3
            have HNEWS := Lib.hid hnews
            have HONE := Lib.hid hone
            clear hown3 hnews hone
            go_region_law ((refine step_append_lies _ rfl _ _ 145 rfl w.heap.size 147 i0 _ 2 32 Tryz.underlying145 hi hz0 hz1 hz2 rfl (by decide) _ _ _ rfl HOWN3.out ⟨wp.heap.size, 0, none⟩ 1 1 [.string ((bs s).extract k (k + L)), .string ((bs s).extract (k + L + 1) (k + L + 1 + V))] rfl rfl HNEWS.out HONE.out (by decide) hb63 hb47 hbase _ rfl ?_; intro g cap w1 hown' hgrow hat hlt4))
            have hfin : pairCells done ++ [Value.string ((bs s).extract k (k + L)), Value.string ((bs s).extract (k + L + 1) (k + L + 1 + V))] = pairCells (done ++ [a]) := by
              rw [pairCells_snoc, HS1.out, HS2.out]
            rw [hfin] at hown'
            have hbel3 := (hbel2.drew.alloc hbs (.cells #[.string ((bs s).extract k (k + L)), .string ((bs s).extract (k + L + 1) (k + L + 1 + V))] 147)).grown hgrow hbase (own_base hown2)
            clear hgrow hat hown2 hbel2 hfin hbase ow1 ow2 o8 o9 o10
            go_wp2
            go_roundw
            case rel => exact ⟨k + L + 1 + V, done ++ [a], by go_num, HKV', by omega, by simp; omega, by simpa using hown', hbel3⟩
            case measure => simp [intOf]; omega
    · go_wp2
      have hd : done = ats := hkv.out.end HOK.out (by rw [bs_size] at hlt; omega)
      subst hd
      go_ret
      exact ⟨_, rfl, hown, hbel⟩
end Go.Proofs.YtlghdacdpkaoeaaGreatDoor
end
section
namespace Go.Proofs.YtlghdacdpkaoeaaGreatDoor
open Go.RowKit Go.Proofs.YtlghdacdpkaoeaaGreatDoorW.PrintWords Go.Maps Go.WideMaps
open Go.Lib hiding intOf
set_option linter.unusedVariables false
set_option linter.unusedSimpArgs false
theorem law9 : Keyed Tryz.prog 9 := string_keyed Tryz.underlying9
def mapD {H : Type} (ats : List Attr) : DataW H := ats.foldl (fun D a => D.put (.string a.name) (.lit (.string a.val))) (.map [])
theorem mapD_snoc {H : Type} (ats : List Attr) (a : Attr) : mapD (H := H) (ats ++ [a]) = (mapD ats).put (.string a.name) (.lit (.string a.val)) := by simp [mapD]
theorem ownsMap_of_block {H : Type} {P : Program} {k : TypeId} {R : Value → Option (DataW H × List MemPlace)} {w w' : World} {b n : Nat} {D : DataW H} (h : w.ownsMap P k R b n D) (hb : w'.heap[b]? = w.heap[b]?) : w'.ownsMap P k R b n D := by
  obtain ⟨es, c, h1, h2⟩ := h
  exact ⟨es, c, hb.trans h1, h2⟩
theorem own_cases {w : World} {base : Nat} {e : TypeId} {sz : Nat} {v : Value} {n : Nat} {xs : List Value} (h : w.ownsRow base e sz v n xs) :
    (v = .slice none 0 0 ∧ n = 0) ∨ ∃ g cap, v = .slice (some ⟨g, 0, none⟩) n cap ∧ base ≤ g ∧ n ≤ cap ∧ cap ≤ maxLen := by
  rcases h.2 with h | ⟨g, cap, cur, h1, h2, _, h3, h4, _⟩
  · exact .inl h
  · exact .inr ⟨g, cap, h1, h2, h3, h4⟩
theorem own_cell {w : World} {base : Nat} {e : TypeId} {sz : Nat} {g n cap : Nat} {xs : List Value} (h : w.ownsRow base e sz (.slice (some ⟨g, 0, none⟩) n cap) n xs) (i : Nat) (x : Value) (hx : xs[i]? = some x) :
    w.cell? ⟨g, i, none⟩ = some x := by
  obtain ⟨hl, h⟩ := h
  rcases h with ⟨h, _⟩ | ⟨g', cap', cur, h1, h2, h3, h4, h5, h6, h7⟩
  · cases h
  · cases h1
    rw [← h7] at hx
    simp only [World.cell?, h3]
    have : (cur.toList.take (n * sz))[i]? = some x := hx
    rw [List.getElem?_take] at this
    split at this
    · simpa using this
    · cases this
theorem attrs_len : ∀ ats : List Attr, (∀ a ∈ ats, a.Ok) → ats.length ≤ (attrsText ats).length
  | [], _ => by simp
  | a :: r, h => by
    have h1 := (h a (by simp)).name0
    have : r.length ≤ (tailText r).length := by
      clear h h1
      induction r with
      | nil => simp
      | cons b r ih => simp only [tailText, List.length_cons, List.length_append]; omega
    simp only [attrsText, List.length_cons, List.length_append, Attr.text]
    omega
theorem attr_len (ats : List Attr) (a : Attr) (h : a ∈ ats) : a.name.length + (raw a.q a.val).length ≤ (attrsText ats).length := by
  have key : ∀ ats : List Attr, a ∈ ats → a.name.length + (raw a.q a.val).length ≤ (tailText ats).length := by
    intro ats
    induction ats with
    | nil => intro h; cases h
    | cons b r ih =>
      intro h
      simp only [tailText, List.length_cons, List.length_append, Attr.text]
      rcases List.mem_cons.1 h with rfl | h
      · omega
      · have := ih h; omega
  cases ats with
  | nil => cases h
  | cons b r =>
    simp only [attrsText, List.length_append, Attr.text, List.length_cons]
    rcases List.mem_cons.1 h with rfl | h
    · omega
    · have := key r h; omega
theorem pairCells_get (ats : List Attr) (i : Nat) (h : i < ats.length) : (pairCells ats)[i * 2]? = some (.string (bs ats[i].name)) ∧ (pairCells ats)[i * 2 + 1]? = some (.string (bs (raw ats[i].q ats[i].val))) := by
  induction ats generalizing i with
  | nil => simp at h
  | cons a r ih =>
    cases i with
    | zero => simp [pairCells]
    | succ i =>
      have := ih i (by simpa using h)
      have e1 : (i + 1) * 2 = i * 2 + 2 := by omega
      rw [e1]
      simpa [pairCells] using this
set_option maxRecDepth 100000 in
set_option maxHeartbeats 4000000 in
theorem decodeParamsLine_calls {H : Type} (ats : List Attr) (w : World) (hok : ∀ a ∈ ats, a.Ok) (hsz : (attrsText ats).length ≤ 100000) :
    Calls Tryz.prog 50 #[.string (bs (attrsText ats))] w fun e w' => ∃ b, e = .returned (.map (some b)) ∧ w'.ownsMap Tryz.prog 9 (plainElem (H := H) Tryz.prog 9) b ats.length (mapD ats) ∧ w.heap.size ≤ b ∧ Below w.heap.size w w' := by
  have hmm := @run_makeMap Tryz.prog
  have hn : ats.length ≤ 100000 := Nat.le_trans (attrs_len ats hok) hsz
  have hc := Lib.hid (fun W => reKeyValue_calls ats W hok hsz)
  have HOK := Lib.hid hok
  clear hok
  go_enter Tryz.func50, Tryz.ntmps50
  go_wp2_with fail
  refine (hc.out _).mono ?_
  rintro e w1 ⟨v, rfl, hown, hbel0⟩
  have hmap1 : w1.ownsMap Tryz.prog 9 (plainElem (H := H) Tryz.prog 9) w.heap.size 0 (.map []) := ownsMap_of_block (World.ownsMap_made w Tryz.prog 9 _) (hbel0.block _ (by simp))
  have hbel1 : Below w.heap.size w w1 := ((Below.refl _ _).alloc (Nat.le_refl _) _).trans (hbel0.mono (by simp))
  rcases own_cases hown with ⟨rfl, h0⟩ | ⟨g, cap, rfl, hg, hnc, hcm⟩
  · have : ats = [] := List.eq_nil_of_length_eq_zero h0
    subst this
    go_wp2
    refine wp_loop_rounds 1 ?_
    rw [rounds_succ]
    go_wp2
    go_ret
    exact ⟨_, rfl, hmap1, Nat.le_refl _, hbel1⟩
  · have hlen : cap ≤ 9223372036854775807 := hcm
    clear hcm
    have hsz1 := hbel1.size
    go_wp2
    go_loopw [12] (fun v12 wr => ∃ i : Nat, v12 = .int .i64 i ∧ i ≤ ats.length ∧ wr.ownsMap Tryz.prog 9 (plainElem (H := H) Tryz.prog 9) w.heap.size i (mapD (ats.take i)) ∧ wr.ownsRow (w.heap.size + 1) 147 2 (.slice (some ⟨g, 0, none⟩) ats.length cap) ats.length (pairCells ats) ∧ Below w.heap.size w wr ∧ w.heap.size + 1 ≤ wr.heap.size) (fun i _ => (ats.length - (intOf i).toNat))
    case atStart => exact ⟨0, rfl, by omega, by simpa [mapD] using hmap1, by simpa using hown, hbel1, by have := hbel0.size; simp at this; omega⟩
    case round =>
      obtain ⟨i, rfl, hi, hmap, hrow, hbel, hbs⟩ := hrel
      clear hmap1 hown hbel1 hbel0
      by_cases hlt : i < ats.length
      · obtain ⟨hp1, hp2⟩ := pairCells_get ats i hlt
        have hc1 := own_cell hrow _ _ hp1
        have hc2 := own_cell hrow _ _ hp2
        obtain ⟨a, ha⟩ : ∃ a, a = ats[i] := ⟨_, rfl⟩
        rw [← ha] at hc1 hc2
        clear hp1 hp2
        have HA := Lib.hid ha
        clear ha
        have hoka : a.Ok := by rw [HA.out]; exact HOK.out _ (List.getElem_mem _)
        have hal : a.name.length ≤ 100000 ∧ (raw a.q a.val).length ≤ 100000 ∧ a.val.length ≤ 100000 := by
          have h1 : a ∈ ats := by rw [HA.out]; exact List.getElem_mem _
          have h2 := attr_len ats a h1
          have h3 := raw_len a.q a.val
          refine ⟨by omega, by omega, ?_⟩
          split at h3 <;> omega
        have HP := Lib.hid hoka.plain
        have HAL := Lib.hid hal
        have hml : (bs a.name).size ≤ maxLen := by rw [bs_size]; have := hal.1; unfold maxLen; omega
        have hml2 : (bs a.val).size ≤ maxLen := by rw [bs_size]; have := hal.2.2; unfold maxLen; omega
        have HML := Lib.hid hml
        have HML2 := Lib.hid hml2
        clear hoka hal hml hml2
        have HM2 := Lib.hid (fun n => show ((wr.alloc (.cells #[Value.string (bs a.name), Value.string (bs (raw a.q a.val))] 147)).drewN n).ownsMap Tryz.prog 9 (plainElem (H := H) Tryz.prog 9) w.heap.size i (mapD (ats.take i)) from hmap.alloc _)
        go_wp2_with fail
        go_quiet (fail)
        go_wp2_with (first
          | (go_at_call 64; refine (zzTrim_calls a.q a.val _ HP.out HAL.out.2.2).mono ?_; rintro e w2 ⟨rfl, ⟨q2, rfl⟩⟩)
          | (at_mapUpdate; go_loud (refine wpList_mapUpdate_own _ rfl _ _ _ 131 rfl 9 9 law9 Tryz.underlying131 _ w.heap.size i _ rfl (HM2.out _) (by unfold maxLen; omega) _ _ _ rfl rfl (keyOf_string_mk Tryz.underlying9 HML.out) _ [] (plainElem_string Tryz.underlying9 HML2.out) ?_); intro w3 hmap3 hgrow3))
        have hb4 : Below w.heap.size w w3 := (below_drewN (hbel.alloc (by omega) _) _).grown hgrow3 (by simp; omega) (fun k hk => by cases hk; exact Nat.le_refl _)
        have hrow4 : w3.ownsRow (w.heap.size + 1) 147 2 (.slice (some ⟨g, 0, none⟩) ats.length cap) ats.length (pairCells ats) :=
          World.ownsRow.kept (w := (wr.alloc (Obj.cells #[Value.string (bs a.name), Value.string (bs (raw a.q a.val))] 147)).drewN (nq + q2)) (hrow.alloc _) hgrow3 (by simp [Value.ownBlock]; simp at hg; omega)
        have hmap4 : w3.ownsMap Tryz.prog 9 (plainElem (H := H) Tryz.prog 9) w.heap.size (i + 1) (mapD (ats.take (i + 1))) := by
          rw [List.take_succ_eq_append_getElem hlt, mapD_snoc, ← HA.out]
          rwa [bs_toList, bs_toList] at hmap3
        have hsz4 : w.heap.size + 1 ≤ w3.heap.size := by have := hgrow3.size; simp at this; omega
        clear hmap3 hgrow3 hrow hbel hmap HM2
        go_roundw
        case rel => exact ⟨i + 1, by go_num, by omega, hmap4, hrow4, hb4, hsz4⟩
        case measure => simp [intOf]; omega
      · go_wp2
        obtain rfl : i = ats.length := by omega
        go_ret
        exact ⟨_, rfl, by simpa using hmap, Nat.le_refl _, hbel⟩
end Go.Proofs.YtlghdacdpkaoeaaGreatDoor
end
