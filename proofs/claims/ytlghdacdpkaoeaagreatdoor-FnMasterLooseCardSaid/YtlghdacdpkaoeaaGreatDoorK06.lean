import Derived.Test.YtlghdacdpkaoeaaGreatDoorK05
import Derived.WalkSpells
namespace Go.Proofs.YtlghdacdpkaoeaaGreatDoor
open Go.RowKit Go.Proofs.YtlghdacdpkaoeaaGreatDoorW.PrintWords Go.Lib
set_option linter.unusedVariables false
set_option linter.unusedSimpArgs false
abbrev Line := List UInt8
def unlines : List Line → List UInt8
  | [] => []
  | l :: r => l ++ 10 :: unlines r
theorem unlines_append (a b : List Line) : unlines (a ++ b) = unlines a ++ unlines b := by
  induction a with
  | nil => rfl
  | cons x a ih => simp [unlines, ih]
def noteB : Line := [35, 32, 97, 32, 110, 111, 116, 101]
def tagB : Line := [35, 69, 88, 84, 45, 88, 45, 78, 79, 66, 79, 68, 89, 45, 75, 78, 79, 87, 83, 58, 65, 61, 49, 44, 66, 61, 34, 99, 34]
structure Piece (odd first : Bool) (l : Line) (p : List Line) : Prop where
  is : ∃ noise blank, p = noise ++ (l ++ if odd then [13] else []) :: blank ∧ (noise = [] ∨ first = false ∧ (noise = [noteB] ∨ noise = [tagB])) ∧ (blank = [] ∨ blank = [[]] ∧ l.head? ≠ some 35)
inductive LooseTo (odd : Bool) : List Line → List Line → Prop
  | nil : LooseTo odd [] []
  | snoc {ls out : List Line} {l : Line} {p : List Line} : LooseTo odd ls out → Piece odd ls.isEmpty l p → LooseTo odd (ls ++ [l]) (out ++ p)
theorem Piece.len {odd first : Bool} {l : Line} {p : List Line} (h : Piece odd first l p) : (unlines p).length ≤ l.length + 33 := by
  obtain ⟨noise, blank, rfl, hn, hb⟩ := h.is
  have h1 : (unlines noise).length ≤ 30 := by
    rcases hn with rfl | ⟨_, rfl | rfl⟩ <;> simp [unlines, noteB, tagB]
  have h2 : (unlines blank).length ≤ 1 := by
    rcases hb with rfl | ⟨rfl, _⟩ <;> simp [unlines]
  rw [unlines_append]
  simp only [unlines, List.length_append, List.length_cons]
  cases odd <;> simp <;> omega
theorem LooseTo.len {odd : Bool} {ls out : List Line} (h : LooseTo odd ls out) : (unlines out).length ≤ (unlines ls).length + 32 * ls.length := by
  induction h with
  | nil => simp [unlines]
  | @snoc ls out l p h hp ih =>
    have := hp.len
    simp only [unlines_append, unlines, List.length_append, List.length_cons, List.length_nil] at *
    omega
def LS (T : ByteArray) (ls : List Line) (odd : Bool) (k : Nat) (out cur : ByteArray) (cnt : Nat) : Prop :=
  ∃ done rest outs, ls = done ++ rest ∧ out = bs (unlines outs) ∧ LooseTo odd done outs ∧ cnt = done.length ∧
    ((rest = [] ∧ cur = bs [] ∧ T.data.toList.drop k = []) ∨ ∃ c left r, rest = (c ++ left) :: r ∧ cur = bs c ∧ T.data.toList.drop k = left ++ 10 :: unlines r)
theorem LS.start (ls : List Line) (odd : Bool) : LS (bs (unlines ls)) ls odd 0 (bs []) (bs []) 0 := by
  refine ⟨[], ls, [], rfl, rfl, .nil, rfl, ?_⟩
  cases ls with
  | nil => exact .inl ⟨rfl, rfl, by simp [bs, unlines]⟩
  | cons l r => exact .inr ⟨[], l, r, rfl, rfl, by simp [bs, unlines]⟩
theorem drop_cons {l : List UInt8} {k : Nat} {a : UInt8} {r : List UInt8} (h : l.drop k = a :: r) : ∃ hk : k < l.length, l[k] = a ∧ l.drop (k + 1) = r := by
  have hk : k < l.length := by
    rcases Nat.lt_or_ge k l.length with h1 | h1
    · exact h1
    · rw [List.drop_eq_nil_of_le h1] at h; cases h
  refine ⟨hk, ?_, ?_⟩
  · have := List.drop_eq_getElem_cons hk; rw [h] at this; exact (List.cons.inj this).1.symm
  · have := List.drop_eq_getElem_cons hk; rw [h] at this; exact (List.cons.inj this).2.symm
theorem ba_get (T : ByteArray) (k : Nat) (h : k < T.size) : T[k] = T.data.toList[k]'(by simpa using h) := by
  show T.data[k] = _
  simp
theorem ba_ext1 (T : ByteArray) (k : Nat) (h : k < T.size) : T.extract k (k + 1) = bs [T[k]] := by
  apply ByteArray.ext
  have hk : k < T.data.size := h
  show (T.extract k (k+1)).data = [T.data[k]].toArray
  rw [ByteArray.data_extract]
  apply Array.ext
  · simp; omega
  · intro i h1 h2
    simp at h2; subst h2; simp
theorem LS.at {T : ByteArray} {ls : List Line} {odd : Bool} {k : Nat} {out cur : ByteArray} {cnt : Nat} (h : LS T ls odd k out cur cnt) (hl : ∀ l ∈ ls, l ≠ [] ∧ (10 : UInt8) ∉ l) (hk : k < T.size) :
    (T[k] = 10 ∧ 0 < cur.size) ∨ (T[k] ≠ 10 ∧ LS T ls odd (k + 1) out (cur ++ T.extract k (k + 1)) cnt) := by
  obtain ⟨done, rest, outs, h1, h2, h3, h4, h5⟩ := h
  rcases h5 with ⟨_, _, hd⟩ | ⟨c, left, r, rfl, rfl, hd⟩
  · exfalso
    have : T.data.toList.length ≤ k := by simpa using hd
    have h' : T.data.toList.length = T.size := by rw [Array.length_toList]; rfl
    omega
  · have hm := hl (c ++ left) (by rw [h1]; simp)
    cases left with
    | nil =>
      obtain ⟨hk', ha, hr⟩ := drop_cons (by simpa using hd)
      refine .inl ⟨by rw [ba_get _ _ hk]; exact ha, ?_⟩
      rw [bs_size]
      have := hm.1; simp at this
      exact List.length_pos_iff.2 this
    | cons a left =>
      obtain ⟨hk', ha, hr⟩ := drop_cons (by simpa using hd)
      have hne : T[k] ≠ 10 := by
        rw [ba_get _ _ hk, ha]
        intro e; subst e; exact hm.2 (by simp)
      refine .inr ⟨hne, done, (c ++ a :: left) :: r, outs, h1, h2, h3, h4, .inr ⟨c ++ [a], left, r, by simp, ?_, hr⟩⟩
      rw [ba_ext1 _ _ hk, bs_append, ba_get _ _ hk, ha]
def addN (out : ByteArray) : Option ByteArray → ByteArray
  | none => out
  | some x => out ++ x
def endB (odd : Bool) (s : ByteArray) : ByteArray := if odd = true then (s ++ (⟨#[13]⟩ : ByteArray)) ++ (⟨#[10]⟩ : ByteArray) else s ++ (⟨#[10]⟩ : ByteArray)
def noteN : ByteArray := ⟨#[35, 32, 97, 32, 110, 111, 116, 101, 10]⟩
def tagN : ByteArray := ⟨#[35, 69, 88, 84, 45, 88, 45, 78, 79, 66, 79, 68, 89, 45, 75, 78, 79, 87, 83, 58, 65, 61, 49, 44, 66, 61, 34, 99, 34, 10]⟩
def noiseOf : Option Bool → List Line
  | none => []
  | some true => [noteB]
  | some false => [tagB]
def noiseN : Option Bool → Option ByteArray
  | none => none
  | some true => some noteN
  | some false => some tagN
theorem addN_eq (l : List UInt8) (o : Option Bool) : addN (bs l) (noiseN o) = bs (l ++ unlines (noiseOf o)) := by
  cases o with
  | none => simp [addN, noiseN, noiseOf, unlines]
  | some b => cases b <;> simp only [addN, noiseN, noiseOf, unlines] <;> rw [← bs_append] <;> rfl
theorem endB_eq (l : List UInt8) (odd : Bool) : endB odd (bs l) = bs (l ++ (if odd then [13] else []) ++ [10]) := by
  cases odd
  · simp [endB]; rw [← bs_append]; rfl
  · simp only [endB, if_true]; rw [← bs_append, ← bs_append]; rfl
def blankN : Bool → Option ByteArray
  | false => none
  | true => some (⟨#[10]⟩ : ByteArray)
theorem LS.newline {T : ByteArray} {ls : List Line} {odd : Bool} {k : Nat} {out cur : ByteArray} {cnt : Nat} (h : LS T ls odd k out cur cnt) (hl : ∀ l ∈ ls, l ≠ [] ∧ (10 : UInt8) ∉ l) (hk : k < T.size) (h10 : T[k] = 10) (o : Option Bool) (b : Bool)
    (ho : o = none ∨ 0 < cnt) (hb : b = true → ∀ h : 0 < cur.size, cur[0] ≠ 35) :
    LS T ls odd (k + 1) (addN (endB odd (addN out (noiseN o) ++ cur)) (blankN b)) (bs []) (cnt + 1) := by
  obtain ⟨done, rest, outs, h1, h2, h3, h4, h5⟩ := h
  rcases h5 with ⟨_, _, hd⟩ | ⟨c, left, r, rfl, rfl, hd⟩
  · exfalso
    have : T.data.toList.length ≤ k := by simpa using hd
    have h' : T.data.toList.length = T.size := by rw [Array.length_toList]; rfl
    omega
  · have hm := hl (c ++ left) (by rw [h1]; simp)
    cases left with
    | cons a left =>
      exfalso
      obtain ⟨hk', ha, hr⟩ := drop_cons (by simpa using hd)
      rw [ba_get _ _ hk, ha] at h10
      subst h10; exact hm.2 (by simp)
    | nil =>
      obtain ⟨hk', ha, hr⟩ := drop_cons (by simpa using hd)
      simp only [List.append_nil] at h1 hm
      refine ⟨done ++ [c], r, outs ++ (noiseOf o ++ (c ++ if odd then [13] else []) :: (if b then [[]] else [])), by simp [h1], ?_, ?_, by simp [h4], ?_⟩
      · subst h2
        rw [addN_eq, bs_append, endB_eq]
        cases b
        · simp [addN, blankN, unlines_append, unlines]
        · simp only [addN, blankN]
          rw [show (⟨#[10]⟩ : ByteArray) = bs [10] from rfl, bs_append]
          simp [unlines_append, unlines]
      · refine .snoc h3 ⟨noiseOf o, (if b then [[]] else []), rfl, ?_, ?_⟩
        · cases o with
          | none => exact .inl rfl
          | some x =>
            have hc : 0 < cnt := by simpa using ho
            refine .inr ⟨?_, ?_⟩
            · cases done with
              | nil => simp at h4; omega
              | cons _ _ => rfl
            · cases x
              · exact .inr rfl
              · exact .inl rfl
        · cases b with
          | false => exact .inl rfl
          | true =>
            refine .inr ⟨rfl, ?_⟩
            have hp : 0 < (bs c).size := by rw [bs_size]; exact List.length_pos_iff.2 hm.1
            have := hb rfl hp
            rw [bs_get] at this
            cases c with
            | nil => simp
            | cons x c => simp at this ⊢; exact this
      · cases r with
        | nil => exact .inl ⟨rfl, rfl, by simpa [unlines] using hr⟩
        | cons l r => exact .inr ⟨[], l, r, rfl, rfl, by simpa [unlines] using hr⟩
theorem LS.end {T : ByteArray} {ls : List Line} {odd : Bool} {k : Nat} {out cur : ByteArray} {cnt : Nat} (h : LS T ls odd k out cur cnt) (hk : T.size ≤ k) : ∃ outs, out = bs (unlines outs) ∧ LooseTo odd ls outs := by
  obtain ⟨done, rest, outs, h1, h2, h3, h4, h5⟩ := h
  rcases h5 with ⟨rfl, _, hd⟩ | ⟨c, left, r, rfl, rfl, hd⟩
  · exact ⟨outs, h2, by rw [h1]; simpa using h3⟩
  · exfalso
    have h' : T.data.toList.length = T.size := by rw [Array.length_toList]; rfl
    rw [List.drop_eq_nil_of_le (by omega)] at hd
    simp at hd
theorem ne35 {c : UInt8} (h : ¬ ((c.toNat : Nat) : Int) = 35) : c ≠ 35 := fun e => h (by rw [e]; rfl)
set_option maxHeartbeats 4000000 in
set_option maxRecDepth 100000 in
theorem Loosened_walk (T : ByteArray) (ls : List Line) (n : Int) (odd : Bool) (w : World) (hT : T = bs (unlines ls)) (hl : ∀ l ∈ ls, l ≠ [] ∧ (10 : UInt8) ∉ l) (hsz : T.size ≤ 100000) (hn : 0 ≤ n) :
    Calls Tryz.prog 7 #[.string T, .int .u32 n, .bool odd] w fun e w' => ∃ out, e = .returned (.string (bs (unlines out))) ∧ LooseTo odd ls out ∧ Drawn0 w w' := by
  have HS : Hid (LS T ls odd 0 (bs []) (bs []) 0) := by rw [hT]; exact LS.start ls odd
  have HL := Lib.hid hl
  clear hT hl
  go_enter Tryz.func7, Tryz.ntmps7
  go_wp2
  go_loopw [8, 1, 7, 9, 13] (fun v8 v1 v7 v9 v13 wr => ∃ (cur out : ByteArray) (k cnt : Nat) (x : Int), v8 = .string cur ∧ v1 = .int .u32 x ∧ v7 = .string out ∧ v9 = .int .i64 cnt ∧ v13 = .int .i64 k ∧ 0 ≤ x ∧ k ≤ T.size ∧ cnt ≤ k ∧ out.size + cur.size ≤ 33 * k ∧ Hid (LS T ls odd k out cur cnt) ∧ Drawn0 w wr) (fun _ _ _ _ i _ => (T.size - (intOf i).toNat))
  case atStart => exact ⟨_, _, 0, 0, n, rfl, rfl, rfl, rfl, rfl, hn, by omega, by omega, by simp [ByteArray.size], HS, Drawn0.refl _⟩
  case round =>
    obtain ⟨cur, out, k, cnt, x, rfl, rfl, rfl, rfl, rfl, hx, hk, hcnt, hos, hls, ⟨q, rfl⟩⟩ := hrel
    by_cases hlt : k < T.size
    · rcases hls.out.at HL.out hlt with ⟨h10, hcp⟩ | ⟨h10, hst⟩
      · have t10 : (((T[k].toNat : Nat) : Int) == 10) = true := by rw [h10]; rfl
        have t10' : (((T[k].toNat : Nat) : Int) != 10) = false := by rw [h10]; rfl
        have H10 := Lib.hid h10
        clear h10
        cases odd
        all_goals
          go_wp2
          all_goals
            go_roundw
            case measure => simp [intOf]; omega
            case rel => first
              | exact ⟨_, _, k + 1, cnt + 1, _, rfl, rfl, rfl, by go_num, by go_num, Int.emod_nonneg _ (by decide), by omega, by omega, by (simp only [ByteArray.size_append, lit_size, List.length_cons, List.length_nil]; omega), hls.out.newline HL.out hlt H10.out none false (.inl rfl) (fun h => by cases h), ⟨q, rfl⟩⟩
              | exact ⟨_, _, k + 1, cnt + 1, _, rfl, rfl, rfl, by go_num, by go_num, Int.emod_nonneg _ (by decide), by omega, by omega, by (simp only [ByteArray.size_append, lit_size, List.length_cons, List.length_nil]; omega), hls.out.newline HL.out hlt H10.out none true (.inl rfl) (fun _ _ => ne35 (by assumption)), ⟨q, rfl⟩⟩
              | exact ⟨_, _, k + 1, cnt + 1, _, rfl, rfl, rfl, by go_num, by go_num, Int.emod_nonneg _ (by decide), by omega, by omega, by (simp only [ByteArray.size_append, lit_size, List.length_cons, List.length_nil]; omega), hls.out.newline HL.out hlt H10.out (some true) false (.inr (by assumption)) (fun h => by cases h), ⟨q, rfl⟩⟩
              | exact ⟨_, _, k + 1, cnt + 1, _, rfl, rfl, rfl, by go_num, by go_num, Int.emod_nonneg _ (by decide), by omega, by omega, by (simp only [ByteArray.size_append, lit_size, List.length_cons, List.length_nil]; omega), hls.out.newline HL.out hlt H10.out (some true) true (.inr (by assumption)) (fun _ _ => ne35 (by assumption)), ⟨q, rfl⟩⟩
              | exact ⟨_, _, k + 1, cnt + 1, _, rfl, rfl, rfl, by go_num, by go_num, Int.emod_nonneg _ (by decide), by omega, by omega, by (simp only [ByteArray.size_append, lit_size, List.length_cons, List.length_nil]; omega), hls.out.newline HL.out hlt H10.out (some false) false (.inr (by assumption)) (fun h => by cases h), ⟨q, rfl⟩⟩
              | exact ⟨_, _, k + 1, cnt + 1, _, rfl, rfl, rfl, by go_num, by go_num, Int.emod_nonneg _ (by decide), by omega, by omega, by (simp only [ByteArray.size_append, lit_size, List.length_cons, List.length_nil]; omega), hls.out.newline HL.out hlt H10.out (some false) true (.inr (by assumption)) (fun _ _ => ne35 (by assumption)), ⟨q, rfl⟩⟩
      · have e10 : ¬ ((T[k].toNat : Nat) : Int) = 10 := by
          intro e; apply h10; apply UInt8.toNat_inj.1; show T[k].toNat = 10; omega
        have t10 : (((T[k].toNat : Nat) : Int) == 10) = false := by simpa using e10
        have t10' : (((T[k].toNat : Nat) : Int) != 10) = true := by simpa using e10
        have HST := Lib.hid hst
        have hes : (T.extract k (k + 1)).size = 1 := by rw [ba_ext1 _ _ hlt]; rfl
        have HES := Lib.hid hes
        have hes' : (T.extract k (k + 1)).size ≤ 1 := by omega
        clear hst h10 e10 hes
        go_wp2
        all_goals
          go_roundw
          case measure => simp [intOf]; omega
          case rel => exact ⟨_, _, k + 1, cnt, x, rfl, rfl, rfl, by go_num, by go_num, hx, by omega, by omega, by (simp only [ByteArray.size_append]; omega), HST, ⟨q, rfl⟩⟩
    · go_wp2
      go_ret
      obtain ⟨outs, e, hlo⟩ := hls.out.end (by omega)
      exact ⟨outs, ret_str e, hlo, ⟨q, rfl⟩⟩
end Go.Proofs.YtlghdacdpkaoeaaGreatDoor
