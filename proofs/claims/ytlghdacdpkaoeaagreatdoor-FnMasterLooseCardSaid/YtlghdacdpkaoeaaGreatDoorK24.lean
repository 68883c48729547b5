import Derived.Test.YtlghdacdpkaoeaaGreatDoorK11
import Derived.Test.YtlghdacdpkaoeaaGreatDoorK14
import Derived.Test.YtlghdacdpkaoeaaGreatDoorK15
import Derived.Test.YtlghdacdpkaoeaaGreatDoorK16
import Derived.Test.YtlghdacdpkaoeaaGreatDoorK17
import Derived.Test.YtlghdacdpkaoeaaGreatDoorK18
import Derived.Test.YtlghdacdpkaoeaaGreatDoorK19
import Derived.Test.YtlghdacdpkaoeaaGreatDoorK20
import Derived.Test.YtlghdacdpkaoeaaGreatDoorK12
import Derived.Test.YtlghdacdpkaoeaaGreatDoorK23
import Derived.Test.YtlghdacdpkaoeaaGreatDoorK13
section
namespace Go.Proofs.YtlghdacdpkaoeaaGreatDoor
open Go.RowKit Go.Proofs.YtlghdacdpkaoeaaGreatDoorW.PrintWords Go.Maps Go.Proofs.YtlghdacdpkaoeaaGreatDoor.PFnMasterLoose
open Go.Lib hiding intOf
set_option linter.unusedVariables false
set_option linter.unusedSimpArgs false
structure AltR where
  typ : List UInt8
  group : List UInt8
  name : List UInt8
  dflt : Bool
  auto : List UInt8
  lang : List UInt8
  uri : List UInt8
structure VarR where
  uri : List UInt8
  program : Nat
  bandwidth : Nat
  average : Nat
  codecs : List UInt8
  width : Nat
  height : Nat
  audio : List UInt8
  video : List UInt8
  subtitles : List UInt8
  captions : List UInt8
  name : List UInt8
  rate : Nat
def opt (name : List UInt8) (q : Bool) (v : List UInt8) : List Attr := if v = [] then [] else [⟨name, q, v⟩]
def sTYPE : List UInt8 := [84, 89, 80, 69]
def sGROUP : List UInt8 := [71, 82, 79, 85, 80, 45, 73, 68]
def sNAME : List UInt8 := [78, 65, 77, 69]
def sDEFAULT : List UInt8 := [68, 69, 70, 65, 85, 76, 84]
def sYES : List UInt8 := [89, 69, 83]
def sNO : List UInt8 := [78, 79]
def sAUTO : List UInt8 := [65, 85, 84, 79, 83, 69, 76, 69, 67, 84]
def sLANG : List UInt8 := [76, 65, 78, 71, 85, 65, 71, 69]
def sURI : List UInt8 := [85, 82, 73]
def AltR.attrs (a : AltR) : List Attr :=
  [⟨sTYPE, false, a.typ⟩, ⟨sGROUP, true, a.group⟩, ⟨sNAME, true, a.name⟩, ⟨sDEFAULT, false, if a.dflt then sYES else sNO⟩] ++ opt sAUTO false a.auto ++ opt sLANG true a.lang ++ opt sURI true a.uri
theorem line_f (n v : List UInt8) (q : Bool) (h : n.length + v.length ≤ 100000) : spec_Line.f (bs n) (bs v) q = some (bs (Attr.text ⟨n, q, v⟩)) := by
  unfold spec_Line.f
  have e1 : (⟨#[61, 34]⟩ : ByteArray) = bs [61, 34] := rfl
  have e2 : (⟨#[34]⟩ : ByteArray) = bs [34] := rfl
  have e3 : (⟨#[61]⟩ : ByteArray) = bs [61] := rfl
  rw [e1, e2, e3]
  simp only [bs_append, bs_size, List.length_append, List.length_cons, List.length_nil]
  cases q
  · rw [if_neg (by simp), if_pos (by omega), if_pos (by omega)]
    simp [Attr.text, raw]
  · rw [if_pos rfl, if_pos (by omega), if_pos (by omega), if_pos (by omega)]
    simp [Attr.text, raw]
theorem toList_nil (l : List UInt8) : ((bs l).toList = ([] : List UInt8)) ↔ l = [] := by
  rw [ByteArray.toList_eq, bs_toList]
structure AltR.Small (a : AltR) : Prop where
  typ : a.typ.length ≤ 1000
  group : a.group.length ≤ 1000
  name : a.name.length ≤ 1000
  auto : a.auto.length ≤ 1000
  lang : a.lang.length ≤ 1000
  uri : a.uri.length ≤ 1000
theorem alt_attrs_f (a : AltR) (h : a.Small) : spec_Alternative_attributes.f 10 (bs a.typ) (bs a.group) (bs a.name) a.dflt (bs a.auto) (bs a.lang) (bs a.uri) = some (a.attrs.map fun x => bs x.text) := by
  obtain ⟨h1, h2, h3, h4, h5, h6⟩ := h
  have l1 := line_f sTYPE a.typ false (by simp [sTYPE]; omega)
  have l2 := line_f sGROUP a.group true (by simp [sGROUP]; omega)
  have l3 := line_f sNAME a.name true (by simp [sNAME]; omega)
  have l4 := line_f sDEFAULT sYES false (by simp [sDEFAULT, sYES])
  have l5 := line_f sDEFAULT sNO false (by simp [sDEFAULT, sNO])
  have l6 := line_f sAUTO a.auto false (by simp [sAUTO]; omega)
  have l7 := line_f sLANG a.lang true (by simp [sLANG]; omega)
  have l8 := line_f sURI a.uri true (by simp [sURI]; omega)
  simp only [show bs sTYPE = ⟨#[84, 89, 80, 69]⟩ from rfl, show bs sGROUP = ⟨#[71, 82, 79, 85, 80, 45, 73, 68]⟩ from rfl, show bs sNAME = ⟨#[78, 65, 77, 69]⟩ from rfl, show bs sDEFAULT = ⟨#[68, 69, 70, 65, 85, 76, 84]⟩ from rfl, show bs sYES = ⟨#[89, 69, 83]⟩ from rfl, show bs sNO = ⟨#[78, 79]⟩ from rfl,
    show bs sAUTO = ⟨#[65, 85, 84, 79, 83, 69, 76, 69, 67, 84]⟩ from rfl, show bs sLANG = ⟨#[76, 65, 78, 71, 85, 65, 71, 69]⟩ from rfl, show bs sURI = ⟨#[85, 82, 73]⟩ from rfl] at l1 l2 l3 l4 l5 l6 l7 l8
  unfold spec_Alternative_attributes.f
  rw [l1, l2, l3, l4, l5]
  simp only [Option.bind_some]
  by_cases g4 : a.auto = [] <;> by_cases g5 : a.lang = [] <;> by_cases g6 : a.uri = [] <;> cases hd : a.dflt <;>
    simp [spec_Alternative_attributes.j0, spec_Alternative_attributes.j1, toList_nil, l6, l7, l8, g4, g5, g6, hd, AltR.attrs, opt]
end Go.Proofs.YtlghdacdpkaoeaaGreatDoor
end
section
namespace Go.Proofs.YtlghdacdpkaoeaaGreatDoor
open Go.RowKit Go.Proofs.YtlghdacdpkaoeaaGreatDoorW.PrintWords Go.Maps Go.Proofs.YtlghdacdpkaoeaaGreatDoor.PFnMasterLoose
open Go.Lib hiding intOf
set_option linter.unusedVariables false
set_option linter.unusedSimpArgs false
theorem dec_f (j : Nat) : ∀ (k n : Nat) (a : Int), j < k → a = n → n < 10 ^ (j + 1) → U64 n → spec_Decimal.f k a = some (bs (decDigits n)) := by
  induction j with
  | zero =>
    intro k n a hk ha hn h64
    obtain ⟨k, rfl⟩ : ∃ k', k = k' + 1 := ⟨k - 1, by omega⟩
    unfold spec_Decimal.f
    rw [if_pos (by omega), dig_enc a n ha (by omega)]
  | succ j ih =>
    intro k n a hk ha hn h64
    obtain ⟨k, rfl⟩ : ∃ k', k = k' + 1 := ⟨k - 1, by omega⟩
    unfold spec_Decimal.f
    by_cases h : n < 10
    · rw [if_pos (by omega), dig_enc a n ha h]
    · rw [if_neg (by omega)]
      rw [dig_div a n ha h64, ih k (n / 10) ((n / 10 : Nat) : Int) (by omega) rfl (by rw [Nat.pow_succ] at hn; omega) h64.div]
      rw [Option.bind_some, dig_mod a n ha, if_pos, bs_append, ← decDigits_ge h]
      rw [bs_size, bs_size]
      have := h64.div.len
      simp; omega
theorem dec_f64 (k n : Nat) (a : Int) (hk : 20 < k) (ha : a = n) (h : U64 n) : spec_Decimal.f k a = some (bs (decDigits n)) :=
  dec_f 19 k n a (by omega) ha (by unfold U64 at h; omega) h
theorem sec_f (k n : Nat) (hk : 20 < k) (h : n < 100000) : spec_seconds.f k (n : Int) = some (bs (secText n)) := by
  unfold spec_seconds.f
  have e0 : IntKind.u64.wrap (wrap64 (Int.tdiv (n : Int) 8)) = ((n / 8 : Nat) : Int) := by
    rw [Int.tdiv_eq_ediv_of_nonneg (by omega)]
    rw [show wrap64 ((n : Int) / 8) = (n : Int) / 8 by unfold wrap64; omega, u64_in _ (by omega) (by omega)]; omega
  have em : wrap64 ((Int.tmod (n : Int) 8) * 125) = ((n % 8 * 125 : Nat) : Int) := by
    rw [Int.tmod_eq_emod_of_nonneg (by omega)]; unfold wrap64; omega
  have h8 : n % 8 < 8 := Nat.mod_lt _ (by decide)
  rw [e0, em]
  generalize hr : n % 8 * 125 = r at *
  have hr' : r < 1000 := by omega
  have e1 : IntKind.u64.wrap (wrap64 (Int.tdiv (r : Int) 100)) = ((r / 100 : Nat) : Int) := by
    rw [Int.tdiv_eq_ediv_of_nonneg (by omega)]
    rw [show wrap64 ((r : Int) / 100) = (r : Int) / 100 by unfold wrap64; omega, u64_in _ (by omega) (by omega)]; omega
  have e2 : IntKind.u64.wrap (Int.tmod (wrap64 (Int.tdiv (r : Int) 10)) 10) = ((r / 10 % 10 : Nat) : Int) := by
    rw [Int.tdiv_eq_ediv_of_nonneg (by omega)]
    rw [show wrap64 ((r : Int) / 10) = (r : Int) / 10 by unfold wrap64; omega, Int.tmod_eq_emod_of_nonneg (by omega), u64_in _ (by omega) (by omega)]; omega
  have e3 : IntKind.u64.wrap (Int.tmod (r : Int) 10) = ((r % 10 : Nat) : Int) := by
    rw [Int.tmod_eq_emod_of_nonneg (by omega), u64_in _ (by omega) (by omega)]; omega
  rw [e1, e2, e3, dec_f64 k (n / 8) _ hk rfl (by unfold U64; omega), dec_f64 k (r / 100) _ hk rfl (by unfold U64; omega), dec_f64 k (r / 10 % 10) _ hk rfl (by unfold U64; omega), dec_f64 k (r % 10) _ hk rfl (by unfold U64; omega)]
  have l1 := (show U64 (n / 8) by unfold U64; omega).len
  have l2 := dec_len1 (show r / 100 < 10 by omega)
  have l3 := dec_len1 (show r / 10 % 10 < 10 by omega)
  have l4 := dec_len1 (show r % 10 < 10 by omega)
  rw [show (⟨#[46]⟩ : ByteArray) = bs [46] from rfl]
  simp only [Option.bind_some, bs_append, bs_size, List.length_append, l2, l3, l4, List.length_cons, List.length_nil]
  rw [if_pos (by omega), if_pos (by omega), if_pos (by omega), if_pos (by omega)]
  unfold secText
  rw [hr]
  simp
def resText (w h : Nat) : List UInt8 := if w = 0 then [] else decDigits w ++ 120 :: decDigits h
theorem res_f (k : Nat) (hk : 20 < k) (u : ByteArray) (p b a : Int) (c : ByteArray) (w h : Nat) (x1 x2 x3 x4 x5 : ByteArray) (r : Int) (hw : w < 4294967296) (hh : h < 4294967296) :
    spec_Variant_Resolution.f k u p b a c (w : Int) (h : Int) x1 x2 x3 x4 x5 r = some (bs (resText w h)) := by
  unfold spec_Variant_Resolution.f resText
  by_cases h0 : w = 0
  · rw [if_pos (by omega), if_pos h0]; rfl
  · rw [if_neg (by omega), if_neg h0]
    rw [u64_in (w : Int) (by omega) (by omega), u64_in (h : Int) (by omega) (by omega), dec_f64 k w _ hk rfl (by unfold U64; omega), dec_f64 k h _ hk rfl (by unfold U64; omega)]
    have l1 := (show U64 w by unfold U64; omega).len
    have l2 := (show U64 h by unfold U64; omega).len
    rw [show (⟨#[120]⟩ : ByteArray) = bs [120] from rfl]
    simp only [Option.bind_some, bs_append, bs_size, List.length_append, List.length_cons, List.length_nil]
    rw [if_pos (by omega), if_pos (by omega)]
    simp
end Go.Proofs.YtlghdacdpkaoeaaGreatDoor
end
section
namespace Go.Proofs.YtlghdacdpkaoeaaGreatDoor
open Go.RowKit Go.Proofs.YtlghdacdpkaoeaaGreatDoorW.PrintWords Go.Maps Go.Proofs.YtlghdacdpkaoeaaGreatDoor.PFnMasterLoose
open Go.Lib hiding intOf
set_option linter.unusedVariables false
set_option linter.unusedSimpArgs false
def VarR.r7 (v : VarR) : List Attr := if v.rate = 0 then [] else [⟨[70, 82, 65, 77, 69, 45, 82, 65, 84, 69], false, secText v.rate⟩]
def VarR.r6 (v : VarR) : List Attr := opt [78, 65, 77, 69] true v.name ++ v.r7
def VarR.r5 (v : VarR) : List Attr := opt [83, 85, 66, 84, 73, 84, 76, 69, 83] true v.subtitles ++ v.r6
def VarR.r4 (v : VarR) : List Attr := opt [67, 76, 79, 83, 69, 68, 45, 67, 65, 80, 84, 73, 79, 78, 83] (v.captions != [78, 79, 78, 69]) v.captions ++ v.r5
def VarR.r3 (v : VarR) : List Attr := opt [86, 73, 68, 69, 79] true v.video ++ v.r4
def VarR.r2 (v : VarR) : List Attr := opt [65, 85, 68, 73, 79] true v.audio ++ v.r3
def VarR.r1 (v : VarR) : List Attr := (if v.width = 0 then [] else [⟨[82, 69, 83, 79, 76, 85, 84, 73, 79, 78], false, resText v.width v.height⟩]) ++ v.r2
def VarR.r0 (v : VarR) : List Attr := opt [67, 79, 68, 69, 67, 83] true v.codecs ++ v.r1
def VarR.attrs (v : VarR) : List Attr := [⟨[80, 82, 79, 71, 82, 65, 77, 45, 73, 68], false, decDigits v.program⟩, ⟨[66, 65, 78, 68, 87, 73, 68, 84, 72], false, decDigits v.bandwidth⟩] ++ (if v.average = 0 then [] else [⟨[65, 86, 69, 82, 65, 71, 69, 45, 66, 65, 78, 68, 87, 73, 68, 84, 72], false, decDigits v.average⟩]) ++ v.r0
structure VarR.Small (v : VarR) : Prop where
  nums : v.program < 4294967296 ∧ v.bandwidth < 4294967296 ∧ v.average < 4294967296 ∧ v.width < 4294967296 ∧ v.height < 4294967296 ∧ v.rate < 100000
  uri : v.uri.length ≤ 1000
  codecs : v.codecs.length ≤ 1000
  audio : v.audio.length ≤ 1000
  video : v.video.length ≤ 1000
  subtitles : v.subtitles.length ≤ 1000
  captions : v.captions.length ≤ 1000
  name : v.name.length ≤ 1000
theorem dec_len_u32 {n : Nat} (h : n < 4294967296) : (decDigits n).length ≤ 10 := decDigits_len1 9 n (by omega)
theorem sec_len {k : Nat} (h : k < 100000) : (secText k).length ≤ 20 := by
  have h8 : k % 8 < 8 := Nat.mod_lt _ (by decide)
  have := decDigits_len1 4 (k / 8) (by omega)
  simp only [secText, List.length_append, List.length_cons, dec_len1 (show k % 8 * 125 / 100 < 10 by omega), dec_len1 (show k % 8 * 125 / 10 % 10 < 10 by omega), dec_len1 (show k % 8 * 125 % 10 < 10 by omega)]
  omega
theorem res_len {w h : Nat} (hw : w < 4294967296) (hh : h < 4294967296) : (resText w h).length ≤ 21 := by
  unfold resText
  have h1 := dec_len_u32 hw
  have h2 := dec_len_u32 hh
  split
  · simp
  · simp; omega
theorem vj7 (v : VarR) (hs : v.Small) (k : Nat) (hk : 20 < k) (xs : List ByteArray) (hx : xs.length ≤ 100) : spec_Variant_attributes.j7 (k + 1) xs (bs v.uri) (v.program : Int) (v.bandwidth : Int) (v.average : Int) (bs v.codecs) (v.width : Int) (v.height : Int) (bs v.audio) (bs v.video) (bs v.subtitles) (bs v.captions) (bs v.name) (v.rate : Int) = some (xs ++ v.r7.map fun x => bs x.text) := by
  rw [spec_Variant_attributes.j7]
  unfold VarR.r7
  by_cases h : v.rate = 0
  · rw [if_neg (by omega), if_pos h]; simp
  · have e := line_f [70, 82, 65, 77, 69, 45, 82, 65, 84, 69] (secText v.rate) false (by have := sec_len hs.nums.2.2.2.2.2; simp; omega)
    rw [if_pos (by omega), if_neg h, sec_f k v.rate hk hs.nums.2.2.2.2.2]
    rw [Option.bind_some, show (⟨#[70, 82, 65, 77, 69, 45, 82, 65, 84, 69]⟩ : ByteArray) = bs [70, 82, 65, 77, 69, 45, 82, 65, 84, 69] from rfl, e, Option.bind_some, if_pos (by omega)]
    simp
theorem vj6 (v : VarR) (hs : v.Small) (k : Nat) (hk : 20 < k) (xs : List ByteArray) (hx : xs.length ≤ 99) : spec_Variant_attributes.j6 (k + 2) xs (bs v.uri) (v.program : Int) (v.bandwidth : Int) (v.average : Int) (bs v.codecs) (v.width : Int) (v.height : Int) (bs v.audio) (bs v.video) (bs v.subtitles) (bs v.captions) (bs v.name) (v.rate : Int) = some (xs ++ v.r6.map fun x => bs x.text) := by
  rw [spec_Variant_attributes.j6]
  unfold VarR.r6 opt
  by_cases h : v.name = []
  · rw [if_pos ((toList_nil _).2 h), if_pos h, vj7 v hs k hk xs (by omega)]; simp
  · have e := line_f [78, 65, 77, 69] v.name true (by have := hs.name; simp; omega)
    rw [if_neg (fun c => h ((toList_nil _).1 c)), if_neg h, show (⟨#[78, 65, 77, 69]⟩ : ByteArray) = bs [78, 65, 77, 69] from rfl]
    rw [e, Option.bind_some, if_pos (by omega), vj7 v hs k hk _ (by simp; omega)]
    simp
theorem vj5 (v : VarR) (hs : v.Small) (k : Nat) (hk : 20 < k) (xs : List ByteArray) (hx : xs.length ≤ 98) : spec_Variant_attributes.j5 (k + 3) xs (bs v.uri) (v.program : Int) (v.bandwidth : Int) (v.average : Int) (bs v.codecs) (v.width : Int) (v.height : Int) (bs v.audio) (bs v.video) (bs v.subtitles) (bs v.captions) (bs v.name) (v.rate : Int) = some (xs ++ v.r5.map fun x => bs x.text) := by
  rw [spec_Variant_attributes.j5]
  unfold VarR.r5 opt
  by_cases h : v.subtitles = []
  · rw [if_pos ((toList_nil _).2 h), if_pos h, vj6 v hs k hk xs (by omega)]; simp
  · have e := line_f [83, 85, 66, 84, 73, 84, 76, 69, 83] v.subtitles true (by have := hs.subtitles; simp; omega)
    rw [if_neg (fun c => h ((toList_nil _).1 c)), if_neg h, show (⟨#[83, 85, 66, 84, 73, 84, 76, 69, 83]⟩ : ByteArray) = bs [83, 85, 66, 84, 73, 84, 76, 69, 83] from rfl]
    rw [e, Option.bind_some, if_pos (by omega), vj6 v hs k hk _ (by simp; omega)]
    simp
theorem vj4 (v : VarR) (hs : v.Small) (k : Nat) (hk : 20 < k) (xs : List ByteArray) (hx : xs.length ≤ 97) : spec_Variant_attributes.j4 (k + 4) xs (bs v.uri) (v.program : Int) (v.bandwidth : Int) (v.average : Int) (bs v.codecs) (v.width : Int) (v.height : Int) (bs v.audio) (bs v.video) (bs v.subtitles) (bs v.captions) (bs v.name) (v.rate : Int) = some (xs ++ v.r4.map fun x => bs x.text) := by
  rw [spec_Variant_attributes.j4]
  unfold VarR.r4 opt
  by_cases h : v.captions = []
  · rw [if_pos ((toList_nil _).2 h), if_pos h, vj5 v hs k hk xs (by omega)]; simp
  · have e := line_f [67, 76, 79, 83, 69, 68, 45, 67, 65, 80, 84, 73, 79, 78, 83] v.captions (v.captions != [78, 79, 78, 69]) (by have := hs.captions; simp; omega)
    rw [if_neg (fun c => h ((toList_nil _).1 c)), if_neg h, show (⟨#[67, 76, 79, 83, 69, 68, 45, 67, 65, 80, 84, 73, 79, 78, 83]⟩ : ByteArray) = bs [67, 76, 79, 83, 69, 68, 45, 67, 65, 80, 84, 73, 79, 78, 83] from rfl]
    rw [show ((bs v.captions).toList != [78, 79, 78, 69]) = (v.captions != [78, 79, 78, 69]) by rw [ByteArray.toList_eq, bs_toList]]
    rw [e, Option.bind_some, if_pos (by omega), vj5 v hs k hk _ (by simp; omega)]
    simp
theorem vj3 (v : VarR) (hs : v.Small) (k : Nat) (hk : 20 < k) (xs : List ByteArray) (hx : xs.length ≤ 96) : spec_Variant_attributes.j3 (k + 5) xs (bs v.uri) (v.program : Int) (v.bandwidth : Int) (v.average : Int) (bs v.codecs) (v.width : Int) (v.height : Int) (bs v.audio) (bs v.video) (bs v.subtitles) (bs v.captions) (bs v.name) (v.rate : Int) = some (xs ++ v.r3.map fun x => bs x.text) := by
  rw [spec_Variant_attributes.j3]
  unfold VarR.r3 opt
  by_cases h : v.video = []
  · rw [if_pos ((toList_nil _).2 h), if_pos h, vj4 v hs k hk xs (by omega)]; simp
  · have e := line_f [86, 73, 68, 69, 79] v.video true (by have := hs.video; simp; omega)
    rw [if_neg (fun c => h ((toList_nil _).1 c)), if_neg h, show (⟨#[86, 73, 68, 69, 79]⟩ : ByteArray) = bs [86, 73, 68, 69, 79] from rfl]
    rw [e, Option.bind_some, if_pos (by omega), vj4 v hs k hk _ (by simp; omega)]
    simp
theorem vj2 (v : VarR) (hs : v.Small) (k : Nat) (hk : 20 < k) (xs : List ByteArray) (hx : xs.length ≤ 95) : spec_Variant_attributes.j2 (k + 6) xs (bs v.uri) (v.program : Int) (v.bandwidth : Int) (v.average : Int) (bs v.codecs) (v.width : Int) (v.height : Int) (bs v.audio) (bs v.video) (bs v.subtitles) (bs v.captions) (bs v.name) (v.rate : Int) = some (xs ++ v.r2.map fun x => bs x.text) := by
  rw [spec_Variant_attributes.j2]
  unfold VarR.r2 opt
  by_cases h : v.audio = []
  · rw [if_pos ((toList_nil _).2 h), if_pos h, vj3 v hs k hk xs (by omega)]; simp
  · have e := line_f [65, 85, 68, 73, 79] v.audio true (by have := hs.audio; simp; omega)
    rw [if_neg (fun c => h ((toList_nil _).1 c)), if_neg h, show (⟨#[65, 85, 68, 73, 79]⟩ : ByteArray) = bs [65, 85, 68, 73, 79] from rfl]
    rw [e, Option.bind_some, if_pos (by omega), vj3 v hs k hk _ (by simp; omega)]
    simp
theorem vj1 (v : VarR) (hs : v.Small) (k : Nat) (hk : 20 < k) (xs : List ByteArray) (hx : xs.length ≤ 94) : spec_Variant_attributes.j1 (k + 7) xs (bs v.uri) (v.program : Int) (v.bandwidth : Int) (v.average : Int) (bs v.codecs) (v.width : Int) (v.height : Int) (bs v.audio) (bs v.video) (bs v.subtitles) (bs v.captions) (bs v.name) (v.rate : Int) = some (xs ++ v.r1.map fun x => bs x.text) := by
  rw [spec_Variant_attributes.j1]
  unfold VarR.r1
  by_cases h : v.width = 0
  · rw [if_neg (by omega), if_pos h, vj2 v hs k hk xs (by omega)]; simp
  · have e := line_f [82, 69, 83, 79, 76, 85, 84, 73, 79, 78] (resText v.width v.height) false (by have := res_len hs.nums.2.2.2.1 hs.nums.2.2.2.2.1; simp; omega)
    rw [if_pos (by omega), if_neg h, res_f (k + 6) (by omega) _ _ _ _ _ v.width v.height _ _ _ _ _ _ hs.nums.2.2.2.1 hs.nums.2.2.2.2.1]
    rw [Option.bind_some, show (⟨#[82, 69, 83, 79, 76, 85, 84, 73, 79, 78]⟩ : ByteArray) = bs [82, 69, 83, 79, 76, 85, 84, 73, 79, 78] from rfl, e, Option.bind_some, if_pos (by omega), vj2 v hs k hk _ (by simp; omega)]
    simp
theorem vj0 (v : VarR) (hs : v.Small) (k : Nat) (hk : 20 < k) (xs : List ByteArray) (hx : xs.length ≤ 93) : spec_Variant_attributes.j0 (k + 8) xs (bs v.uri) (v.program : Int) (v.bandwidth : Int) (v.average : Int) (bs v.codecs) (v.width : Int) (v.height : Int) (bs v.audio) (bs v.video) (bs v.subtitles) (bs v.captions) (bs v.name) (v.rate : Int) = some (xs ++ v.r0.map fun x => bs x.text) := by
  rw [spec_Variant_attributes.j0]
  unfold VarR.r0 opt
  by_cases h : v.codecs = []
  · rw [if_pos ((toList_nil _).2 h), if_pos h, vj1 v hs k hk xs (by omega)]; simp
  · have e := line_f [67, 79, 68, 69, 67, 83] v.codecs true (by have := hs.codecs; simp; omega)
    rw [if_neg (fun c => h ((toList_nil _).1 c)), if_neg h, show (⟨#[67, 79, 68, 69, 67, 83]⟩ : ByteArray) = bs [67, 79, 68, 69, 67, 83] from rfl]
    rw [e, Option.bind_some, if_pos (by omega), vj1 v hs k hk _ (by simp; omega)]
    simp
theorem var_attrs_f (v : VarR) (hs : v.Small) : spec_Variant_attributes.f 30 (bs v.uri) (v.program : Int) (v.bandwidth : Int) (v.average : Int) (bs v.codecs) (v.width : Int) (v.height : Int) (bs v.audio) (bs v.video) (bs v.subtitles) (bs v.captions) (bs v.name) (v.rate : Int) = some (v.attrs.map fun x => bs x.text) := by
  have e1 := line_f [80, 82, 79, 71, 82, 65, 77, 45, 73, 68] (decDigits v.program) false (by have := dec_len_u32 hs.nums.1; simp; omega)
  have e2 := line_f [66, 65, 78, 68, 87, 73, 68, 84, 72] (decDigits v.bandwidth) false (by have := dec_len_u32 hs.nums.2.1; simp; omega)
  have e3 := line_f [65, 86, 69, 82, 65, 71, 69, 45, 66, 65, 78, 68, 87, 73, 68, 84, 72] (decDigits v.average) false (by have := dec_len_u32 hs.nums.2.2.1; simp; omega)
  have h1 := hs.nums.1
  have h2 := hs.nums.2.1
  have h3 := hs.nums.2.2.1
  unfold spec_Variant_attributes.f VarR.attrs
  rw [show (⟨#[80, 82, 79, 71, 82, 65, 77, 45, 73, 68]⟩ : ByteArray) = bs [80, 82, 79, 71, 82, 65, 77, 45, 73, 68] from rfl, show (⟨#[66, 65, 78, 68, 87, 73, 68, 84, 72]⟩ : ByteArray) = bs [66, 65, 78, 68, 87, 73, 68, 84, 72] from rfl, show (⟨#[65, 86, 69, 82, 65, 71, 69, 45, 66, 65, 78, 68, 87, 73, 68, 84, 72]⟩ : ByteArray) = bs [65, 86, 69, 82, 65, 71, 69, 45, 66, 65, 78, 68, 87, 73, 68, 84, 72] from rfl]
  rw [u64_in (v.program : Int) (by omega) (by omega), u64_in (v.bandwidth : Int) (by omega) (by omega), u64_in (v.average : Int) (by omega) (by omega)]
  rw [dec_f64 30 v.program _ (by omega) rfl (by unfold U64; omega), dec_f64 30 v.bandwidth _ (by omega) rfl (by unfold U64; omega), dec_f64 30 v.average _ (by omega) rfl (by unfold U64; omega)]
  simp only [Option.bind_some, e1, e2, e3]
  by_cases h : v.average = 0
  · rw [if_neg (by omega), if_pos h, vj0 v hs 22 (by omega) _ (by simp)]; simp
  · rw [if_pos (by omega), if_neg h, if_pos (by simp), vj0 v hs 22 (by omega) _ (by simp)]; simp
end Go.Proofs.YtlghdacdpkaoeaaGreatDoor
end
section
namespace Go.Proofs.YtlghdacdpkaoeaaGreatDoor
open Go.RowKit Go.Proofs.YtlghdacdpkaoeaaGreatDoorW.PrintWords Go.Maps Go.Proofs.YtlghdacdpkaoeaaGreatDoor.PFnMasterLoose
open Go.Lib hiding intOf
set_option linter.unusedVariables false
set_option linter.unusedSimpArgs false
theorem wrap64_succ (i : Nat) (h : i < 1000000) : wrap64 ((i : Int) + 1) = ((i + 1 : Nat) : Int) := by unfold wrap64; omega
theorem rd_text (ats : List Attr) (i : Nat) (h : i < ats.length) : rdOf ByteArray.empty (ats.map fun x => bs x.text) (i : Int) = bs (ats[i].text) := by
  unfold rdOf
  simp [List.getD_eq_getElem?_getD, h]
theorem joined_l (ats : List Attr) (hn : ats.length ≤ 1000) : ∀ (n i k : Nat) (acc : List UInt8), n = ats.length - i → 0 < i → i ≤ ats.length → n < k → acc.length + (tailText (ats.drop i)).length ≤ 200000 →
    spec_joined.l0 k (bs acc) (ats.map fun x => bs x.text) (ats.length : Int) (i : Int) = some (bs (acc ++ tailText (ats.drop i))) := by
  intro n
  induction n with
  | zero =>
    intro i k acc h1 h2 h3 h4 h5
    obtain ⟨k, rfl⟩ : ∃ k', k = k' + 1 := ⟨k - 1, by omega⟩
    rw [spec_joined.l0, if_neg (by omega), List.drop_eq_nil_of_le (by omega)]
    simp [tailText]
  | succ n ih =>
    intro i k acc h1 h2 h3 h4 h5
    obtain ⟨k, rfl⟩ : ∃ k', k = k' + 1 := ⟨k - 1, by omega⟩
    have hi : i < ats.length := by omega
    have hd : ats.drop i = ats[i] :: ats.drop (i + 1) := List.drop_eq_getElem_cons hi
    rw [hd] at h5 ⊢
    simp only [tailText, List.length_cons, List.length_append] at h5 ⊢
    rw [spec_joined.l0, if_pos (by omega), if_pos (by omega), if_pos (by simp; omega), if_pos (by omega), rd_text ats i hi, show (⟨#[44]⟩ : ByteArray) = bs [44] from rfl]
    simp only [bs_append, bs_size, List.length_append, List.length_cons, List.length_nil]
    rw [if_pos (by omega), if_pos (by omega), wrap64_succ i (by omega), ih (i + 1) k _ (by omega) (by omega) (by omega) (by omega) (by simp; omega)]
    simp
theorem joined_f (ats : List Attr) (k : Nat) (h0 : ats ≠ []) (hn : ats.length ≤ 1000) (hk : ats.length < k) (hs : (attrsText ats).length ≤ 200000) : spec_joined.f k (ats.map fun x => bs x.text) = some (bs (attrsText ats)) := by
  unfold spec_joined.f
  obtain ⟨k, rfl⟩ : ∃ k', k = k' + 1 := ⟨k - 1, by omega⟩
  cases ats with
  | nil => exact absurd rfl h0
  | cons a r =>
    simp only [attrsText, List.length_append] at hs ⊢
    rw [List.length_map, spec_joined.l0, if_pos (by simp), if_pos (by omega), if_pos (by simp), if_neg (by omega)]
    have := rd_text (a :: r) 0 (by simp)
    simp only [Int.ofNat_zero, List.getElem_cons_zero] at this
    rw [this, show (⟨#[]⟩ : ByteArray) = bs [] from rfl]
    simp only [bs_append, bs_size, List.length_append, List.length_cons, List.length_nil, List.nil_append]
    rw [if_pos (by omega), show wrap64 (0 + 1) = ((1 : Nat) : Int) from by unfold wrap64; omega]
    have := joined_l (a :: r) hn r.length 1 k a.text (by simp) (by omega) (by simp) (by simp at hk; omega) (by simpa using hs)
    simpa using this
end Go.Proofs.YtlghdacdpkaoeaaGreatDoor
end
section
namespace Go.Proofs.YtlghdacdpkaoeaaGreatDoor
open Go.RowKit Go.Proofs.YtlghdacdpkaoeaaGreatDoorW.PrintWords Go.Maps Go.Proofs.YtlghdacdpkaoeaaGreatDoor.PFnMasterLoose
open Go.Lib hiding intOf
set_option linter.unusedVariables false
set_option linter.unusedSimpArgs false
def VarR.fr1 (v : VarR) : List Attr := (if v.width = 0 then [] else [⟨[82, 69, 83, 79, 76, 85, 84, 73, 79, 78], false, resText v.width v.height⟩]) ++ opt [86, 73, 68, 69, 79] true v.video ++ [⟨[85, 82, 73], true, v.uri⟩]
def VarR.fr0 (v : VarR) : List Attr := opt [67, 79, 68, 69, 67, 83] true v.codecs ++ v.fr1
def VarR.frAttrs (v : VarR) : List Attr := [⟨[80, 82, 79, 71, 82, 65, 77, 45, 73, 68], false, decDigits v.program⟩, ⟨[66, 65, 78, 68, 87, 73, 68, 84, 72], false, decDigits v.bandwidth⟩] ++ (if v.average = 0 then [] else [⟨[65, 86, 69, 82, 65, 71, 69, 45, 66, 65, 78, 68, 87, 73, 68, 84, 72], false, decDigits v.average⟩]) ++ v.fr0
def frHead : List UInt8 := [35, 69, 88, 84, 45, 88, 45, 73, 45, 70, 82, 65, 77, 69, 45, 83, 84, 82, 69, 65, 77, 45, 73, 78, 70, 58]
theorem fj1 (v : VarR) (hs : v.Small) (k : Nat) (hk : 20 < k) (acc : List UInt8) (ha : acc.length ≤ 100000) : spec_Variant_Frames.j1 (k + 1) (bs acc) (bs v.uri) (v.program : Int) (v.bandwidth : Int) (v.average : Int) (bs v.codecs) (v.width : Int) (v.height : Int) (bs v.audio) (bs v.video) (bs v.subtitles) (bs v.captions) (bs v.name) (v.rate : Int) = some (bs (acc ++ tailText v.fr1 ++ [10])) := by
  have h1 := hs.uri
  have h2 := hs.video
  have h3 := res_len hs.nums.2.2.2.1 hs.nums.2.2.2.2.1
  rw [spec_Variant_Frames.j1]
  unfold VarR.fr1 opt
  simp only [show (⟨#[44, 67, 79, 68, 69, 67, 83, 61, 34]⟩ : ByteArray) = bs [44, 67, 79, 68, 69, 67, 83, 61, 34] from rfl, show (⟨#[34]⟩ : ByteArray) = bs [34] from rfl, show (⟨#[44, 82, 69, 83, 79, 76, 85, 84, 73, 79, 78, 61]⟩ : ByteArray) = bs [44, 82, 69, 83, 79, 76, 85, 84, 73, 79, 78, 61] from rfl, show (⟨#[44, 85, 82, 73, 61, 34]⟩ : ByteArray) = bs [44, 85, 82, 73, 61, 34] from rfl, show (⟨#[34, 10]⟩ : ByteArray) = bs [34, 10] from rfl, show (⟨#[44, 86, 73, 68, 69, 79, 61, 34]⟩ : ByteArray) = bs [44, 86, 73, 68, 69, 79, 61, 34] from rfl, show (⟨#[44, 66, 65, 78, 68, 87, 73, 68, 84, 72, 61]⟩ : ByteArray) = bs [44, 66, 65, 78, 68, 87, 73, 68, 84, 72, 61] from rfl, show (⟨#[44, 65, 86, 69, 82, 65, 71, 69, 45, 66, 65, 78, 68, 87, 73, 68, 84, 72, 61]⟩ : ByteArray) = bs [44, 65, 86, 69, 82, 65, 71, 69, 45, 66, 65, 78, 68, 87, 73, 68, 84, 72, 61] from rfl, show (⟨#[35, 69, 88, 84, 45, 88, 45, 73, 45, 70, 82, 65, 77, 69, 45, 83, 84, 82, 69, 65, 77, 45, 73, 78, 70, 58, 80, 82, 79, 71, 82, 65, 77, 45, 73, 68, 61]⟩ : ByteArray) = bs [35, 69, 88, 84, 45, 88, 45, 73, 45, 70, 82, 65, 77, 69, 45, 83, 84, 82, 69, 65, 77, 45, 73, 78, 70, 58, 80, 82, 79, 71, 82, 65, 77, 45, 73, 68, 61] from rfl]
  by_cases h : v.width = 0 <;> by_cases g : v.video = []
  · rw [if_neg (by omega), if_pos ((toList_nil _).2 g), if_pos h, if_pos g]
    simp only [bs_append, bs_size, List.length_append, List.length_cons, List.length_nil]
    repeat rw [if_pos (by omega)]
    simp [tailText, Attr.text, raw]
  · rw [if_neg (by omega), if_neg (fun c => g ((toList_nil _).1 c)), if_pos h, if_neg g]
    simp only [bs_append, bs_size, List.length_append, List.length_cons, List.length_nil]
    repeat rw [if_pos (by omega)]
    simp [tailText, Attr.text, raw]
  · rw [if_pos (by omega), res_f k hk _ _ _ _ _ v.width v.height _ _ _ _ _ _ hs.nums.2.2.2.1 hs.nums.2.2.2.2.1, Option.bind_some, if_pos ((toList_nil _).2 g), if_neg h, if_pos g]
    simp only [bs_append, bs_size, List.length_append, List.length_cons, List.length_nil]
    repeat rw [if_pos (by omega)]
    simp [tailText, Attr.text, raw]
  · rw [if_pos (by omega), res_f k hk _ _ _ _ _ v.width v.height _ _ _ _ _ _ hs.nums.2.2.2.1 hs.nums.2.2.2.2.1, Option.bind_some, if_neg (fun c => g ((toList_nil _).1 c)), if_neg h, if_neg g]
    simp only [bs_append, bs_size, List.length_append, List.length_cons, List.length_nil]
    repeat rw [if_pos (by omega)]
    simp [tailText, Attr.text, raw]
theorem fj0 (v : VarR) (hs : v.Small) (k : Nat) (hk : 20 < k) (acc : List UInt8) (ha : acc.length ≤ 90000) : spec_Variant_Frames.j0 (k + 2) (bs acc) (bs v.uri) (v.program : Int) (v.bandwidth : Int) (v.average : Int) (bs v.codecs) (v.width : Int) (v.height : Int) (bs v.audio) (bs v.video) (bs v.subtitles) (bs v.captions) (bs v.name) (v.rate : Int) = some (bs (acc ++ tailText v.fr0 ++ [10])) := by
  have h1 := hs.codecs
  rw [spec_Variant_Frames.j0]
  unfold VarR.fr0 opt
  simp only [show (⟨#[44, 67, 79, 68, 69, 67, 83, 61, 34]⟩ : ByteArray) = bs [44, 67, 79, 68, 69, 67, 83, 61, 34] from rfl, show (⟨#[34]⟩ : ByteArray) = bs [34] from rfl, show (⟨#[44, 82, 69, 83, 79, 76, 85, 84, 73, 79, 78, 61]⟩ : ByteArray) = bs [44, 82, 69, 83, 79, 76, 85, 84, 73, 79, 78, 61] from rfl, show (⟨#[44, 85, 82, 73, 61, 34]⟩ : ByteArray) = bs [44, 85, 82, 73, 61, 34] from rfl, show (⟨#[34, 10]⟩ : ByteArray) = bs [34, 10] from rfl, show (⟨#[44, 86, 73, 68, 69, 79, 61, 34]⟩ : ByteArray) = bs [44, 86, 73, 68, 69, 79, 61, 34] from rfl, show (⟨#[44, 66, 65, 78, 68, 87, 73, 68, 84, 72, 61]⟩ : ByteArray) = bs [44, 66, 65, 78, 68, 87, 73, 68, 84, 72, 61] from rfl, show (⟨#[44, 65, 86, 69, 82, 65, 71, 69, 45, 66, 65, 78, 68, 87, 73, 68, 84, 72, 61]⟩ : ByteArray) = bs [44, 65, 86, 69, 82, 65, 71, 69, 45, 66, 65, 78, 68, 87, 73, 68, 84, 72, 61] from rfl, show (⟨#[35, 69, 88, 84, 45, 88, 45, 73, 45, 70, 82, 65, 77, 69, 45, 83, 84, 82, 69, 65, 77, 45, 73, 78, 70, 58, 80, 82, 79, 71, 82, 65, 77, 45, 73, 68, 61]⟩ : ByteArray) = bs [35, 69, 88, 84, 45, 88, 45, 73, 45, 70, 82, 65, 77, 69, 45, 83, 84, 82, 69, 65, 77, 45, 73, 78, 70, 58, 80, 82, 79, 71, 82, 65, 77, 45, 73, 68, 61] from rfl]
  by_cases g : v.codecs = []
  · rw [if_pos ((toList_nil _).2 g), if_pos g, fj1 v hs k hk acc (by omega)]
    simp
  · rw [if_neg (fun c => g ((toList_nil _).1 c)), if_neg g]
    simp only [bs_append, bs_size, List.length_append, List.length_cons, List.length_nil]
    repeat rw [if_pos (by omega)]
    rw [fj1 v hs k hk _ (by simp; omega)]
    simp [tailText, Attr.text, raw]
theorem frames_f (v : VarR) (hs : v.Small) : spec_Variant_Frames.f 30 (bs v.uri) (v.program : Int) (v.bandwidth : Int) (v.average : Int) (bs v.codecs) (v.width : Int) (v.height : Int) (bs v.audio) (bs v.video) (bs v.subtitles) (bs v.captions) (bs v.name) (v.rate : Int) = some (bs (frHead ++ attrsText v.frAttrs ++ [10])) := by
  have h1 := hs.nums.1
  have h2 := hs.nums.2.1
  have h3 := hs.nums.2.2.1
  have l1 := dec_len_u32 h1
  have l2 := dec_len_u32 h2
  have l3 := dec_len_u32 h3
  unfold spec_Variant_Frames.f VarR.frAttrs
  simp only [show (⟨#[44, 67, 79, 68, 69, 67, 83, 61, 34]⟩ : ByteArray) = bs [44, 67, 79, 68, 69, 67, 83, 61, 34] from rfl, show (⟨#[34]⟩ : ByteArray) = bs [34] from rfl, show (⟨#[44, 82, 69, 83, 79, 76, 85, 84, 73, 79, 78, 61]⟩ : ByteArray) = bs [44, 82, 69, 83, 79, 76, 85, 84, 73, 79, 78, 61] from rfl, show (⟨#[44, 85, 82, 73, 61, 34]⟩ : ByteArray) = bs [44, 85, 82, 73, 61, 34] from rfl, show (⟨#[34, 10]⟩ : ByteArray) = bs [34, 10] from rfl, show (⟨#[44, 86, 73, 68, 69, 79, 61, 34]⟩ : ByteArray) = bs [44, 86, 73, 68, 69, 79, 61, 34] from rfl, show (⟨#[44, 66, 65, 78, 68, 87, 73, 68, 84, 72, 61]⟩ : ByteArray) = bs [44, 66, 65, 78, 68, 87, 73, 68, 84, 72, 61] from rfl, show (⟨#[44, 65, 86, 69, 82, 65, 71, 69, 45, 66, 65, 78, 68, 87, 73, 68, 84, 72, 61]⟩ : ByteArray) = bs [44, 65, 86, 69, 82, 65, 71, 69, 45, 66, 65, 78, 68, 87, 73, 68, 84, 72, 61] from rfl, show (⟨#[35, 69, 88, 84, 45, 88, 45, 73, 45, 70, 82, 65, 77, 69, 45, 83, 84, 82, 69, 65, 77, 45, 73, 78, 70, 58, 80, 82, 79, 71, 82, 65, 77, 45, 73, 68, 61]⟩ : ByteArray) = bs [35, 69, 88, 84, 45, 88, 45, 73, 45, 70, 82, 65, 77, 69, 45, 83, 84, 82, 69, 65, 77, 45, 73, 78, 70, 58, 80, 82, 79, 71, 82, 65, 77, 45, 73, 68, 61] from rfl]
  rw [u64_in (v.program : Int) (by omega) (by omega), u64_in (v.bandwidth : Int) (by omega) (by omega), u64_in (v.average : Int) (by omega) (by omega)]
  rw [dec_f64 30 v.program _ (by omega) rfl (by unfold U64; omega), dec_f64 30 v.bandwidth _ (by omega) rfl (by unfold U64; omega), dec_f64 30 v.average _ (by omega) rfl (by unfold U64; omega)]
  simp only [Option.bind_some, bs_append, bs_size, List.length_append, List.length_cons, List.length_nil]
  rw [if_pos (by omega), if_pos (by omega), if_pos (by omega)]
  by_cases h : v.average = 0
  · rw [if_neg (by omega), if_pos h, fj0 v hs 28 (by omega) _ (by simp; omega)]
    simp [attrsText, tailText, Attr.text, raw, frHead]
  · rw [if_pos (by omega), if_neg h]
    repeat rw [if_pos (by omega)]
    rw [fj0 v hs 28 (by omega) _ (by simp; omega)]
    simp [attrsText, tailText, Attr.text, raw, frHead]
end Go.Proofs.YtlghdacdpkaoeaaGreatDoor
end
section
namespace Go.Proofs.YtlghdacdpkaoeaaGreatDoor
open Go.RowKit Go.Proofs.YtlghdacdpkaoeaaGreatDoorW.PrintWords Go.Maps Go.Proofs.YtlghdacdpkaoeaaGreatDoor.PFnMasterLoose
open Go.Lib hiding intOf
set_option linter.unusedVariables false
set_option linter.unusedSimpArgs false
def AltR.s (a : AltR) : S55 := ⟨bs a.typ, bs a.group, bs a.name, a.dflt, bs a.auto, bs a.lang, bs a.uri⟩
def VarR.has (v : VarR) (a : AltR) : Bool := (a.typ == [65, 85, 68, 73, 79] && v.audio == a.group) || (a.typ == [86, 73, 68, 69, 79] && v.video == a.group) || (a.typ == [83, 85, 66, 84, 73, 84, 76, 69, 83] && v.subtitles == a.group)
theorem rd_alt (l : List AltR) (i : Nat) (h : i < l.length) : rd_T55 (l.map AltR.s) (i : Int) = l[i].s := by
  unfold rd_T55
  simp [List.getD_eq_getElem?_getD, h]
theorem bs_eqList (a : List UInt8) : (bs a).toList = a := by rw [ByteArray.toList_eq, bs_toList]
theorem of_l (v : VarR) (l : List AltR) (hl : l.length ≤ 1000) : ∀ (n i k : Nat) (acc : List S55), n = l.length - i → i ≤ l.length → 3 * n < k → acc.length + n ≤ 1000 →
    spec_Master_Of.l0 k acc (l.map AltR.s) (l.length : Int) (i : Int) (bs v.uri) (v.program : Int) (v.bandwidth : Int) (v.average : Int) (bs v.codecs) (v.width : Int) (v.height : Int) (bs v.audio) (bs v.video) (bs v.subtitles) (bs v.captions) (bs v.name) (v.rate : Int) = some (acc ++ ((l.drop i).filter v.has).map AltR.s) := by
  intro n
  induction n with
  | zero =>
    intro i k acc h1 h2 h3 h4
    obtain ⟨k, rfl⟩ : ∃ k', k = k' + 1 := ⟨k - 1, by omega⟩
    rw [spec_Master_Of.l0, if_neg (by omega), List.drop_eq_nil_of_le (by omega)]
    simp
  | succ n ih =>
    intro i k acc h1 h2 h3 h4
    obtain ⟨k, rfl⟩ : ∃ k', k = k' + 1 + 1 + 1 := ⟨k - 3, by omega⟩
    have hi : i < l.length := by omega
    have hd : l.drop i = l[i] :: l.drop (i + 1) := List.drop_eq_getElem_cons hi
    rw [hd, spec_Master_Of.l0, if_pos (by omega), if_pos (by omega), if_pos (by simp; omega), rd_alt l i hi]
    generalize l[i] = a
    have go : ∀ (k' : Nat) (b : Bool), k ≤ k' → spec_Master_Of.l0 k' (if b then acc ++ [a.s] else acc) (l.map AltR.s) (l.length : Int) (wrap64 ((i : Int) + 1)) (bs v.uri) (v.program : Int) (v.bandwidth : Int) (v.average : Int) (bs v.codecs) (v.width : Int) (v.height : Int) (bs v.audio) (bs v.video) (bs v.subtitles) (bs v.captions) (bs v.name) (v.rate : Int) = some ((if b then acc ++ [a.s] else acc) ++ ((l.drop (i + 1)).filter v.has).map AltR.s) := by
      intro k' b hk
      rw [wrap64_succ i (by omega)]
      refine ih (i + 1) k' _ (by omega) (by omega) (by omega) ?_
      cases b <;> simp <;> omega
    have gt := fun k' hk => go k' true hk
    have gf := fun k' hk => go k' false hk
    simp only [if_true, Bool.false_eq_true, if_false] at gt gf
    have hacc : acc.length < 1353245080339 := by omega
    have e : (⟨bs a.typ, bs a.group, bs a.name, a.dflt, bs a.auto, bs a.lang, bs a.uri⟩ : S55) = a.s := rfl
    simp only [AltR.s, bs_eqList]
    by_cases t1 : a.typ = [65, 85, 68, 73, 79]
    · rw [if_pos t1, spec_Master_Of.j1]
      by_cases g : v.audio = a.group
      · rw [if_pos (by simpa using g), if_pos hacc, e, gt _ (by omega)]
        simp [VarR.has, t1, g]
      · rw [if_neg (by simpa using g), bs_eqList, if_neg (by rw [t1]; decide), spec_Master_Of.j2, if_neg (by decide), bs_eqList, if_neg (by rw [t1]; decide), gf _ (by omega)]
        simp [VarR.has, t1, g]
    · rw [if_neg t1, spec_Master_Of.j1, if_neg (by decide), bs_eqList]
      by_cases t2 : a.typ = [86, 73, 68, 69, 79]
      · rw [if_pos t2, spec_Master_Of.j2, bs_eqList, bs_eqList]
        by_cases g : v.video = a.group
        · rw [if_pos (by simpa using g), if_pos hacc, e, gt _ (by omega)]
          simp [VarR.has, t2, g]
        · rw [if_neg (by simpa using g), bs_eqList, if_neg (by rw [t2]; decide), gf _ (by omega)]
          simp [VarR.has, t2, g]
      · rw [if_neg t2, spec_Master_Of.j2, if_neg (by decide), bs_eqList]
        by_cases t3 : a.typ = [83, 85, 66, 84, 73, 84, 76, 69, 83]
        · rw [if_pos t3, bs_eqList, bs_eqList]
          by_cases g : v.subtitles = a.group
          · rw [if_pos g, if_pos hacc, e, gt _ (by omega)]
            simp [VarR.has, t3, g]
          · rw [if_neg g, gf _ (by omega)]
            simp [VarR.has, t3, g]
        · rw [if_neg t3, gf _ (by omega)]
          simp [VarR.has, t1, t2, t3]
end Go.Proofs.YtlghdacdpkaoeaaGreatDoor
end
