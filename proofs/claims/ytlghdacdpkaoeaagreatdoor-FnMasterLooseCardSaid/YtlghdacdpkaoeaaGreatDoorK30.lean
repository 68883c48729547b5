import Derived.Test.YtlghdacdpkaoeaaGreatDoorK29
import Derived.Test.YtlghdacdpkaoeaaGreatDoorK23
import Derived.Test.YtlghdacdpkaoeaaGreatDoorK24
section
namespace Go.Proofs.YtlghdacdpkaoeaaGreatDoor
open Go.RowKit Go.Proofs.YtlghdacdpkaoeaaGreatDoorW.PrintWords Go.Maps
open Go.Lib hiding intOf
set_option linter.unusedVariables false
set_option linter.unusedSimpArgs false
def rateOf (l : List UInt8) : Nat := (pfBits (rf l).m (-(rfExp l)).toNat).getD 0
theorem rateOf_nil : rateOf [] = 0 := by
  have h1 : (rf ([] : List UInt8)).m = 0 := rfl
  simp [rateOf, h1, pfBits]
theorem rateOf_sec (k : Nat) (h : k < 1001) : rateOf (secText k) = eighthBits k := by
  obtain ⟨h1, h2⟩ := rf_sec k
  unfold rateOf
  rw [h1, h2]
  have h3 := sec_bits ⟨k, h⟩
  simp only at h3
  by_cases h0 : k = 0
  · rw [if_pos h0] at h3 ⊢
    rw [show (-(0 : Int)).toNat = 0 from rfl, h3]; rfl
  · rw [if_neg h0] at h3 ⊢
    rw [show (-(-3 : Int)).toNat = 3 from rfl, h3]; rfl
theorem floatOf_sec {N : Nat} (k : Nat) (h : k < 1001) : FloatOf N (secText k) (rateOf (secText k)) := fun W hW => by
  rw [rateOf_sec k h]; exact ParseFloat_sec k h W hW
end Go.Proofs.YtlghdacdpkaoeaaGreatDoor
end
section
namespace Go.Proofs.YtlghdacdpkaoeaaGreatDoor
open Go.RowKit Go.Proofs.YtlghdacdpkaoeaaGreatDoorW.PrintWords Go.Maps
open Go.Lib hiding intOf
set_option linter.unusedVariables false
set_option linter.unusedSimpArgs false
def ValB (c : UInt8) : Prop := 32 ≤ c ∧ c < 127 ∧ c ≠ 34
structure Txt (v : List UInt8) : Prop where
  ne : v ≠ []
  signs : ∀ c ∈ v, ValB c
  head : v.head? ≠ some 32
  last : v.getLast? ≠ some 32
def Bare (v : List UInt8) : Prop := ∀ c ∈ v, c ≠ 44
theorem Txt.plain {v : List UInt8} (h : Txt v) : Plain v :=
  ⟨h.ne, ⟨h.head, fun e => (h.signs 34 (List.mem_of_mem_head? e)).2.2 rfl⟩, ⟨h.last, fun e => (h.signs 34 (List.mem_of_getLast? e)).2.2 rfl⟩⟩
theorem valB_digit {c : UInt8} (h : 48 ≤ c ∧ c ≤ 57) : ValB c ∧ c ≠ 44 ∧ c ≠ 32 := by
  have : ∀ c : UInt8, (48 ≤ c ∧ c ≤ 57) → ((32 ≤ c ∧ c < 127 ∧ c ≠ 34) ∧ c ≠ 44 ∧ c ≠ 32) := by
    intro c ⟨h1, h2⟩
    simp only [UInt8.le_iff_toNat_le, UInt8.lt_iff_toNat_lt, ne_eq, ← UInt8.toNat_inj] at *
    simp at *
    omega
  exact this c h
theorem txt_digits {l : List UInt8} (hd : Digits l) (h0 : l ≠ []) : Txt l ∧ Bare l :=
  ⟨⟨h0, fun c hc => (valB_digit (hd c hc)).1, fun e => (valB_digit (hd 32 (List.mem_of_mem_head? e))).2.2 rfl, fun e => (valB_digit (hd 32 (List.mem_of_getLast? e))).2.2 rfl⟩, fun c hc => (valB_digit (hd c hc)).2.1⟩
theorem txt_dec (n : Nat) : Txt (decDigits n) ∧ Bare (decDigits n) := txt_digits (dec_digits n) (decDigits_ne n)
theorem valB_46 : ValB 46 := by unfold ValB; decide
theorem txt_sec (k : Nat) : Txt (secText k) ∧ Bare (secText k) := by
  have hc : ∀ c ∈ secText k, (48 ≤ c ∧ c ≤ 57) ∨ c = 46 := by
    intro c hc
    simp only [secText, List.mem_append, List.mem_cons] at hc
    rcases hc with hc | hc | (hc | hc) | hc
    · exact .inl (dec_digits _ c hc)
    · exact .inr hc
    all_goals exact .inl (dec_digits _ c hc)
  have hs : ∀ c ∈ secText k, ValB c ∧ c ≠ 44 ∧ c ≠ 32 := by
    intro c h
    rcases hc c h with h | rfl
    · exact valB_digit h
    · exact ⟨valB_46, by decide, by decide⟩
  refine ⟨⟨by simp [secText], fun c h => (hs c h).1, fun e => (hs 32 (List.mem_of_mem_head? e)).2.2 rfl, fun e => (hs 32 (List.mem_of_getLast? e)).2.2 rfl⟩, fun c h => (hs c h).2.1⟩
theorem txt_res {w h : Nat} (h0 : w ≠ 0) : Txt (resText w h) ∧ Bare (resText w h) := by
  have hs : ∀ c ∈ resText w h, ValB c ∧ c ≠ 44 ∧ c ≠ 32 := by
    intro c hc
    unfold resText at hc
    rw [if_neg h0] at hc
    simp only [List.mem_append, List.mem_cons] at hc
    rcases hc with hc | rfl | hc
    · exact valB_digit (dec_digits _ c hc)
    · exact ⟨by unfold ValB; decide, by decide, by decide⟩
    · exact valB_digit (dec_digits _ c hc)
  refine ⟨⟨by simp [resText, h0], fun c h => (hs c h).1, fun e => (hs 32 (List.mem_of_mem_head? e)).2.2 rfl, fun e => (hs 32 (List.mem_of_getLast? e)).2.2 rfl⟩, fun c h => (hs c h).2.1⟩
theorem last_app {a b : List UInt8} (h : b ≠ []) : (a ++ b).getLast? = b.getLast? := by
  rw [List.getLast?_append]
  cases hb : b.getLast? with
  | none => exact absurd (List.getLast?_eq_none_iff.1 hb) h
  | some c => rfl
structure AttrT (a : Attr) : Prop where
  name0 : a.name ≠ []
  names : ∀ c ∈ a.name, nameB c = true
  txt : Txt a.val
  bare : a.q = false → Bare a.val
theorem AttrT.ok {a : Attr} (h : AttrT a) : a.Ok :=
  ⟨h.name0, h.names, h.txt.plain, fun _ hm => (h.txt.signs _ hm).2.2 rfl, fun hq c hc => ⟨(h.txt.signs c hc).2.2, h.bare hq c hc⟩⟩
theorem nameB_signs {c : UInt8} (h : nameB c = true) : 32 ≤ c ∧ c < 127 := by
  simp only [nameB, Bool.or_eq_true, Bool.and_eq_true, decide_eq_true_eq, beq_iff_eq] at h
  simp only [UInt8.le_iff_toNat_le, UInt8.lt_iff_toNat_lt, ← UInt8.toNat_inj] at *
  simp at *
  omega
def LineB (c : UInt8) : Prop := 32 ≤ c ∧ c < 127
theorem AttrT.signs {a : Attr} (h : AttrT a) : ∀ c ∈ a.text, LineB c := by
  intro c hc
  simp only [Attr.text, List.mem_append, List.mem_cons] at hc
  rcases hc with hc | rfl | hc
  · exact nameB_signs (h.names c hc)
  · unfold LineB; decide
  · unfold raw at hc
    split at hc
    · simp only [List.mem_append, List.mem_cons, List.not_mem_nil, or_false] at hc
      rcases hc with rfl | hc | rfl
      · unfold LineB; decide
      · exact ⟨(h.txt.signs c hc).1, (h.txt.signs c hc).2.1⟩
      · unfold LineB; decide
    · exact ⟨(h.txt.signs c hc).1, (h.txt.signs c hc).2.1⟩
theorem AttrT.last {a : Attr} (h : AttrT a) : a.text.getLast? ≠ some 32 := by
  unfold Attr.text raw
  rw [last_app (by simp)]
  split
  · rw [List.getLast?_cons_of_ne_nil (by simp), List.getLast?_cons_of_ne_nil (by simp), List.getLast?_append]; simp
  · rw [List.getLast?_cons_of_ne_nil h.txt.ne]; exact h.txt.last
theorem tail_signs : ∀ {ats : List Attr}, (∀ a ∈ ats, AttrT a) → ∀ c ∈ tailText ats, LineB c
  | [], _, c, hc => by simp [tailText] at hc
  | a :: r, h, c, hc => by
    simp only [tailText, List.mem_cons, List.mem_append] at hc
    rcases hc with rfl | hc | hc
    · unfold LineB; decide
    · exact (h a (by simp)).signs c hc
    · exact tail_signs (fun b hb => h b (by simp [hb])) c hc
theorem attrs_signs {ats : List Attr} (h : ∀ a ∈ ats, AttrT a) : ∀ c ∈ attrsText ats, LineB c := by
  cases ats with
  | nil => simp [attrsText]
  | cons a r =>
    intro c hc
    simp only [attrsText, List.mem_append] at hc
    rcases hc with hc | hc
    · exact (h a (by simp)).signs c hc
    · exact tail_signs (fun b hb => h b (by simp [hb])) c hc
theorem text_ne (a : Attr) : a.text ≠ [] := by simp [Attr.text]
theorem tail_last : ∀ {ats : List Attr}, (∀ a ∈ ats, AttrT a) → (tailText ats).getLast? ≠ some 32
  | [], _ => by simp [tailText]
  | a :: r, h => by
    simp only [tailText]
    rw [List.getLast?_cons_of_ne_nil (by simp [text_ne])]
    by_cases hr : tailText r = []
    · rw [hr, List.append_nil]; exact (h a (by simp)).last
    · rw [last_app hr]; exact tail_last (fun b hb => h b (by simp [hb]))
theorem attrs_last {ats : List Attr} (h : ∀ a ∈ ats, AttrT a) : (attrsText ats).getLast? ≠ some 32 := by
  cases ats with
  | nil => simp [attrsText]
  | cons a r =>
    simp only [attrsText]
    by_cases hr : tailText r = []
    · rw [hr, List.append_nil]; exact (h a (by simp)).last
    · rw [last_app hr]; exact tail_last (fun b hb => h b (by simp [hb]))
theorem attrs_ne {ats : List Attr} (h : ats ≠ []) : attrsText ats ≠ [] := by
  cases ats with
  | nil => exact absurd rfl h
  | cons a r => simp [attrsText, text_ne]
def OptTxt (v : List UInt8) : Prop := v = [] ∨ Txt v
structure AltR.Good (a : AltR) : Prop where
  typ : a.typ = [65, 85, 68, 73, 79] ∨ a.typ = [86, 73, 68, 69, 79] ∨ a.typ = [83, 85, 66, 84, 73, 84, 76, 69, 83]
  group : a.group = [103] ∨ a.group = [104]
  name : Txt a.name ∧ a.name.length ≤ 20
  auto : a.auto = [] ∨ a.auto = [89, 69, 83] ∨ a.auto = [78, 79]
  lang : OptTxt a.lang ∧ a.lang.length ≤ 10
  uri : OptTxt a.uri ∧ a.uri.length ≤ 20
structure VarR.Good (v : VarR) : Prop where
  nums : v.program < 4294967296 ∧ v.bandwidth < 4294967296 ∧ v.average < 4294967296 ∧ v.width < 4294967296 ∧ v.height < 4294967296 ∧ v.rate < 1001
  uri : Txt v.uri ∧ v.uri.length ≤ 40 ∧ v.uri.head? = some 117
  codecs : OptTxt v.codecs ∧ v.codecs.length ≤ 30
  audio : OptTxt v.audio ∧ v.audio.length ≤ 10
  video : OptTxt v.video ∧ v.video.length ≤ 10
  subtitles : OptTxt v.subtitles ∧ v.subtitles.length ≤ 10
  captions : OptTxt v.captions ∧ v.captions.length ≤ 10
  name : OptTxt v.name ∧ v.name.length ≤ 10
theorem AltR.Good.small {a : AltR} (h : a.Good) : a.Small := by
  refine ⟨?_, ?_, by have := h.name.2; omega, ?_, by have := h.lang.2; omega, by have := h.uri.2; omega⟩
  · rcases h.typ with e | e | e <;> rw [e] <;> simp
  · rcases h.group with e | e <;> rw [e] <;> simp
  · rcases h.auto with e | e | e <;> rw [e] <;> simp
theorem VarR.Good.small {v : VarR} (h : v.Good) : v.Small := by
  obtain ⟨h1, h2, h3, h4, h5, h6, h7, h8⟩ := h
  exact ⟨⟨h1.1, h1.2.1, h1.2.2.1, h1.2.2.2.1, h1.2.2.2.2.1, by have := h1.2.2.2.2.2; omega⟩, by omega, by omega, by omega, by omega, by omega, by omega, by omega⟩
theorem txt_of (v : List UInt8) (h : (!v.isEmpty && v.all (fun c => 32 ≤ c && c < 127 && c != 34) && v.head? != some 32 && v.getLast? != some 32) = true) : Txt v := by
  simp only [Bool.and_eq_true, Bool.not_eq_true', List.isEmpty_eq_false_iff, List.all_eq_true, decide_eq_true_eq, bne_iff_ne, ne_eq] at h
  obtain ⟨⟨⟨h1, h2⟩, h3⟩, h4⟩ := h
  exact ⟨h1, fun c hc => ⟨(h2 c hc).1.1, (h2 c hc).1.2, (h2 c hc).2⟩, h3, h4⟩
theorem attrT_of {n v : List UInt8} {q : Bool} (hn : (!n.isEmpty && n.all nameB) = true) (hv : Txt v) (hb : q = false → Bare v) : AttrT ⟨n, q, v⟩ := by
  simp only [Bool.and_eq_true, Bool.not_eq_true', List.isEmpty_eq_false_iff, List.all_eq_true] at hn
  exact ⟨hn.1, hn.2, hv, hb⟩
theorem opt_all {p : Attr → Prop} {n v : List UInt8} {q : Bool} (h : v ≠ [] → p ⟨n, q, v⟩) : ∀ a ∈ opt n q v, p a := by
  intro a ha
  unfold opt at ha
  split at ha
  · simp at ha
  · rename_i h0; simp at ha; subst ha; exact h h0
theorem bare_lit {v : List UInt8} (h : v.all (fun c => c != 44) = true) : Bare v := by
  intro c hc; simpa using List.all_eq_true.1 h c hc
theorem AltR.Good.attrT {a : AltR} (h : a.Good) : ∀ x ∈ a.attrs, AttrT x := by
  intro x hx
  simp only [AltR.attrs, List.mem_append, List.mem_cons, List.not_mem_nil, or_false] at hx
  rcases hx with (((rfl | rfl | rfl | rfl) | hx) | hx) | hx
  · rcases h.typ with e | e | e <;> rw [e] <;> exact attrT_of (by decide) (txt_of _ (by decide)) (fun _ => bare_lit (by decide))
  · rcases h.group with e | e <;> rw [e] <;> exact attrT_of (by decide) (txt_of _ (by decide)) (fun h => by cases h)
  · exact attrT_of (by decide) h.name.1 (fun h => by cases h)
  · cases a.dflt <;> exact attrT_of (by decide) (txt_of _ (by decide)) (fun _ => bare_lit (by decide))
  · refine opt_all (p := AttrT) (fun h0 => ?_) x hx
    rcases h.auto with e | e | e
    · exact absurd e h0
    all_goals rw [e]; exact attrT_of (by decide) (txt_of _ (by decide)) (fun _ => bare_lit (by decide))
  · exact opt_all (p := AttrT) (fun h0 => attrT_of (by decide) (h.lang.1.resolve_left h0) (fun h => by cases h)) x hx
  · exact opt_all (p := AttrT) (fun h0 => attrT_of (by decide) (h.uri.1.resolve_left h0) (fun h => by cases h)) x hx
theorem AltR.key (a : AltR) : ∀ x ∈ a.attrs, AltKey x := by
  intro x hx
  simp only [AltR.attrs, List.mem_append, List.mem_cons, List.not_mem_nil, or_false] at hx
  rcases hx with (((rfl | rfl | rfl | rfl) | hx) | hx) | hx
  · exact .inl rfl
  · exact .inr (.inl rfl)
  · exact .inr (.inr (.inl rfl))
  · cases a.dflt
    · exact .inr (.inr (.inr (.inr (.inl ⟨rfl, rfl⟩))))
    · exact .inr (.inr (.inr (.inl ⟨rfl, rfl⟩)))
  · exact opt_all (p := AltKey) (fun h0 => .inr (.inr (.inr (.inr (.inr (.inl rfl)))))) x hx
  · exact opt_all (p := AltKey) (fun h0 => .inr (.inr (.inr (.inr (.inr (.inr (.inl rfl))))))) x hx
  · exact opt_all (p := AltKey) (fun h0 => .inr (.inr (.inr (.inr (.inr (.inr (.inr rfl))))))) x hx
theorem opt_names (n v : List UInt8) (q : Bool) : ((opt n q v).map Attr.name).Sublist [n] := by
  unfold opt; split
  · simp
  · simp
theorem AltR.nodup (a : AltR) : (a.attrs.map Attr.name).Nodup := by
  have h : (a.attrs.map Attr.name).Sublist [sTYPE, sGROUP, sNAME, sDEFAULT, sAUTO, sLANG, sURI] := by
    simp only [AltR.attrs, List.map_append]
    exact (((List.Sublist.refl [sTYPE, sGROUP, sNAME, sDEFAULT]).append (opt_names sAUTO a.auto false)).append (opt_names sLANG a.lang true)).append (opt_names sURI a.uri true)
  exact h.nodup (by decide)
end Go.Proofs.YtlghdacdpkaoeaaGreatDoor
end
section
namespace Go.Proofs.YtlghdacdpkaoeaaGreatDoor
open Go.RowKit Go.Proofs.YtlghdacdpkaoeaaGreatDoorW.PrintWords Go.Maps
open Go.Lib hiding intOf
set_option linter.unusedVariables false
set_option linter.unusedSimpArgs false
def nPROGRAM : List UInt8 := [80, 82, 79, 71, 82, 65, 77, 45, 73, 68]
def nBANDWIDTH : List UInt8 := [66, 65, 78, 68, 87, 73, 68, 84, 72]
def nAVERAGE : List UInt8 := [65, 86, 69, 82, 65, 71, 69, 45, 66, 65, 78, 68, 87, 73, 68, 84, 72]
def nCODECS : List UInt8 := [67, 79, 68, 69, 67, 83]
def nRES : List UInt8 := [82, 69, 83, 79, 76, 85, 84, 73, 79, 78]
def nAUDIO : List UInt8 := [65, 85, 68, 73, 79]
def nVIDEO : List UInt8 := [86, 73, 68, 69, 79]
def nCAP : List UInt8 := [67, 76, 79, 83, 69, 68, 45, 67, 65, 80, 84, 73, 79, 78, 83]
def nSUB : List UInt8 := [83, 85, 66, 84, 73, 84, 76, 69, 83]
def nRATE : List UInt8 := [70, 82, 65, 77, 69, 45, 82, 65, 84, 69]
theorem num18_u32 {n : Nat} (h : n < 4294967296) : Num18 (decDigits n) := ⟨n, by omega, rfl⟩
theorem if_all {p : Attr → Prop} {c : Prop} [Decidable c] {a : Attr} (h : ¬ c → p a) : ∀ x ∈ (if c then [] else [a]), p x := by
  intro x hx
  split at hx
  · simp at hx
  · rename_i h0; simp at hx; subst hx; exact h h0
theorem VarR.all {p : Attr → Prop} {v : VarR} (h1 : p ⟨nPROGRAM, false, decDigits v.program⟩) (h2 : p ⟨nBANDWIDTH, false, decDigits v.bandwidth⟩) (h3 : p ⟨nAVERAGE, false, decDigits v.average⟩)
    (h4 : v.codecs ≠ [] → p ⟨nCODECS, true, v.codecs⟩) (h5 : v.width ≠ 0 → p ⟨nRES, false, resText v.width v.height⟩) (h6 : v.audio ≠ [] → p ⟨nAUDIO, true, v.audio⟩) (h7 : v.video ≠ [] → p ⟨nVIDEO, true, v.video⟩)
    (h8 : v.captions ≠ [] → p ⟨nCAP, (v.captions != [78, 79, 78, 69]), v.captions⟩) (h9 : v.subtitles ≠ [] → p ⟨nSUB, true, v.subtitles⟩) (h10 : v.name ≠ [] → p ⟨sNAME, true, v.name⟩) (h11 : p ⟨nRATE, false, secText v.rate⟩) : ∀ x ∈ v.attrs, p x := by
  intro x hx
  simp only [VarR.attrs, VarR.r0, VarR.r1, VarR.r2, VarR.r3, VarR.r4, VarR.r5, VarR.r6, VarR.r7, List.mem_append, List.mem_cons, List.not_mem_nil, or_false] at hx
  rcases hx with ((rfl | rfl) | hx) | hx | hx | hx | hx | hx | hx | hx | hx
  · exact h1
  · exact h2
  · exact if_all (p := p) (fun _ => h3) x hx
  · exact opt_all h4 x hx
  · exact if_all (p := p) h5 x hx
  · exact opt_all h6 x hx
  · exact opt_all h7 x hx
  · exact opt_all h8 x hx
  · exact opt_all h9 x hx
  · exact opt_all h10 x hx
  · exact if_all (p := p) (fun _ => h11) x hx
theorem VarR.fall {p : Attr → Prop} {v : VarR} (h1 : p ⟨nPROGRAM, false, decDigits v.program⟩) (h2 : p ⟨nBANDWIDTH, false, decDigits v.bandwidth⟩) (h3 : p ⟨nAVERAGE, false, decDigits v.average⟩)
    (h4 : v.codecs ≠ [] → p ⟨nCODECS, true, v.codecs⟩) (h5 : v.width ≠ 0 → p ⟨nRES, false, resText v.width v.height⟩) (h7 : v.video ≠ [] → p ⟨nVIDEO, true, v.video⟩) (h8 : p ⟨sURI, true, v.uri⟩) : ∀ x ∈ v.frAttrs, p x := by
  intro x hx
  simp only [VarR.frAttrs, VarR.fr0, VarR.fr1, List.mem_append, List.mem_cons, List.not_mem_nil, or_false] at hx
  rcases hx with ((rfl | rfl) | hx) | hx | (hx | hx) | rfl
  · exact h1
  · exact h2
  · exact if_all (p := p) (fun _ => h3) x hx
  · exact opt_all h4 x hx
  · exact if_all (p := p) h5 x hx
  · exact opt_all h7 x hx
  · exact h8
theorem attrT_q {n v : List UInt8} (hn : (!n.isEmpty && n.all nameB) = true) (hv : OptTxt v) (h0 : v ≠ []) : AttrT ⟨n, true, v⟩ := attrT_of hn (hv.resolve_left h0) (fun h => by cases h)
theorem attrT_d {n v : List UInt8} (hn : (!n.isEmpty && n.all nameB) = true) (hv : Txt v ∧ Bare v) : AttrT ⟨n, false, v⟩ := attrT_of hn hv.1 (fun _ => hv.2)
theorem VarR.Good.attrT {v : VarR} (h : v.Good) : ∀ x ∈ v.attrs, AttrT x :=
  VarR.all (attrT_d (by decide) (txt_dec _)) (attrT_d (by decide) (txt_dec _)) (attrT_d (by decide) (txt_dec _)) (attrT_q (by decide) h.codecs.1) (fun h0 => attrT_d (by decide) (txt_res h0)) (attrT_q (by decide) h.audio.1) (attrT_q (by decide) h.video.1)
    (fun h0 => attrT_of (by decide) (h.captions.1.resolve_left h0) (fun hq => by
      have e : v.captions = [78, 79, 78, 69] := by simpa using hq
      rw [e]; exact bare_lit (by decide)))
    (attrT_q (by decide) h.subtitles.1) (attrT_q (by decide) h.name.1) (attrT_d (by decide) (txt_sec _))
theorem VarR.Good.fattrT {v : VarR} (h : v.Good) : ∀ x ∈ v.frAttrs, AttrT x :=
  VarR.fall (attrT_d (by decide) (txt_dec _)) (attrT_d (by decide) (txt_dec _)) (attrT_d (by decide) (txt_dec _)) (attrT_q (by decide) h.codecs.1) (fun h0 => attrT_d (by decide) (txt_res h0)) (attrT_q (by decide) h.video.1)
    (attrT_of (by decide) h.uri.1 (fun h => by cases h))
theorem VarR.Good.key {v : VarR} (h : v.Good) (N : Nat) : ∀ x ∈ v.attrs, VarKey N rateOf x := by
  refine VarR.all ?_ ?_ ?_ ?_ ?_ ?_ ?_ ?_ ?_ ?_ ?_ <;> unfold VarKey <;> intros
  · exact .inr (.inr (.inr (.inr (.inr (.inr (.inr (.inl ⟨rfl, num18_u32 h.nums.1⟩)))))))
  · exact .inr (.inr (.inr (.inr (.inr (.inr (.inr (.inr (.inl ⟨rfl, num18_u32 h.nums.2.1⟩))))))))
  · exact .inr (.inr (.inr (.inr (.inr (.inr (.inr (.inr (.inr (.inl ⟨rfl, num18_u32 h.nums.2.2.1⟩)))))))))
  · exact .inl rfl
  · exact .inr (.inl rfl)
  · exact .inr (.inr (.inl rfl))
  · exact .inr (.inr (.inr (.inl rfl)))
  · exact .inr (.inr (.inr (.inr (.inr (.inl rfl)))))
  · exact .inr (.inr (.inr (.inr (.inl rfl))))
  · exact .inr (.inr (.inr (.inr (.inr (.inr (.inl rfl))))))
  · exact .inr (.inr (.inr (.inr (.inr (.inr (.inr (.inr (.inr (.inr ⟨rfl, floatOf_sec _ h.nums.2.2.2.2.2⟩)))))))))
theorem VarR.Good.fkey {v : VarR} (h : v.Good) : ∀ x ∈ v.frAttrs, FrKey x := by
  refine VarR.fall ?_ ?_ ?_ ?_ ?_ ?_ ?_ <;> unfold FrKey <;> intros
  · exact .inr (.inr (.inr (.inr (.inl ⟨rfl, num18_u32 h.nums.1⟩))))
  · exact .inr (.inr (.inr (.inr (.inr (.inl ⟨rfl, num18_u32 h.nums.2.1⟩)))))
  · exact .inr (.inr (.inr (.inr (.inr (.inr ⟨rfl, num18_u32 h.nums.2.2.1⟩)))))
  · exact .inr (.inl rfl)
  · exact .inr (.inr (.inl rfl))
  · exact .inr (.inr (.inr (.inl rfl)))
  · exact .inl rfl
def ns (l : List Attr) : List (List UInt8) := l.map Attr.name
theorem ns_if {c : Prop} [Decidable c] (a : Attr) : (ns (if c then [] else [a])).Sublist [a.name] := by
  split <;> simp [ns]
theorem VarR.n7 (v : VarR) : (ns v.r7).Sublist [nRATE] := ns_if _
theorem VarR.n6 (v : VarR) : (ns v.r6).Sublist [sNAME, nRATE] := by unfold VarR.r6 ns; rw [List.map_append]; exact (opt_names _ _ _).append v.n7
theorem VarR.n5 (v : VarR) : (ns v.r5).Sublist [nSUB, sNAME, nRATE] := by unfold VarR.r5 ns; rw [List.map_append]; exact (opt_names _ _ _).append v.n6
theorem VarR.n4 (v : VarR) : (ns v.r4).Sublist [nCAP, nSUB, sNAME, nRATE] := by unfold VarR.r4 ns; rw [List.map_append]; exact (opt_names _ _ _).append v.n5
theorem VarR.n3 (v : VarR) : (ns v.r3).Sublist [nVIDEO, nCAP, nSUB, sNAME, nRATE] := by unfold VarR.r3 ns; rw [List.map_append]; exact (opt_names _ _ _).append v.n4
theorem VarR.n2 (v : VarR) : (ns v.r2).Sublist [nAUDIO, nVIDEO, nCAP, nSUB, sNAME, nRATE] := by unfold VarR.r2 ns; rw [List.map_append]; exact (opt_names _ _ _).append v.n3
theorem VarR.n1 (v : VarR) : (ns v.r1).Sublist [nRES, nAUDIO, nVIDEO, nCAP, nSUB, sNAME, nRATE] := by unfold VarR.r1 ns; rw [List.map_append]; exact (ns_if _).append v.n2
theorem VarR.n0 (v : VarR) : (ns v.r0).Sublist [nCODECS, nRES, nAUDIO, nVIDEO, nCAP, nSUB, sNAME, nRATE] := by unfold VarR.r0 ns; rw [List.map_append]; exact (opt_names _ _ _).append v.n1
theorem VarR.nn (v : VarR) : (ns v.attrs).Sublist [nPROGRAM, nBANDWIDTH, nAVERAGE, nCODECS, nRES, nAUDIO, nVIDEO, nCAP, nSUB, sNAME, nRATE] := by
  unfold VarR.attrs ns; rw [List.map_append, List.map_append]
  exact ((List.Sublist.refl [nPROGRAM, nBANDWIDTH]).append (ns_if _)).append v.n0
theorem VarR.nodup (v : VarR) : (v.attrs.map Attr.name).Nodup := v.nn.nodup (by decide)
theorem VarR.fnn (v : VarR) : (ns v.frAttrs).Sublist [nPROGRAM, nBANDWIDTH, nAVERAGE, nCODECS, nRES, nVIDEO, sURI] := by
  unfold VarR.frAttrs VarR.fr0 VarR.fr1 ns
  simp only [List.map_append]
  exact ((List.Sublist.refl [nPROGRAM, nBANDWIDTH]).append (ns_if _)).append ((opt_names _ _ _).append (((ns_if _).append (opt_names _ _ _)).append (List.Sublist.refl [sURI])))
theorem VarR.fnodup (v : VarR) : (v.frAttrs.map Attr.name).Nodup := v.fnn.nodup (by decide)
theorem valOf_skip {x r : List Attr} {n : List UInt8} (h : n ∉ ns x) : valOf (x ++ r) n = valOf r n := by
  unfold valOf
  rw [List.find?_append]
  have : x.find? (fun a => a.name == n) = none := by
    rw [List.find?_eq_none]
    intro a ha e
    exact h (by rw [← (show a.name = n by simpa using e)]; exact List.mem_map_of_mem ha)
  rw [this]; rfl
theorem valOf_absent {r : List Attr} {n : List UInt8} (h : n ∉ ns r) : valOf r n = [] := by
  have := valOf_skip (r := []) h
  rw [List.append_nil] at this
  rw [this]; rfl
theorem valOf_opt {r : List Attr} {n v : List UInt8} {q : Bool} (h : n ∉ ns r) : valOf (opt n q v ++ r) n = v := by
  unfold opt
  split
  · rename_i e; rw [List.nil_append, valOf_absent h, e]
  · simp [valOf]
theorem valOf_opt_ne {r : List Attr} {m n v : List UInt8} {q : Bool} (h : n ≠ m) : valOf (opt m q v ++ r) n = valOf r n :=
  valOf_skip (fun hm => h (List.mem_singleton.1 ((opt_names m v q).subset hm)))
theorem not_ns {r : List Attr} {n : List UInt8} {l : List (List UInt8)} (h : (ns r).Sublist l) (hn : n ∉ l) : n ∉ ns r := fun hm => hn (h.subset hm)
theorem VarR.to2 (v : VarR) {n : List UInt8} (h : n ∉ [nPROGRAM, nBANDWIDTH, nAVERAGE, nCODECS, nRES]) : valOf v.attrs n = valOf v.r2 n := by
  simp only [List.mem_cons, List.not_mem_nil, or_false, not_or] at h
  unfold VarR.attrs
  rw [valOf_skip, VarR.r0, show valOf (opt [67, 79, 68, 69, 67, 83] true v.codecs ++ v.r1) n = valOf v.r1 n from valOf_opt_ne h.2.2.2.1, VarR.r1, valOf_skip]
  · exact not_ns (ns_if _) (fun hm => h.2.2.2.2 (List.mem_singleton.1 hm))
  · refine not_ns (l := [nPROGRAM, nBANDWIDTH, nAVERAGE]) ?_ (by simp [h.1, h.2.1, h.2.2.1])
    unfold ns; rw [List.map_append]
    exact (List.Sublist.refl [nPROGRAM, nBANDWIDTH]).append (ns_if _)
theorem VarR.val_audio (v : VarR) : valOf v.attrs nAUDIO = v.audio := by
  rw [v.to2 (by decide), VarR.r2]; exact valOf_opt (not_ns v.n3 (by decide))
theorem VarR.val_video (v : VarR) : valOf v.attrs nVIDEO = v.video := by
  rw [v.to2 (by decide), VarR.r2, valOf_opt_ne (by decide), VarR.r3]; exact valOf_opt (not_ns v.n4 (by decide))
theorem VarR.val_cap (v : VarR) : valOf v.attrs nCAP = v.captions := by
  rw [v.to2 (by decide), VarR.r2, valOf_opt_ne (by decide), VarR.r3, valOf_opt_ne (by decide), VarR.r4]; exact valOf_opt (not_ns v.n5 (by decide))
theorem VarR.val_sub (v : VarR) : valOf v.attrs nSUB = v.subtitles := by
  rw [v.to2 (by decide), VarR.r2, valOf_opt_ne (by decide), VarR.r3, valOf_opt_ne (by decide), VarR.r4, valOf_opt_ne (by decide), VarR.r5]; exact valOf_opt (not_ns v.n6 (by decide))
theorem VarR.val_rate (v : VarR) : valOf v.attrs nRATE = if v.rate = 0 then [] else secText v.rate := by
  rw [v.to2 (by decide), VarR.r2, valOf_opt_ne (by decide), VarR.r3, valOf_opt_ne (by decide), VarR.r4, valOf_opt_ne (by decide), VarR.r5, valOf_opt_ne (by decide), VarR.r6, valOf_opt_ne (by decide), VarR.r7]
  split
  · rfl
  · simp [valOf, nRATE]
theorem AltR.val_typ (a : AltR) : valOf a.attrs sTYPE = a.typ := by simp [AltR.attrs, valOf]
theorem AltR.val_group (a : AltR) : valOf a.attrs sGROUP = a.group := by simp [AltR.attrs, valOf, sTYPE, sGROUP]
end Go.Proofs.YtlghdacdpkaoeaaGreatDoor
end
section
namespace Go.Proofs.YtlghdacdpkaoeaaGreatDoor
open Go.RowKit Go.Proofs.YtlghdacdpkaoeaaGreatDoorW.PrintWords Go.Maps
open Go.Lib hiding intOf
set_option linter.unusedVariables false
set_option linter.unusedSimpArgs false
inductive Item
  | m3u | ver (n : Nat) | indep | alt (a : AltR) | inf (v : VarR) | uri (l : Line) | fr (v : VarR) | noise (l : Line) | blank
def m3uB : Line := [35, 69, 88, 84, 77, 51, 85]
def verHead : Line := [35, 69, 88, 84, 45, 88, 45, 86, 69, 82, 83, 73, 79, 78, 58]
def indB : Line := [35, 69, 88, 84, 45, 88, 45, 73, 78, 68, 69, 80, 69, 78, 68, 69, 78, 84, 45, 83, 69, 71, 77, 69, 78, 84, 83]
def altHead : Line := [35, 69, 88, 84, 45, 88, 45, 77, 69, 68, 73, 65, 58]
def infHead : Line := [35, 69, 88, 84, 45, 88, 45, 83, 84, 82, 69, 65, 77, 45, 73, 78, 70, 58]
def Item.line : Item → Line
  | .m3u => m3uB
  | .ver n => verHead ++ decDigits n
  | .indep => indB
  | .alt a => altHead ++ attrsText a.attrs
  | .inf v => infHead ++ attrsText v.attrs
  | .uri l => l
  | .fr v => frHead ++ attrsText v.frAttrs
  | .noise l => l
  | .blank => []
def Item.Good : Item → Prop
  | .ver n => n < 256
  | .alt a => a.Good
  | .inf v => v.Good
  | .fr v => v.Good
  | .uri l => Txt l ∧ l.head? = some 117 ∧ l.length ≤ 40
  | .noise l => l = noteB ∨ l = tagB
  | _ => True
structure VarS where
  fr : Bool
  v : VarR
  uri : Line
structure RS where
  m3u : Bool
  ver : Int
  ind : Bool
  alts : List AltR
  vars : List VarS
  opn : Option VarR
def altC (a : AltR) : Array Value := altCells (valOf a.attrs)
def opnC (v : VarR) : Array Value := vCells rateOf (valOf v.attrs)
def VarS.cells (x : VarS) : Array Value := if x.fr then fCells (valOf x.v.frAttrs) else (opnC x.v).setIfInBounds 0 (.string (bs x.uri))
theorem VarS.cells_size (x : VarS) : x.cells.size = 17 := by unfold VarS.cells; split <;> simp [fCells, opnC, vCells]
def RS.all (s : RS) : List (Array Value) := s.vars.map VarS.cells ++ (s.opn.map opnC).toList
theorem RS.all_size (s : RS) : ∀ c ∈ s.all, c.size = 17 := by
  intro c hc
  simp only [RS.all, List.mem_append, List.mem_map] at hc
  rcases hc with ⟨x, _, rfl⟩ | hc
  · exact x.cells_size
  · cases ho : s.opn with
    | none => simp [ho] at hc
    | some v => simp [ho] at hc; subst hc; simp [opnC, vCells]
def RS.start : RS := ⟨false, 3, false, [], [], none⟩
def RS.step (s : RS) : Item → RS
  | .m3u => { s with m3u := true }
  | .ver n => { s with ver := n }
  | .indep => { s with ind := true }
  | .alt a => { s with alts := s.alts ++ [a] }
  | .inf v => { s with opn := some v }
  | .uri l => { s with vars := s.vars ++ (s.opn.map (fun v => ⟨false, v, l⟩)).toList, opn := none }
  | .fr v => { s with vars := s.vars ++ [⟨true, v, []⟩] }
  | .noise _ => s
  | .blank => s
def RS.can (s : RS) : Item → Prop
  | .alt _ => s.alts.length < 1000
  | .inf _ => s.opn = none ∧ s.vars.length < 1000
  | .uri _ => s.opn ≠ none
  | .fr _ => s.opn = none ∧ s.alts = [] ∧ s.vars.length < 1000
  | .blank => s.opn = none
  | _ => True
def RS.run (s : RS) (l : List Item) : RS := l.foldl RS.step s
def RS.okay (s : RS) : List Item → Prop
  | [] => True
  | it :: r => it.Good ∧ s.can it ∧ (s.step it).okay r
theorem RS.run_append (s : RS) (a b : List Item) : s.run (a ++ b) = (s.run a).run b := by simp [RS.run]
theorem RS.okay_append (s : RS) (a b : List Item) : s.okay (a ++ b) ↔ s.okay a ∧ (s.run a).okay b := by
  induction a generalizing s with
  | nil => simp [RS.okay, RS.run]
  | cons x a ih => simp [RS.okay, ih, RS.run, and_assoc]
theorem line_signs {it : Item} (h : it.Good) : ∀ c ∈ it.line, LineB c := by
  have lit : ∀ l : Line, l.all (fun c => 32 ≤ c && c < 127) = true → ∀ c ∈ l, LineB c := by
    intro l hl c hc
    have := List.all_eq_true.1 hl c hc
    simpa [LineB] using this
  have app : ∀ a b : Line, (∀ c ∈ a, LineB c) → (∀ c ∈ b, LineB c) → ∀ c ∈ a ++ b, LineB c := by
    intro a b ha hb c hc
    rcases List.mem_append.1 hc with h | h
    · exact ha c h
    · exact hb c h
  cases it with
  | m3u => exact lit _ (by decide)
  | ver n => exact app _ _ (lit _ (by decide)) (fun c hc => ⟨(valB_digit (dec_digits n c hc)).1.1, (valB_digit (dec_digits n c hc)).1.2.1⟩)
  | indep => exact lit _ (by decide)
  | alt a => exact app _ _ (lit _ (by decide)) (attrs_signs (AltR.Good.attrT h))
  | inf v => exact app _ _ (lit _ (by decide)) (attrs_signs (VarR.Good.attrT h))
  | uri l => intro c hc; exact ⟨(h.1.signs c hc).1, (h.1.signs c hc).2.1⟩
  | fr v => exact app _ _ (lit _ (by decide)) (attrs_signs (VarR.Good.fattrT h))
  | noise l => rcases h with rfl | rfl <;> exact lit _ (by decide)
  | blank => intro c hc; simp [Item.line] at hc
set_option maxRecDepth 100000 in
theorem sp_of {c : UInt8} (h : LineB c) (h32 : c ≠ 32) : Lib.isSp c = false := by
  have : ∀ n : Fin 256, LineB (UInt8.ofNat n) → UInt8.ofNat n ≠ 32 → Lib.isSp (UInt8.ofNat n) = false := by unfold LineB; decide
  have := this ⟨c.toNat, UInt8.toNat_lt c⟩
  simp only [UInt8.ofNat_toNat] at this
  exact this h h32
theorem attrs_ne_alt (a : AltR) : a.attrs ≠ [] := by simp [AltR.attrs]
theorem attrs_ne_var (v : VarR) : v.attrs ≠ [] := by simp [VarR.attrs]
theorem attrs_ne_fr (v : VarR) : v.frAttrs ≠ [] := by simp [VarR.frAttrs]
theorem line_head {it : Item} (h : it.Good) : it.line.head? ≠ some 32 := by
  cases it with
  | m3u => simp [Item.line, m3uB]
  | ver n => simp [Item.line, verHead]
  | indep => simp [Item.line, indB]
  | alt a => simp [Item.line, altHead]
  | inf v => simp [Item.line, infHead]
  | uri l => simp only [Item.line]; rw [h.2.1]; simp
  | fr v => simp [Item.line, frHead]
  | noise l => rcases h with rfl | rfl <;> simp [Item.line, noteB, tagB]
  | blank => simp [Item.line]
theorem line_last {it : Item} (h : it.Good) : it.line.getLast? ≠ some 32 := by
  cases it with
  | m3u => simp [Item.line, m3uB]
  | ver n => simp only [Item.line]; rw [last_app (decDigits_ne n)]; exact (txt_dec n).1.last
  | indep => simp [Item.line, indB]
  | alt a => simp only [Item.line]; rw [last_app (attrs_ne (attrs_ne_alt a))]; exact attrs_last (AltR.Good.attrT h)
  | inf v => simp only [Item.line]; rw [last_app (attrs_ne (attrs_ne_var v))]; exact attrs_last (VarR.Good.attrT h)
  | uri l => exact h.1.last
  | fr v => simp only [Item.line]; rw [last_app (attrs_ne (attrs_ne_fr v))]; exact attrs_last (VarR.Good.fattrT h)
  | noise l => rcases h with rfl | rfl <;> simp [Item.line, noteB, tagB]
  | blank => simp [Item.line]
theorem line_trimmed {it : Item} (h : it.Good) : Trimmed it.line where
  ascii c hc := by
    have := (line_signs h c hc).2
    simp only [UInt8.lt_iff_toNat_lt] at *
    simp at *; omega
  head c hc := sp_of (line_signs h c (List.mem_of_mem_head? hc)) (fun e => line_head h (e ▸ hc))
  last c hc := sp_of (line_signs h c (List.mem_of_getLast? hc)) (fun e => line_last h (e ▸ hc))
theorem line_no10 {it : Item} (h : it.Good) : (10 : UInt8) ∉ it.line ∧ (13 : UInt8) ∉ it.line := by
  have key : ∀ c : UInt8, c = 10 ∨ c = 13 → ¬ LineB c := by rintro c (rfl | rfl) <;> unfold LineB <;> decide
  exact ⟨fun hm => key 10 (.inl rfl) (line_signs h 10 hm), fun hm => key 13 (.inr rfl) (line_signs h 13 hm)⟩
theorem tail_len {K : Nat} : ∀ {ats : List Attr}, (∀ a ∈ ats, a.text.length ≤ K) → (tailText ats).length ≤ (K + 1) * ats.length
  | [], _ => by simp [tailText]
  | a :: r, h => by
    have h1 := h a (by simp)
    have h2 := tail_len (fun b hb => h b (by simp [hb])) (ats := r)
    simp only [tailText, List.length_cons, List.length_append, Nat.mul_add]
    omega
theorem attrsText_len {K : Nat} {ats : List Attr} (h : ∀ a ∈ ats, a.text.length ≤ K) : (attrsText ats).length ≤ (K + 1) * ats.length := by
  cases ats with
  | nil => simp [attrsText]
  | cons a r =>
    have h1 := h a (by simp)
    have h2 := tail_len (fun b hb => h b (by simp [hb])) (ats := r)
    simp only [attrsText, List.length_cons, List.length_append, Nat.mul_add]
    omega
theorem text_len (n v : List UInt8) (q : Bool) : (Attr.text ⟨n, q, v⟩).length ≤ n.length + v.length + 3 := by
  unfold Attr.text; cases q <;> simp [raw] <;> omega
theorem sec_len' {k : Nat} (h : k < 1001) : (secText k).length ≤ 20 := sec_len (by omega)
theorem VarR.attrs_length (v : VarR) : v.attrs.length ≤ 11 := by have := v.nn.length_le; simpa [ns] using this
theorem VarR.frAttrs_length (v : VarR) : v.frAttrs.length ≤ 7 := by have := v.fnn.length_le; simpa [ns] using this
theorem AltR.attrs_length (a : AltR) : a.attrs.length ≤ 7 := by
  unfold AltR.attrs opt
  simp only [List.length_append, List.length_cons, List.length_nil]
  repeat' split
  all_goals simp
theorem VarR.Good.text60 {v : VarR} (h : v.Good) : ∀ x ∈ v.attrs, x.text.length ≤ 60 := by
  obtain ⟨h1, h2, h3, h4, h5, h6, h7, h8⟩ := h
  have l1 := dec_len_u32 h1.1
  have l2 := dec_len_u32 h1.2.1
  have l3 := dec_len_u32 h1.2.2.1
  have l4 := res_len h1.2.2.2.1 h1.2.2.2.2.1
  have l5 := sec_len' h1.2.2.2.2.2
  refine VarR.all ?_ ?_ ?_ ?_ ?_ ?_ ?_ ?_ ?_ ?_ ?_ <;> intros <;> refine Nat.le_trans (text_len _ _ _) ?_ <;> simp only [nPROGRAM, nBANDWIDTH, nAVERAGE, nCODECS, nRES, nAUDIO, nVIDEO, nCAP, nSUB, sNAME, nRATE, List.length_cons, List.length_nil] <;> omega
theorem VarR.Good.ftext60 {v : VarR} (h : v.Good) : ∀ x ∈ v.frAttrs, x.text.length ≤ 60 := by
  obtain ⟨h1, h2, h3, h4, h5, h6, h7, h8⟩ := h
  have l1 := dec_len_u32 h1.1
  have l2 := dec_len_u32 h1.2.1
  have l3 := dec_len_u32 h1.2.2.1
  have l4 := res_len h1.2.2.2.1 h1.2.2.2.2.1
  refine VarR.fall ?_ ?_ ?_ ?_ ?_ ?_ ?_ <;> intros <;> refine Nat.le_trans (text_len _ _ _) ?_ <;> simp only [nPROGRAM, nBANDWIDTH, nAVERAGE, nCODECS, nRES, nVIDEO, sURI, List.length_cons, List.length_nil] <;> omega
theorem AltR.Good.text60 {a : AltR} (h : a.Good) : ∀ x ∈ a.attrs, x.text.length ≤ 60 := by
  have l1 : a.typ.length ≤ 9 := by rcases h.typ with e | e | e <;> rw [e] <;> simp
  have l2 : a.group.length ≤ 9 := by rcases h.group with e | e <;> rw [e] <;> simp
  have l3 : a.auto.length ≤ 9 := by rcases h.auto with e | e | e <;> rw [e] <;> simp
  have l4 := h.name.2
  have l5 := h.lang.2
  have l6 := h.uri.2
  intro x hx
  simp only [AltR.attrs, List.mem_append, List.mem_cons, List.not_mem_nil, or_false] at hx
  rcases hx with (((rfl | rfl | rfl | rfl) | hx) | hx) | hx
  · refine Nat.le_trans (text_len _ _ _) ?_; simp only [sTYPE, List.length_cons, List.length_nil]; omega
  · refine Nat.le_trans (text_len _ _ _) ?_; simp only [sGROUP, List.length_cons, List.length_nil]; omega
  · refine Nat.le_trans (text_len _ _ _) ?_; simp only [sNAME, List.length_cons, List.length_nil]; omega
  · cases a.dflt <;> decide
  · refine opt_all (p := fun x => x.text.length ≤ 60) (fun h0 => ?_) x hx; refine Nat.le_trans (text_len _ _ _) ?_; simp only [sAUTO, List.length_cons, List.length_nil]; omega
  · refine opt_all (p := fun x => x.text.length ≤ 60) (fun h0 => ?_) x hx; refine Nat.le_trans (text_len _ _ _) ?_; simp only [sLANG, List.length_cons, List.length_nil]; omega
  · refine opt_all (p := fun x => x.text.length ≤ 60) (fun h0 => ?_) x hx; refine Nat.le_trans (text_len _ _ _) ?_; simp only [sURI, List.length_cons, List.length_nil]; omega
theorem AltR.Good.len {a : AltR} (h : a.Good) : (attrsText a.attrs).length ≤ 427 := Nat.le_trans (attrsText_len h.text60) (by have := a.attrs_length; omega)
theorem VarR.Good.len {v : VarR} (h : v.Good) : (attrsText v.attrs).length ≤ 671 := Nat.le_trans (attrsText_len h.text60) (by have := v.attrs_length; omega)
theorem VarR.Good.flen {v : VarR} (h : v.Good) : (attrsText v.frAttrs).length ≤ 427 := Nat.le_trans (attrsText_len h.ftext60) (by have := v.frAttrs_length; omega)
theorem line_len {it : Item} (h : it.Good) : it.line.length ≤ 690 := by
  cases it with
  | m3u => simp [Item.line, m3uB]
  | ver n =>
    have := decDigits_len1 2 n (by have : n < 256 := h; omega)
    simp [Item.line, verHead]; omega
  | indep => simp [Item.line, indB]
  | alt a => have := AltR.Good.len h; simp [Item.line, altHead]; omega
  | inf v => have := VarR.Good.len h; simp [Item.line, infHead]; omega
  | uri l => have := h.2.2; simp [Item.line]; omega
  | fr v => have := VarR.Good.flen h; simp [Item.line, frHead]; omega
  | noise l => rcases h with rfl | rfl <;> simp [Item.line, noteB, tagB]
  | blank => simp [Item.line]
theorem kind_m3u : Kind (Item.line .m3u) true false false false false false true := Kind.of (by decide) (by decide) (by decide) (by decide) (by decide) (by decide) (by decide)
theorem kind_ver (n : Nat) : Kind (Item.line (.ver n)) false true false false false false true := by
  refine Kind.of ?_ ?_ ?_ ?_ ?_ ?_ ?_ <;> simp [Item.line, verHead, Lib.hasPrefix, List.isPrefixOf]
theorem kind_indep : Kind (Item.line .indep) false false true false false false true := Kind.of (by decide) (by decide) (by decide) (by decide) (by decide) (by decide) (by decide)
theorem kind_alt (a : AltR) : Kind (Item.line (.alt a)) false false false true false false true := by
  refine Kind.of ?_ ?_ ?_ ?_ ?_ ?_ ?_ <;> simp [Item.line, altHead, Lib.hasPrefix, List.isPrefixOf]
theorem kind_inf (v : VarR) : Kind (Item.line (.inf v)) false false false false true false true := by
  refine Kind.of ?_ ?_ ?_ ?_ ?_ ?_ ?_ <;> simp [Item.line, infHead, Lib.hasPrefix, List.isPrefixOf]
theorem kind_fr (v : VarR) : Kind (Item.line (.fr v)) false false false false false true true := by
  refine Kind.of ?_ ?_ ?_ ?_ ?_ ?_ ?_ <;> simp [Item.line, frHead, Lib.hasPrefix, List.isPrefixOf]
theorem kind_noise {l : Line} (h : l = noteB ∨ l = tagB) : Kind (Item.line (.noise l)) false false false false false false true := by
  rcases h with rfl | rfl <;> exact Kind.of (by decide) (by decide) (by decide) (by decide) (by decide) (by decide) (by decide)
theorem kind_blank : Kind (Item.line .blank) false false false false false false false := Kind.of (by decide) (by decide) (by decide) (by decide) (by decide) (by decide) (by decide)
theorem kind_uri {l : Line} (h : l.head? = some 117) : Kind (Item.line (.uri l)) false false false false false false false := by
  cases l with
  | nil => simp at h
  | cons c r =>
    have : c = 117 := by simpa using h
    subst this
    refine Kind.of ?_ ?_ ?_ ?_ ?_ ?_ ?_ <;> simp [Item.line, Lib.hasPrefix, List.isPrefixOf]
structure Bens (l : Line) : Prop where
  inf : Lib.hasPrefix l [35, 69, 88, 84, 73, 78, 70, 58] = false
  key : Lib.hasPrefix l [35, 69, 88, 84, 45, 88, 45, 75, 69, 89, 58] = false
  map : Lib.hasPrefix l [35, 69, 88, 84, 45, 88, 45, 77, 65, 80, 58] = false
theorem line_bens {it : Item} (h : it.Good) : Bens it.line := by
  cases it with
  | uri l =>
    cases l with
    | nil => simp [Item.Good] at h
    | cons c r =>
      have : c = 117 := by simpa using h.2.1
      subst this
      constructor <;> simp [Item.line, Lib.hasPrefix, List.isPrefixOf]
  | noise l => rcases h with rfl | rfl <;> constructor <;> decide
  | m3u => constructor <;> decide
  | indep => constructor <;> decide
  | blank => constructor <;> decide
  | ver n => constructor <;> simp [Item.line, verHead, Lib.hasPrefix, List.isPrefixOf]
  | alt a => constructor <;> simp [Item.line, altHead, Lib.hasPrefix, List.isPrefixOf]
  | inf v => constructor <;> simp [Item.line, infHead, Lib.hasPrefix, List.isPrefixOf]
  | fr v => constructor <;> simp [Item.line, frHead, Lib.hasPrefix, List.isPrefixOf]
def crOf (b : Bool) : Line := if b then [13] else []
def lineOf (p : Item × Bool) : Line := p.1.line ++ crOf p.2
theorem uri_of_head {it : Item} (h : it.Good) (h0 : it.line ≠ []) (h35 : it.line.head? ≠ some 35) : ∃ l, it = .uri l := by
  cases it with
  | uri l => exact ⟨l, rfl⟩
  | noise l => rcases h with rfl | rfl <;> simp [Item.line, noteB, tagB] at h35
  | m3u => simp [Item.line, m3uB] at h35
  | indep => simp [Item.line, indB] at h35
  | blank => simp [Item.line] at h0
  | ver n => simp [Item.line, verHead] at h35
  | alt a => simp [Item.line, altHead] at h35
  | inf v => simp [Item.line, infHead] at h35
  | fr v => simp [Item.line, frHead] at h35
theorem loose_items {odd : Bool} {s : RS} {ls out : List Line} (h : LooseTo odd ls out) : ∀ its : List Item, ls = its.map Item.line → s.okay its → (∀ it ∈ its, it.line ≠ []) →
    ∃ l : List (Item × Bool), out = l.map lineOf ∧ s.okay (l.map Prod.fst) ∧ s.run (l.map Prod.fst) = s.run its := by
  induction h with
  | nil =>
    intro its e hok hne
    have : its = [] := by simpa using e.symm
    subst this
    exact ⟨[], rfl, trivial, rfl⟩
  | @snoc ls out l p h hp ih =>
    intro its e hok hne
    obtain ⟨its', it, rfl⟩ : ∃ a b, its = a ++ [b] := by
      rcases List.eq_nil_or_concat its with rfl | ⟨a, b, rfl⟩
      · simp at e
      · exact ⟨a, b, by simp⟩
    rw [List.map_append, List.map_singleton] at e
    obtain ⟨e1, e2⟩ := List.append_inj' e rfl
    have e2 : l = it.line := by simpa using e2
    rw [RS.okay_append] at hok
    obtain ⟨hok1, hgood, hcan, _⟩ := hok
    obtain ⟨q, rfl, q2, q3⟩ := ih its' e1 hok1 (fun x hx => hne x (by simp [hx]))
    obtain ⟨noise, blank, rfl, hn, hb⟩ := hp.is
    have hN : ∃ n : List (Item × Bool), noise = n.map lineOf ∧ ∀ r : RS, r.okay (n.map Prod.fst) ∧ r.run (n.map Prod.fst) = r := by
      rcases hn with rfl | ⟨_, rfl | rfl⟩
      · exact ⟨[], rfl, fun r => ⟨trivial, rfl⟩⟩
      · exact ⟨[(.noise noteB, false)], by simp [lineOf, Item.line, crOf], fun r => ⟨⟨.inl rfl, trivial, trivial⟩, rfl⟩⟩
      · exact ⟨[(.noise tagB, false)], by simp [lineOf, Item.line, crOf], fun r => ⟨⟨.inr rfl, trivial, trivial⟩, rfl⟩⟩
    obtain ⟨n, hn1, hn2⟩ := hN
    have hB : ∃ b : List (Item × Bool), blank = b.map lineOf ∧ ((s.run its').step it).okay (b.map Prod.fst) ∧ ((s.run its').step it).run (b.map Prod.fst) = (s.run its').step it := by
      rcases hb with rfl | ⟨rfl, h35⟩
      · exact ⟨[], rfl, trivial, rfl⟩
      · obtain ⟨u, rfl⟩ := uri_of_head hgood (hne it (by simp)) (e2 ▸ h35)
        exact ⟨[(.blank, false)], by simp [lineOf, Item.line, crOf], ⟨trivial, rfl, trivial⟩, rfl⟩
    obtain ⟨b, hb1, hb2, hb3⟩ := hB
    refine ⟨q ++ (n ++ (it, odd) :: b), ?_, ?_, ?_⟩
    · subst hn1 hb1
      simp [lineOf, crOf, e2]
    · simp only [List.map_append, List.map_cons, RS.okay_append, q3]
      refine ⟨q2, (hn2 _).1, ?_⟩
      rw [(hn2 _).2]
      exact ⟨hgood, hcan, hb2⟩
    · simp only [List.map_append, List.map_cons, RS.run_append, q3, (hn2 _).2]
      show RS.run _ (it :: b.map Prod.fst) = _
      simp only [RS.run, List.foldl_cons, List.foldl_nil] at hb3 ⊢
      exact hb3
end Go.Proofs.YtlghdacdpkaoeaaGreatDoor
end
