import Derived.Test.YtlghdacdpkaoeaaGreatDoorK40
namespace Go.Proofs.YtlghdacdpkaoeaaGreatDoor
open Go.RowKit Go.Proofs.YtlghdacdpkaoeaaGreatDoorW.PrintWords Go.Maps Go.Proofs.YtlghdacdpkaoeaaGreatDoor.PFnMasterLoose
open Go.Lib hiding intOf
set_option linter.unusedVariables false
set_option linter.unusedSimpArgs false
theorem headText (ver : Nat) : Value.string ((⟨#[35, 69, 88, 84, 77, 51, 85, 10, 35, 69, 88, 84, 45, 88, 45, 86, 69, 82, 83, 73, 79, 78, 58]⟩ : ByteArray) ++ bs (decDigits ver) ++ (⟨#[10]⟩ : ByteArray)) = .string (bs (itemsText (headItems ver false))) := by
  have e1 : (⟨#[35, 69, 88, 84, 77, 51, 85, 10, 35, 69, 88, 84, 45, 88, 45, 86, 69, 82, 83, 73, 79, 78, 58]⟩ : ByteArray) = bs (m3uB ++ 10 :: verHead) := rfl
  have e2 : (⟨#[10]⟩ : ByteArray) = bs [10] := rfl
  rw [e1, e2, bs_append, bs_append]
  simp [itemsText, headItems, unlines, Item.line]
theorem headText2 (ver : Nat) : Value.string (bs (itemsText (headItems ver false)) ++ (⟨#[35, 69, 88, 84, 45, 88, 45, 73, 78, 68, 69, 80, 69, 78, 68, 69, 78, 84, 45, 83, 69, 71, 77, 69, 78, 84, 83, 10]⟩ : ByteArray)) = .string (bs (itemsText (headItems ver true))) := by
  have e1 : (⟨#[35, 69, 88, 84, 45, 88, 45, 73, 78, 68, 69, 80, 69, 78, 68, 69, 78, 84, 45, 83, 69, 71, 77, 69, 78, 84, 83, 10]⟩ : ByteArray) = bs (indB ++ [10]) := rfl
  rw [e1, bs_append]
  simp [itemsText, headItems, unlines, Item.line]
theorem headText_size {ver : Nat} (h : ver < 4294967296) : (bs (itemsText (headItems ver false))).size ≤ 100 := by
  have := dec_len_u32 (n := ver) h
  rw [bs_size]
  simp [itemsText, headItems, unlines, Item.line, m3uB, verHead]
  omega
abbrev zVarA : Array Value := #[.string ⟨#[]⟩, .int .u32 0, .int .u32 0, .int .u32 0, .string ⟨#[]⟩, .int .u32 0, .int .u32 0, .string ⟨#[]⟩, .string ⟨#[]⟩, .string ⟨#[]⟩, .string ⟨#[]⟩, .string ⟨#[]⟩, .int .i64 0]
theorem rd_var (l : List VarR) (i : Nat) (h : i < l.length) : rd_T44 (l.map VarR.s) (i : Int) = l[i].s := by
  unfold rd_T44
  simp [List.getD_eq_getElem?_getD, h]
def VarLies (w : World) (a : Addr) (v : VarR) : Prop :=
  w.cell? a = some (.string (bs v.uri)) ∧ w.cell? ⟨a.block, a.off + 1, none⟩ = some (.int .u32 v.program) ∧ w.cell? ⟨a.block, a.off + 2, none⟩ = some (.int .u32 v.bandwidth) ∧ w.cell? ⟨a.block, a.off + 3, none⟩ = some (.int .u32 v.average) ∧ w.cell? ⟨a.block, a.off + 4, none⟩ = some (.string (bs v.codecs)) ∧ w.cell? ⟨a.block, a.off + 5, none⟩ = some (.int .u32 v.width) ∧ w.cell? ⟨a.block, a.off + 6, none⟩ = some (.int .u32 v.height) ∧ w.cell? ⟨a.block, a.off + 7, none⟩ = some (.string (bs v.audio)) ∧ w.cell? ⟨a.block, a.off + 8, none⟩ = some (.string (bs v.video)) ∧ w.cell? ⟨a.block, a.off + 9, none⟩ = some (.string (bs v.subtitles)) ∧ w.cell? ⟨a.block, a.off + 10, none⟩ = some (.string (bs v.captions)) ∧ w.cell? ⟨a.block, a.off + 11, none⟩ = some (.string (bs v.name)) ∧ w.cell? ⟨a.block, a.off + 12, none⟩ = some (.int .i64 v.rate)
theorem var_at {w : World} {A : Option Addr} {vars : List VarR} (h : Kd.C k44 w A vars.length (vars.map VarR.s)) (k : Nat) (hk : k < vars.length) : ∃ ad, A = some ad ∧ VarLies w (ad.add (k * 13)) vars[k] := by
  obtain ⟨ad, e, h1⟩ := at_T44 h (k : Int) (by omega) (by omega)
  rw [rd_var vars k hk] at h1
  exact ⟨ad, e, h1⟩
theorem row_below13 {w w' : World} {a : Addr} {v : VarR} (h : VarLies w a v) (hb : Below w.heap.size w w') : VarLies w' a v := by
  have k : ∀ {p : Addr} {u : Value}, w.cell? p = some u → w'.cell? p = some u := fun h => (hb.cell (World.block_lt_of_cell? w _ h)).trans h
  obtain ⟨h0, h1, h2, h3, h4, h5, h6, h7, h8, h9, h10, h11, h12⟩ := h
  exact ⟨k h0, k h1, k h2, k h3, k h4, k h5, k h6, k h7, k h8, k h9, k h10, k h11, k h12⟩
abbrev setVar (w : World) (g : Nat) (v : VarR) : World := (((((((((((((w.setCell { block := g, off := 0 } (.string (bs v.uri))).setCell { block := g, off := 1 } (.int .u32 v.program)).setCell { block := g, off := 2 } (.int .u32 v.bandwidth)).setCell { block := g, off := 3 } (.int .u32 v.average)).setCell { block := g, off := 4 } (.string (bs v.codecs))).setCell { block := g, off := 5 } (.int .u32 v.width)).setCell { block := g, off := 6 } (.int .u32 v.height)).setCell { block := g, off := 7 } (.string (bs v.audio))).setCell { block := g, off := 8 } (.string (bs v.video))).setCell { block := g, off := 9 } (.string (bs v.subtitles))).setCell { block := g, off := 10 } (.string (bs v.captions))).setCell { block := g, off := 11 } (.string (bs v.name))).setCell { block := g, off := 12 } (.int .i64 v.rate))
theorem lies_setVar {w : World} {g : Nat} (h : Lies w g 44 zVarA) (v : VarR) : Lies (setVar w g v) g 44 (varA v) := by
  have h' := ((((((((((((h.set 0 (.string (bs v.uri))).set 1 (.int .u32 v.program)).set 2 (.int .u32 v.bandwidth)).set 3 (.int .u32 v.average)).set 4 (.string (bs v.codecs))).set 5 (.int .u32 v.width)).set 6 (.int .u32 v.height)).set 7 (.string (bs v.audio))).set 8 (.string (bs v.video))).set 9 (.string (bs v.subtitles))).set 10 (.string (bs v.captions))).set 11 (.string (bs v.name))).set 12 (.int .i64 v.rate)
  simp only [List.setIfInBounds_toArray, List.set_cons_zero, List.set_cons_succ] at h'
  exact h'
theorem below_setVar {B : Nat} {w0 w : World} {g : Nat} (h : Below B w0 w) (hg : B ≤ g) (v : VarR) : Below B w0 (setVar w g v) :=
  ((((((((((((h.setCell hg _).setCell hg _).setCell hg _).setCell hg _).setCell hg _).setCell hg _).setCell hg _).setCell hg _).setCell hg _).setCell hg _).setCell hg _).setCell hg _).setCell hg _
abbrev zAltA : Array Value := #[.string ⟨#[]⟩, .string ⟨#[]⟩, .string ⟨#[]⟩, .bool false, .string ⟨#[]⟩, .string ⟨#[]⟩, .string ⟨#[]⟩]
abbrev setAlt (w : World) (g : Nat) (a : AltR) : World := ((((((w.setCell { block := g, off := 0 } (.string (bs a.typ))).setCell { block := g, off := 1 } (.string (bs a.group))).setCell { block := g, off := 2 } (.string (bs a.name))).setCell { block := g, off := 3 } (.bool a.dflt)).setCell { block := g, off := 4 } (.string (bs a.auto))).setCell { block := g, off := 5 } (.string (bs a.lang))).setCell { block := g, off := 6 } (.string (bs a.uri))
theorem lies_setAlt {w : World} {g : Nat} (h : Lies w g 55 zAltA) (a : AltR) : Lies (setAlt w g a) g 55 (altA a) := by
  have h' := ((((((h.set 0 (.string (bs a.typ))).set 1 (.string (bs a.group))).set 2 (.string (bs a.name))).set 3 (.bool a.dflt)).set 4 (.string (bs a.auto))).set 5 (.string (bs a.lang))).set 6 (.string (bs a.uri))
  simp only [List.setIfInBounds_toArray, List.set_cons_zero, List.set_cons_succ] at h'
  exact h'
theorem below_setAlt {B : Nat} {w0 w : World} {g : Nat} (h : Below B w0 w) (hg : B ≤ g) (a : AltR) : Below B w0 (setAlt w g a) :=
  ((((((h.setCell hg _).setCell hg _).setCell hg _).setCell hg _).setCell hg _).setCell hg _).setCell hg _
def AltLies (w : World) (p : Addr) (a : AltR) : Prop :=
  w.cell? p = some (.string (bs a.typ)) ∧ w.cell? ⟨p.block, p.off + 1, none⟩ = some (.string (bs a.group)) ∧ w.cell? ⟨p.block, p.off + 2, none⟩ = some (.string (bs a.name)) ∧ w.cell? ⟨p.block, p.off + 3, none⟩ = some (.bool a.dflt) ∧ w.cell? ⟨p.block, p.off + 4, none⟩ = some (.string (bs a.auto)) ∧ w.cell? ⟨p.block, p.off + 5, none⟩ = some (.string (bs a.lang)) ∧ w.cell? ⟨p.block, p.off + 6, none⟩ = some (.string (bs a.uri))
theorem alt_at {w : World} {A : Option Addr} {l : List AltR} (h : Kd.C k55 w A l.length (l.map AltR.s)) (k : Nat) (hk : k < l.length) : ∃ ad, A = some ad ∧ AltLies w (ad.add (k * 7)) l[k] := by
  obtain ⟨ad, e, h1⟩ := at_T55 h (k : Int) (by omega) (by omega)
  rw [rd_alt l k hk] at h1
  exact ⟨ad, e, h1⟩
structure TxtW (w0 wr : World) (gm gv : Nat) (mA : Array Value) (v : VarR) (v8 : Value) (wrt : List AltR) (AO : Option Addr) (cO : Nat) (L : List AltR) : Prop where
  row : Kd.R k55 55 wr w0.heap.size (fun _ => True) v8 (wrt.map AltR.s)
  m : Lies wr gm 27 mA
  v : Lies wr gv 44 (varA v)
  b : Below w0.heap.size w0 wr
  of : Kd.R k55 55 wr w0.heap.size (fun k => some k ≠ v8.ownBlock) (.slice AO L.length cO) (L.map AltR.s)
theorem TxtW.step {w0 wr wr' : World} {gm gv : Nat} {mA : Array Value} {v : VarR} {v8 : Value} {wrt : List AltR} {AO : Option Addr} {cO : Nat} {L : List AltR} (h : TxtW w0 wr gm gv mA v v8 wrt AO cO L) (hb : Below wr.heap.size wr wr') : TxtW w0 wr' gm gv mA v v8 wrt AO cO L :=
  ⟨Kd.R_below h.row hb, h.m.below hb, h.v.below hb, below_step h.b hb, Kd.R_below h.of hb⟩
theorem ofNew {W w1 : World} {base : Nat} {u v : Value} {xs ys : List S55} (h : Kd.R k55 55 w1 W.heap.size (fun _ => True) v xs) (hr : Kd.R k55 55 W base (fun _ => True) u ys) (hb : base ≤ W.heap.size) : Kd.R k55 55 w1 base (fun k => some k ≠ u.ownBlock) v xs := by
  obtain ⟨inner, ho⟩ := Kd.R_own hr
  exact Kd.R_lower (Kd.R_mono (Kd.R_new h ho) (fun k hk => hk.2)) hb
theorem TxtW.ofC {w0 wr : World} {gm gv cO : Nat} {v8 : Value} {mA : Array Value} {v : VarR} {WR : List AltR} {AO : Option Addr} {L : List AltR} (h : TxtW w0 wr gm gv mA v v8 WR AO cO L) : Kd.C k55 wr AO L.length (L.map AltR.s) := by
  obtain ⟨A', c', e, _, hC⟩ := Kd.R_reads h.of
  injection e with e1 e2 e3
  subst e1
  simpa using hC
theorem TxtW.ne {w0 wr : World} {gm gv cO g : Nat} {v8 : Value} {mA : Array Value} {v : VarR} {WR : List AltR} {AO : Option Addr} {L : List AltR} (h : TxtW w0 wr gm gv mA v v8 WR AO cO L) (hg : g = wr.heap.size) : some g ≠ v8.ownBlock := by
  obtain ⟨inner, ho⟩ := Kd.R_own h.row
  intro e
  have := own_lt ho g e.symm
  omega
theorem TxtW.append {w0 wr w1 : World} {gm gv cO : Nat} {v8 v81 : Value} {mA : Array Value} {v : VarR} {WR : List AltR} {AO : Option Addr} {L : List AltR} {a : AltR} (h : TxtW w0 wr gm gv mA v v8 WR AO cO L)
    (ho : Kd.R k55 55 w1 w0.heap.size (fun _ => True) v81 (WR.map AltR.s ++ [a.s])) (hb : Below w0.heap.size w0 w1) (hg : wr.grownBy w1 v8.ownBlock) (hat : v81.ownBlock = v8.ownBlock ∨ ∃ b, v81.ownBlock = some b ∧ wr.heap.size ≤ b) : TxtW w0 w1 gm gv mA v v81 (WR ++ [a]) AO cO L := by
  refine ⟨by rw [List.map_append]; exact ho, blk_grown h.m hg (Kd.R_ne h.row h.m (by decide)), blk_grown h.v hg (Kd.R_ne h.row h.v (by decide)), hb, ?_⟩
  refine Kd.R_mono (Kd.R_grown (Kd.R_bound h.of) hg (fun k hk => hk.1)) (fun k hk => ?_)
  rcases hat with e | ⟨b, e, hbb⟩
  · rw [e]; exact hk.1
  · rw [e]; intro e2; injection e2 with e2; have := hk.2.2.1; omega
theorem TxtW.wrC {w0 wr : World} {gm gv n c : Nat} {A : Option Addr} {mA : Array Value} {v : VarR} {WR : List AltR} {AO : Option Addr} {cO : Nat} {L : List AltR} (h : TxtW w0 wr gm gv mA v (.slice A n c) WR AO cO L) : Kd.C k55 wr A WR.length (WR.map AltR.s) := by
  obtain ⟨A', c', e, _, hC⟩ := Kd.R_reads h.row
  injection e with e1 e2 e3
  subst e1
  simpa using hC
theorem inStep {WR : List AltR} {a b : AltR} {i : Nat} {bb : Bool} (h : bb = decide (a ∈ WR.take i)) (hi : i < WR.length) (hb : WR[i] = b) : (bb || decide (a = b)) = decide (a ∈ WR.take (i + 1)) := by
  rw [List.take_succ_eq_append_getElem hi, hb, h, Bool.eq_iff_iff]
  simp
theorem text_pre {a b : List Item} {n : Nat} (h : (itemsText (a ++ b)).length ≤ n) : (itemsText a).length ≤ n := by
  rw [itemsText_append, List.length_append] at h; omega
theorem items_len (l : List Item) : l.length ≤ (itemsText l).length := by
  induction l with
  | nil => simp
  | cons x l ih =>
    have : itemsText (x :: l) = x.line ++ 10 :: itemsText l := rfl
    rw [this]; simp; omega
theorem newOld {wrt news L : List AltR} {a : AltR} {j : Nat} (h : newAlts wrt L = news ++ newAlts (wrt ++ news) (L.drop j)) {hj : j < L.length} (ha : L[j] = a) (_ : j < L.length) (hin : a ∈ wrt ++ news) : newAlts wrt L = news ++ newAlts (wrt ++ news) (L.drop (j + 1)) := by
  rw [h, List.drop_eq_getElem_cons hj, ha, newAlts, if_pos hin]
theorem newNew {wrt news L : List AltR} {a : AltR} {j : Nat} (h : newAlts wrt L = news ++ newAlts (wrt ++ news) (L.drop j)) {hj : j < L.length} (ha : L[j] = a) (_ : j < L.length) (hin : a ∉ wrt ++ news) : newAlts wrt L = (news ++ [a]) ++ newAlts (wrt ++ (news ++ [a])) (L.drop (j + 1)) := by
  rw [h, List.drop_eq_getElem_cons hj, ha, newAlts, if_neg hin]
  simp
theorem altOut (done : List Item) (news : List AltR) (a : AltR) : Value.string (bs (itemsText (done ++ news.map .alt)) ++ ((⟨#[35, 69, 88, 84, 45, 88, 45, 77, 69, 68, 73, 65, 58]⟩ : ByteArray) ++ bs (attrsText a.attrs) ++ (⟨#[10]⟩ : ByteArray))) = .string (bs (itemsText (done ++ (news ++ [a]).map .alt))) := by
  have e1 : (⟨#[35, 69, 88, 84, 45, 88, 45, 77, 69, 68, 73, 65, 58]⟩ : ByteArray) = bs altHead := rfl
  have e2 : (⟨#[10]⟩ : ByteArray) = bs [10] := rfl
  have e3 : done ++ (news ++ [a]).map Item.alt = (done ++ news.map .alt) ++ [.alt a] := by simp
  rw [e1, e2, bs_append, bs_append, bs_append, e3, itemsText_append (done ++ news.map Item.alt), itemsText_one]
  simp [Item.line]
theorem opt_len (n : List UInt8) (q : Bool) (v : List UInt8) : (opt n q v).length ≤ 1 := by unfold opt; split <;> simp
theorem alt_attrs_n (a : AltR) : a.attrs.length ≤ 7 := by
  have h1 := opt_len sAUTO false a.auto
  have h2 := opt_len sLANG true a.lang
  have h3 := opt_len sURI true a.uri
  simp [AltR.attrs]; omega
theorem bodyStep {alts wrt : List AltR} {vars : List VarR} {fs : List Bool} {k : Nat} {v : VarR} {fr : Bool} (hk : k < vars.length) (hf : k < fs.length) (hv : vars[k] = v) (hb : fs[k] = fr) :
    bodyItems alts wrt (vars.drop k) (fs.drop k) = (newAlts wrt (alts.filter v.has)).map .alt ++ varItems fr v ++ bodyItems alts (wrt ++ newAlts wrt (alts.filter v.has)) (vars.drop (k + 1)) (fs.drop (k + 1)) := by
  rw [List.drop_eq_getElem_cons hk, List.drop_eq_getElem_cons hf, hv, hb]; rfl
theorem pre_len {all done : List Item} {alts wrt news rest L : List AltR} {vars : List VarR} {fs : List Bool} {k n : Nat} {v : VarR} (hI : all = done ++ bodyItems alts wrt (vars.drop k) (fs.drop k)) {hk : k < vars.length} (hv : vars[k] = v) (_ : k < vars.length) (hL : L = alts.filter v.has)
    (hN : newAlts wrt L = news ++ rest) (h : (itemsText all).length ≤ n) : (itemsText (done ++ news.map .alt)).length ≤ n := by
  subst hL
  refine text_pre (b := rest.map .alt ++ (varItems ((fs.drop k).headD false) v ++ bodyItems alts (wrt ++ newAlts wrt (alts.filter v.has)) (vars.drop (k + 1)) (fs.drop k).tail)) ?_
  rw [hI, List.drop_eq_getElem_cons hk, hv, bodyItems] at h
  rw [show done ++ List.map Item.alt news ++ (rest.map .alt ++ (varItems ((fs.drop k).headD false) v ++ bodyItems alts (wrt ++ newAlts wrt (alts.filter v.has)) (vars.drop (k + 1)) (fs.drop k).tail)) = done ++ ((newAlts wrt (alts.filter v.has)).map .alt ++ varItems ((fs.drop k).headD false) v ++ bodyItems alts (wrt ++ newAlts wrt (alts.filter v.has)) (vars.drop (k + 1)) (fs.drop k).tail) by
    conv => rhs; arg 2; arg 1; arg 1; rw [hN]
    simp]
  exact h
theorem frOut (X : List Item) (v : VarR) : Value.string (bs (itemsText X) ++ bs (frHead ++ attrsText v.frAttrs ++ [10])) = .string (bs (itemsText (X ++ varItems true v))) := by
  rw [bs_append, itemsText_append]
  simp [varItems, itemsText, unlines, Item.line]
theorem infOut2 (X : List Item) (v : VarR) : Value.string (bs (itemsText X ++ (infHead ++ attrsText v.attrs ++ [10] ++ v.uri)) ++ (⟨#[10]⟩ : ByteArray)) = .string (bs (itemsText (X ++ varItems false v))) := by
  have e2 : (⟨#[10]⟩ : ByteArray) = bs [10] := rfl
  rw [e2, bs_append, itemsText_append]
  simp [varItems, itemsText, unlines, Item.line]
theorem frames_at {w : World} {A : Option Addr} {fs : List Bool} {n : Nat} (h : Kd.C Kd.bool w A n fs) (k : Nat) (hk : k < n) (hkf : k < fs.length) : ∃ ad, A = some ad ∧ w.cell? (ad.add k) = some (.bool fs[k]) := by
  obtain ⟨ad, e, h1⟩ := Kd.at_bool h (k : Int) (by omega) (by omega)
  refine ⟨ad, e, ?_⟩
  have e2 : rdOf false fs ((k : Nat) : Int) = fs[k] := by
    simp [rdOf, List.getD_eq_getElem?_getD, hkf]
  rw [e2] at h1
  exact h1
theorem stepI {all done : List Item} {alts wrt news L : List AltR} {vars : List VarR} {fs : List Bool} {k : Nat} {v : VarR} {fr : Bool} (hI : all = done ++ bodyItems alts wrt (vars.drop k) (fs.drop k)) {hk : k < vars.length} (hv : vars[k] = v) {hf : k < fs.length} (hb : fs[k] = fr) (hL : L = alts.filter v.has) (hN : news = newAlts wrt L) :
    all = (done ++ news.map .alt ++ varItems fr v) ++ bodyItems alts (wrt ++ news) (vars.drop (k + 1)) (fs.drop (k + 1)) := by
  rw [hI, bodyStep hk hf hv hb, ← hL, ← hN]
  simp
abbrev masA (ver : Nat) (ind : Bool) (A2 : Option Addr) (n2 c2 : Nat) (A3 : Option Addr) (n3 c3 : Nat) : Array Value := #[.int .i64 ver, .bool ind, .slice A2 n2 c2, .slice A3 n3 c3]
attribute [local go_sem high] run_eql_alt
set_option maxRecDepth 100000 in
set_option maxHeartbeats 30000000 in
theorem Text_calls (ver : Nat) (ind : Bool) (alts : List AltR) (vars : List VarR) (fs : List Bool) (A2 A3 A4 : Option Addr) (c2 c3 c4 : Nat) (w : World)
    (h2 : Kd.C k55 w A2 alts.length (alts.map AltR.s)) (hc2 : alts.length ≤ c2) (h3 : Kd.C k44 w A3 vars.length (vars.map VarR.s)) (hc3 : vars.length ≤ c3) (h4 : Kd.C Kd.bool w A4 fs.length fs) (hc4 : fs.length ≤ c4)
    (hfl : fs.length = vars.length) (hga : ∀ a ∈ alts, a.Good) (hgv : ∀ v ∈ vars, v.Good) (hv : ver < 256) (hna : alts.length ≤ 100) (hnv : vars.length ≤ 100) (hlen : (itemsText (headItems ver ind ++ bodyItems alts [] vars fs)).length ≤ 100000) :
    Calls Tryz.prog 5 #[.agg (masA ver ind A2 alts.length c2 A3 vars.length c3), .string ⟨#[]⟩, .slice A4 fs.length c4] w fun e w' => e = .returned (.string (bs (itemsText (headItems ver ind ++ bodyItems alts [] vars fs)))) ∧ Below w.heap.size w w' := by
  have H2 := Lib.hid h2
  have H3 := Lib.hid h3
  have H4 := Lib.hid h4
  have HFL := Lib.hid hfl
  have HGA := Lib.hid hga
  have HGV := Lib.hid hgv
  have HLEN := Lib.hid hlen
  clear h2 h3 h4 hfl hga hgv hlen
  have hds : (bs (decDigits ver)).size ≤ 20 := by rw [bs_size]; have := dec_len_u32 (n := ver) (by omega); omega
  go_enter Tryz.func5, Tryz.ntmps5
  go_upto_region 1 with (first
    | ((with_reducible refine gate_dst (N := 3) rfl ?_); refine box_event ?hg (N := 3) ?hd (cs := masA ver ind A2 alts.length c2 A3 vars.length c3) (t := 27) ?hr ?_; (case hd => rfl); (case hg => rfl); (case hr => first | (go_simp; done) | (go_simp; rfl)); intro gm hg w1 hbox hb; have HM := Lib.hid (show Lies w1 gm 27 _ from hbox); have HG := Lib.hid hg; have HB := Lib.hid hb; clear hbox hg hb))
  go_cut [7] from 16 to 106 (fun v7 wx => v7 = .string (bs (itemsText (headItems ver false))) ∧ Lies wx gm 27 (masA ver ind A2 alts.length c2 A3 vars.length c3) ∧ Below w.heap.size w wx)
  case first =>
    have hcm0 := HM.out.cell 0
    simp [Array.getElem?_eq_getElem] at hcm0
    have hfm0 := HM.out.frozen 0
    go_wp2_with (first | (go_at_call 11; refine (Decimal_calls 3 _ ver _ (Lib.hid rfl) (Lib.hid (by omega)) (by unfold U64; omega)).mono ?_; rintro e w2 ⟨rfl, nd, rfl⟩))
    go_meet
    case rel => exact ⟨headText ver, HM.out.below (pw_below_drewN (Below.refl _ _) _), pw_below_drewN HB.out _⟩
  obtain ⟨rfl, hm1, hb1⟩ := hcut
  have HM1 := Lib.hid hm1
  have HB1 := Lib.hid hb1
  clear hm1 hb1 HM HB
  have hcm1 := HM1.out.cell 1
  simp [Array.getElem?_eq_getElem] at hcm1
  have hfm1 := HM1.out.frozen 1
  go_upto_if 23 with (fail)
  go_cut [7] from 16 to 106 (fun v7 wx => v7 = .string (bs (itemsText (headItems ver ind))) ∧ Lies wx gm 27 (masA ver ind A2 alts.length c2 A3 vars.length c3) ∧ Below w.heap.size w wx)
  case first =>
    have hsz : (bs (itemsText (headItems ver false))).size ≤ 100 := headText_size (by omega)
    cases ind
    · go_wp2
      go_meet
      case rel => exact ⟨rfl, HM1.out, HB1.out⟩
    · go_wp2
      go_meet
      case rel => exact ⟨headText2 ver, HM1.out, HB1.out⟩
  obtain ⟨rfl, hm2, hb2⟩ := hcut
  have HM2 := Lib.hid hm2
  have HB2 := Lib.hid hb2
  clear hm2 hb2 HM1 HB1 hcm1 hfm1
  have hcm3 := HM2.out.cell 3
  simp [Array.getElem?_eq_getElem] at hcm3
  have hfm3 := HM2.out.frozen 3
  go_wp2_with (first | ((with_reducible refine gate_dst (N := 26) rfl ?_); refine Kd.R_lit k55 _ 55 ?hg (N := 26) ?hd (xs := ([] : List (S55))) (inner := []) (ok := fun _ => True) (okp := fun _ => True) ?hr ?hp (fun _ hk => hk) trivial (Below.refl _ _) (Nat.le_refl _) (by simp) ?_; (case hd => rfl); (case hg => rfl); (case hr => first | (go_simp; done) | (go_simp; rfl)); (case hp => exact (Reps.none _ _)); intro v8 w5 ho6 hb hg_ hnew_; have HR5 := Lib.hid (Kd.R_lower ho6 (below_size HB2.out)); have HM5 := Lib.hid (HM2.out.below hb); have HB5 := Lib.hid (below_step HB2.out hb); clear hcm3 hfm3 ho6 hb hg_ hnew_ HM2 HB2; have hcm3 := HM5.out.cell 3; simp [Array.getElem?_eq_getElem] at hcm3; have hfm3 := HM5.out.frozen 3))
  go_loopw [7, 8, 30] (fun v7 v8 v30 wr => ∃ (k : Nat) (done : List Item) (wrt : List AltR), v30 = .int .i64 k ∧ v7 = .string (bs (itemsText done)) ∧ k ≤ vars.length ∧ Hid (headItems ver ind ++ bodyItems alts [] vars fs = done ++ bodyItems alts wrt (vars.drop k) (fs.drop k)) ∧ Hid (wrt.length ≤ done.length) ∧ Hid (Kd.R k55 55 wr w.heap.size (fun _ => True) v8 (wrt.map AltR.s)) ∧ Hid (Lies wr gm 27 (masA ver ind A2 alts.length c2 A3 vars.length c3)) ∧ Hid (Below w.heap.size w wr)) (fun _ _ v30 _ => vars.length - (intOf v30).toNat)
  case atStart => exact ⟨0, _, [], rfl, rfl, by omega, Lib.hid (by simp), Lib.hid (by simp), HR5, HM5, HB5⟩
  case round =>
    clear hcm3 hfm3 HR5 HM5 HB5
    obtain ⟨k, done, wrt, rfl, rfl, hk, HI, HWL, HR, HMr, HBr⟩ := hrel
    have hdl : (itemsText done).length ≤ 100000 := text_pre (by rw [← HI.out]; exact HLEN.out)
    have hwb : wrt.length ≤ 100000 := by have := HWL.out; have := items_len done; omega
    by_cases hlt : k < vars.length
    · obtain ⟨ad, rfl, hx⟩ := var_at H3.out k hlt
      have HX := Lib.hid (row_below13 hx HBr.out)
      have hx0 := HX.out.1
      have hx1 := HX.out.2.1
      have hx2 := HX.out.2.2.1
      have hx3 := HX.out.2.2.2.1
      have hx4 := HX.out.2.2.2.2.1
      have hx5 := HX.out.2.2.2.2.2.1
      have hx6 := HX.out.2.2.2.2.2.2.1
      have hx7 := HX.out.2.2.2.2.2.2.2.1
      have hx8 := HX.out.2.2.2.2.2.2.2.2.1
      have hx9 := HX.out.2.2.2.2.2.2.2.2.2.1
      have hx10 := HX.out.2.2.2.2.2.2.2.2.2.2.1
      have hx11 := HX.out.2.2.2.2.2.2.2.2.2.2.2.1
      have hx12 := HX.out.2.2.2.2.2.2.2.2.2.2.2.2
      generalize hve : vars[k] = v at *
      have HVE := Lib.hid hve
      clear hve hx
      go_upto_region 8 with (first
        | ((with_reducible refine gate_dst (N := 10) rfl ?_); refine box_event ?hg (N := 10) ?hd (cs := zVarA) (t := 44) ?hr ?_; (case hd => rfl); (case hg => rfl); (case hr => first | (go_simp; done) | (go_simp; rfl)); intro gv hg w6 hbox hb; have HV := Lib.hid (show Lies w6 gv 44 _ from hbox); have HGV2 := Lib.hid hg; have HB6 := Lib.hid hb; have hne : gm ≠ gv := (by have := HMr.out.lt; omega); have hne' : gv ≠ gm := fun e => hne e.symm; have HM6 := Lib.hid (HMr.out.below hb); have HV7 := Lib.hid (lies_setVar (show Lies w6 gv 44 _ from hbox) v); have HB7r := Lib.hid (below_setVar hb (Nat.le_of_eq hg.symm) v); have HB7 := Lib.hid (below_step HBr.out (below_setVar hb (Nat.le_of_eq hg.symm) v)); clear hbox hg hb; have hmc0 := HM6.out.cell 0; have hmc1 := HM6.out.cell 1; have hmc2 := HM6.out.cell 2; have hmc3 := HM6.out.cell 3; simp [Array.getElem?_eq_getElem] at hmc0 hmc1 hmc2 hmc3; have hmf0 := HM6.out.frozen 0; have hmf1 := HM6.out.frozen 1; have hmf2 := HM6.out.frozen 2; have hmf3 := HM6.out.frozen 3; have hvc0 := HV.out.cell 0; have hvc1 := HV.out.cell 1; have hvc2 := HV.out.cell 2; have hvc3 := HV.out.cell 3; have hvc4 := HV.out.cell 4; have hvc5 := HV.out.cell 5; have hvc6 := HV.out.cell 6; have hvc7 := HV.out.cell 7; have hvc8 := HV.out.cell 8; have hvc9 := HV.out.cell 9; have hvc10 := HV.out.cell 10; have hvc11 := HV.out.cell 11; have hvc12 := HV.out.cell 12; simp [Array.getElem?_eq_getElem] at hvc0 hvc1 hvc2 hvc3 hvc4 hvc5 hvc6 hvc7 hvc8 hvc9 hvc10 hvc11 hvc12; have hvf0 := HV.out.frozen 0; have hvf1 := HV.out.frozen 1; have hvf2 := HV.out.frozen 2; have hvf3 := HV.out.frozen 3; have hvf4 := HV.out.frozen 4; have hvf5 := HV.out.frozen 5; have hvf6 := HV.out.frozen 6; have hvf7 := HV.out.frozen 7; have hvf8 := HV.out.frozen 8; have hvf9 := HV.out.frozen 9; have hvf10 := HV.out.frozen 10; have hvf11 := HV.out.frozen 11; have hvf12 := HV.out.frozen 12))
      go_cut [37, 38, 39] from 31 to 105 (fun v37 v38 v39 wx => ∃ A c, v37 = .slice A (alts.filter v.has).length c ∧ v38 = .int .i64 ((alts.filter v.has).length : Nat) ∧ v39 = .int .i64 0 ∧ Hid ((alts.filter v.has).length ≤ c) ∧ Hid (Kd.R k55 55 wx w.heap.size (fun k => some k ≠ u8.ownBlock) (.slice A (alts.filter v.has).length c) ((alts.filter v.has).map AltR.s)) ∧ Hid (Kd.R k55 55 wx w.heap.size (fun _ => True) u8 (wrt.map AltR.s)) ∧ Hid (Lies wx gm 27 (masA ver ind A2 alts.length c2 (some ad) vars.length c3)) ∧ Hid (Lies wx gv 44 (varA v)) ∧ Hid (Below w.heap.size w wx))
      case first =>
        go_wp2_with (first | (go_at_call 8; refine (Of_calls ver ind alts vars A2 (some ad) c2 c3 v _ (Kd.C_below H2.out HB7.out) hc2 (Kd.C_below H3.out HB7.out) hc3 (by omega)).mono ?_; rintro e w9 ⟨A, c, rfl, hl, hC, hb⟩; have HL9 := Lib.hid hl; have HC9 := Lib.hid (ofNew hC (Kd.R_below HR.out HB7r.out) (below_size HB7.out)); have HB9 := Lib.hid hb; clear hl hC hb))
        go_meet
        case rel => exact ⟨A, c, rfl, rfl, rfl, HL9, HC9, Lib.hid (Kd.R_below (Kd.R_below HR.out HB7r.out) HB9.out), Lib.hid ((HMr.out.below HB7r.out).below HB9.out), Lib.hid (HV7.out.below HB9.out), Lib.hid (below_step HB7.out HB9.out)⟩
      obtain ⟨AO, cO, rfl, rfl, rfl, HLO, HCO, HRO, HMO, HVO, HBO⟩ := hcut
      have hgf : ∀ a ∈ alts.filter v.has, a.Good := fun a ha => HGA.out a (List.mem_filter.1 ha).1
      have hlf : (alts.filter v.has).length ≤ 100 := Nat.le_trans (List.length_filter_le _ _) hna
      obtain ⟨L, hLe⟩ : ∃ L, L = alts.filter v.has := ⟨_, rfl⟩
      rw [← hLe] at HLO HCO hgf hlf ⊢
      have HLE := Lib.hid hLe
      have HGF := Lib.hid hgf
      have hlO := HLO.out
      clear hLe hgf HMr HBr HX HR
      obtain ⟨mA, hmA⟩ : ∃ mA, mA = masA ver ind A2 alts.length c2 (some ad) vars.length c3 := ⟨_, rfl⟩
      have HT0 := Lib.hid (show TxtW w wc gm gv mA v u8 (wrt ++ []) AO cO L from ⟨by rw [List.append_nil]; exact HRO.out, by rw [hmA]; exact HMO.out, HVO.out, HBO.out, HCO.out⟩)
      go_wp2_with fail
      go_loopw [7, 8, 39] (fun v7 v8 v39 wx => ∃ (j : Nat) (news : List AltR), v39 = .int .i64 j ∧ v7 = .string (bs (itemsText (done ++ news.map .alt))) ∧ j ≤ L.length ∧ Hid (newAlts wrt L = news ++ newAlts (wrt ++ news) (L.drop j)) ∧ news.length ≤ j ∧ Hid (TxtW w wx gm gv mA v v8 (wrt ++ news) AO cO L)) (fun _ _ v39 _ => L.length - (intOf v39).toNat)
      case atStart => exact ⟨0, [], rfl, by simp, by omega, Lib.hid (by simp), by simp, HT0⟩
      case round =>
        obtain ⟨j, news, rfl, rfl, hj, HN, hnl, HT⟩ := hrel
        by_cases hjl : j < L.length
        · obtain ⟨ao, rfl, hx⟩ := alt_at HT.out.ofC j hjl
          have HY := Lib.hid hx
          have hy0 := HY.out.1
          have hy1 := HY.out.2.1
          have hy2 := HY.out.2.2.1
          have hy3 := HY.out.2.2.2.1
          have hy4 := HY.out.2.2.2.2.1
          have hy5 := HY.out.2.2.2.2.2.1
          have hy6 := HY.out.2.2.2.2.2.2
          have hga1 := HGF.out L[j] (List.getElem_mem hjl)
          generalize hae : L[j] = a at *
          have HAE := Lib.hid hae
          have HGA1 := Lib.hid hga1
          clear hae hx hga1
          obtain ⟨WR, hWR⟩ : ∃ WR, WR = wrt ++ news := ⟨_, rfl⟩
          rw [← hWR] at HT
          have HWR := Lib.hid hWR
          have hwrb : WR.length ≤ 200000 := by rw [hWR, List.length_append]; omega
          have HWL2 : Hid (WR.length = wrt.length + news.length) := Lib.hid (by rw [hWR, List.length_append])
          clear hWR
          obtain ⟨A8, c8, h8, hl8, hC8⟩ := Kd.R_reads HT.out.row
          simp only [List.length_map] at h8 hl8
          subst h8
          clear hC8
          go_upto_region 11 with (first
            | ((with_reducible refine gate_dst (N := 12) rfl ?_); refine box_event ?hg (N := 12) ?hd (cs := zAltA) (t := 55) ?hr ?_; (case hd => rfl); (case hg => rfl); (case hr => first | (go_simp; done) | (go_simp; rfl)); intro ga hg w10 hbox hb; have HA := Lib.hid (show Lies w10 ga 55 _ from hbox); have HBA := Lib.hid (below_setAlt hb (Nat.le_of_eq hg.symm) a); have HGN := Lib.hid (HT.out.ne hg); have HA7 := Lib.hid (lies_setAlt (show Lies w10 ga 55 _ from hbox) a); clear hbox hg hb; have hac0 := HA.out.cell 0; have hac1 := HA.out.cell 1; have hac2 := HA.out.cell 2; have hac3 := HA.out.cell 3; have hac4 := HA.out.cell 4; have hac5 := HA.out.cell 5; have hac6 := HA.out.cell 6; simp [Array.getElem?_eq_getElem] at hac0 hac1 hac2 hac3 hac4 hac5 hac6; have haf0 := HA.out.frozen 0; have haf1 := HA.out.frozen 1; have haf2 := HA.out.frozen 2; have haf3 := HA.out.frozen 3; have haf4 := HA.out.frozen 4; have haf5 := HA.out.frozen 5; have haf6 := HA.out.frozen 6))
          go_cut [13] from 40 to 69 (fun v13 wx => v13 = .bool false ∧ TxtW w wx gm gv mA v (.slice A8 WR.length c8) WR (some ao) cO L ∧ Lies wx ga 55 (altA a))
          case first =>
            go_wp2_with fail
            go_meet
            case rel => exact ⟨rfl, HT.out.step HBA.out, HA7.out⟩
          obtain ⟨rfl, ht, hla⟩ := hcut
          have HT1 := Lib.hid ht
          have HA1 := Lib.hid hla
          clear ht hla HA HBA HA7 HY HT hy0 hy1 hy2 hy3 hy4 hy5 hy6
          go_wp2_with fail
          go_loopw [13, 45] (fun v13 v45 wx => ∃ (i : Nat) (b : Bool), v45 = .int .i64 i ∧ v13 = .bool b ∧ i ≤ WR.length ∧ Hid (b = decide (a ∈ WR.take i)) ∧ Hid (TxtW w wx gm gv mA v (.slice A8 WR.length c8) WR (some ao) cO L) ∧ Hid (Lies wx ga 55 (altA a))) (fun _ v45 _ => WR.length - (intOf v45).toNat)
          case atStart => exact ⟨0, false, rfl, rfl, by omega, Lib.hid (by simp), HT1, HA1⟩
          case round =>
            obtain ⟨i, bb, rfl, rfl, hi, HBB, HTi, HAi⟩ := hrel
            by_cases hil : i < WR.length
            · obtain ⟨ai, rfl, hx⟩ := alt_at HTi.out.wrC i hil
              have HY := Lib.hid hx
              have hy0 := HY.out.1
              have hy1 := HY.out.2.1
              have hy2 := HY.out.2.2.1
              have hy3 := HY.out.2.2.2.1
              have hy4 := HY.out.2.2.2.2.1
              have hy5 := HY.out.2.2.2.2.2.1
              have hy6 := HY.out.2.2.2.2.2.2
              generalize hae : WR[i] = b at *
              have HBE := Lib.hid hae
              clear hae hx
              cases bb
              all_goals
                go_wp2_with (first
                  | ((with_reducible refine gate_dst (N := 15) rfl ?_); refine box_event ?hg (N := 15) ?hd (cs := zAltA) (t := 55) ?hr ?_; (case hd => rfl); (case hg => rfl); (case hr => first | (go_simp; done) | (go_simp; rfl)); intro gb hg w11 hbox hb; have HA := Lib.hid (show Lies w11 gb 55 _ from hbox); have HBA := Lib.hid (below_setAlt hb (Nat.le_of_eq hg.symm) b); have hnab : ga ≠ gb := (by have := HAi.out.lt; omega); have hnba : gb ≠ ga := fun e => hnab e.symm; have HAb := Lib.hid (HAi.out.below hb); clear hbox hg hb; have hbc0 := HA.out.cell 0; have hbc1 := HA.out.cell 1; have hbc2 := HA.out.cell 2; have hbc3 := HA.out.cell 3; have hbc4 := HA.out.cell 4; have hbc5 := HA.out.cell 5; have hbc6 := HA.out.cell 6; simp [Array.getElem?_eq_getElem] at hbc0 hbc1 hbc2 hbc3 hbc4 hbc5 hbc6; have hbf0 := HA.out.frozen 0; have hbf1 := HA.out.frozen 1; have hbf2 := HA.out.frozen 2; have hbf3 := HA.out.frozen 3; have hbf4 := HA.out.frozen 4; have hbf5 := HA.out.frozen 5; have hbf6 := HA.out.frozen 6; have hac0 := HAb.out.cell 0; have hac1 := HAb.out.cell 1; have hac2 := HAb.out.cell 2; have hac3 := HAb.out.cell 3; have hac4 := HAb.out.cell 4; have hac5 := HAb.out.cell 5; have hac6 := HAb.out.cell 6; simp [Array.getElem?_eq_getElem] at hac0 hac1 hac2 hac3 hac4 hac5 hac6; have haf0 := HAb.out.frozen 0; have haf1 := HAb.out.frozen 1; have haf2 := HAb.out.frozen 2; have haf3 := HAb.out.frozen 3; have haf4 := HAb.out.frozen 4; have haf5 := HAb.out.frozen 5; have haf6 := HAb.out.frozen 6))
                go_roundw
                case measure => simp [intOf]; omega
                case rel => exact ⟨i + 1, _, by go_num, rfl, by omega, Lib.hid (by have := inStep HBB.out hil HBE.out; simpa using this), Lib.hid (HTi.out.step HBA.out), Lib.hid (HAi.out.below HBA.out)⟩
            · obtain rfl : i = WR.length := by omega
              rw [List.take_length] at HBB
              cases bb
              · have HIN : Hid (a ∉ WR) := Lib.hid (by have := HBB.out; simpa using this)
                clear HBB
                have hea := HAi.out
                go_upto_region 18 with (fail)
                have hac0 := HAi.out.cell 0; have hac1 := HAi.out.cell 1; have hac2 := HAi.out.cell 2; have hac3 := HAi.out.cell 3; have hac4 := HAi.out.cell 4; have hac5 := HAi.out.cell 5; have hac6 := HAi.out.cell 6; simp [Array.getElem?_eq_getElem] at hac0 hac1 hac2 hac3 hac4 hac5 hac6; have haf0 := HAi.out.frozen 0; have haf1 := HAi.out.frozen 1; have haf2 := HAi.out.frozen 2; have haf3 := HAi.out.frozen 3; have haf4 := HAi.out.frozen 4; have haf5 := HAi.out.frozen 5; have haf6 := HAi.out.frozen 6
                go_cut [8] from 40 to 69 (fun v8 wx => TxtW w wx gm gv mA v v8 (WR ++ [a]) (some ao) cO L ∧ Lies wx ga 55 (altA a))
                case first =>
                  go_wp2_with (first
                    | ((with_reducible refine gate_builtin (b := .append) (xs := #[.tmp 58, .tmp 60]) rfl ?_); at_builtin; refine Kd.R_append k55 (w0 := w) w.heap.size rfl (.tmp 58) (.tmp 60) 24 55 (.agg zAltA) 104 rfl Tryz.underlying24 info55 rfl (by decide) (by decide) (.slice A8 WR.length c8) (WR.map AltR.s) a.s [.string (bs a.typ), .string (bs a.group), .string (bs a.name), .bool a.dflt, .string (bs a.auto), .string (bs a.lang), .string (bs a.uri)] (fun _ => True) (fun _ => False) rfl rfl ?aP (fun _ hk => hk.elim) ?aF ?aO ?aB ?aS ?aL ?_; (case aP => exact k55_mkM _ _ _ a.s); (case aB => exact HTi.out.b); (case aF => exact fun _ _ => trivial); (case aO => exact HTi.out.row); (case aS => exact below_size HTi.out.b); (case aL => simp; omega); intro v81 w12 ho hb hg hat; have HT12 := Lib.hid (HTi.out.append ho hb hg hat); have HA12 := Lib.hid (show Lies w12 ga 55 (altA a) from blk_grown hea hg HGN.out); clear ho hb hg hat))
                  go_meet
                  case rel => exact ⟨HT12.out, HA12.out⟩
                obtain ⟨ht, hla⟩ := hcut
                have HT2 := Lib.hid ht
                have HA2 := Lib.hid hla
                clear ht hla hea HTi HAi
                clear hac0 hac1 hac2 hac3 hac4 hac5 hac6 haf0 haf1 haf2 haf3 haf4 haf5 haf6
                have hac0 := HA2.out.cell 0; have hac1 := HA2.out.cell 1; have hac2 := HA2.out.cell 2; have hac3 := HA2.out.cell 3; have hac4 := HA2.out.cell 4; have hac5 := HA2.out.cell 5; have hac6 := HA2.out.cell 6; simp [Array.getElem?_eq_getElem] at hac0 hac1 hac2 hac3 hac4 hac5 hac6; have haf0 := HA2.out.frozen 0; have haf1 := HA2.out.frozen 1; have haf2 := HA2.out.frozen 2; have haf3 := HA2.out.frozen 3; have haf4 := HA2.out.frozen 4; have haf5 := HA2.out.frozen 5; have haf6 := HA2.out.frozen 6
                have hjs : (attrsText a.attrs).length ≤ 1000 := by have := line_len (it := .alt a) HGA1.out; simp [Item.line] at this; omega
                have hsz1 : (bs (attrsText a.attrs)).size ≤ 1000 := by rw [bs_size]; exact hjs
                have hsz2 : (bs (itemsText (done ++ List.map Item.alt news))).size ≤ 100000 := by
                  rw [bs_size]
                  exact pre_len HI.out HVE.out hlt HLE.out HN.out HLEN.out
                go_wp2_with (first
                  | (go_at_call 14; refine (altAttrs_calls a _ HGA1.out.small).mono ?_; rintro e w13 ⟨Aa, ca, rfl, hl, hC, hb⟩; have HL13 := Lib.hid hl; have HC13 := Lib.hid hC; have HB13 := Lib.hid hb; clear hl hC hb)
                  | (go_at_call 13; refine (joined_calls a.attrs Aa ca _ (attrs_ne_alt a) (Nat.le_trans (alt_attrs_n a) (by decide)) (by omega) HC13.out HL13.out).mono ?_; rintro e w14 ⟨rfl, nd, rfl⟩))
                go_roundw
                case measure => simp [intOf]; omega
                case rel => exact ⟨j + 1, news ++ [a], by go_num, altOut done news a, by omega, Lib.hid (newNew HN.out HAE.out hjl (by rw [← HWR.out]; exact HIN.out)), by simp; omega, Lib.hid (by have h3 := (HT2.out.step HB13.out).step (pw_below_drewN (Below.refl _ _) nd); rw [HWR.out, List.append_assoc] at h3; exact h3)⟩
              · have HIN : Hid (a ∈ WR) := Lib.hid (by have := HBB.out; simpa using this)
                clear HBB
                go_wp2_with fail
                go_roundw
                case measure => simp [intOf]; omega
                case rel => exact ⟨j + 1, news, by go_num, rfl, by omega, Lib.hid (newOld HN.out HAE.out hjl (by rw [← HWR.out]; exact HIN.out)), by omega, Lib.hid (by rw [← HWR.out]; exact HTi.out)⟩
        · obtain rfl : j = L.length := by omega
          have hN1 : news = newAlts wrt L := by
            have h1 := HN.out
            rw [List.drop_length] at h1
            simpa [newAlts] using h1.symm
          have HN1 := Lib.hid hN1
          have hgv1 : v.Good := HGV.out v (by rw [← HVE.out]; exact List.getElem_mem _)
          have hsz2 : (bs (itemsText (done ++ List.map Item.alt news))).size ≤ 100000 := by
            rw [bs_size]
            exact pre_len HI.out HVE.out hlt HLE.out HN.out HLEN.out
          obtain ⟨X, hX⟩ : ∃ X, X = itemsText (done ++ List.map Item.alt news) := ⟨_, rfl⟩
          rw [← hX] at hsz2 ⊢
          have HX2 := Lib.hid hX
          clear hX
          obtain ⟨Y, hY⟩ : ∃ Y, Y = X ++ (infHead ++ attrsText v.attrs ++ [10] ++ v.uri) := ⟨_, rfl⟩
          have hYs : (bs Y).size ≤ 200000 := by
            have h1 := hgv1.len
            have h2 := hgv1.uri.2.1
            rw [bs_size] at hsz2 ⊢
            rw [hY]
            simp [infHead]
            omega
          have HY2 := Lib.hid hY
          clear hY
          obtain ⟨Z, hZ, hZs, HFC⟩ : ∃ Z, Hid (Z = frHead ++ attrsText v.frAttrs ++ [10]) ∧ (bs Z).size ≤ 2000 ∧ Hid (∀ w, Calls Tryz.prog 15 #[.agg (varA v)] w fun e w' => e = .returned (.string (bs Z)) ∧ Below w.heap.size w w') :=
            ⟨_, Lib.hid rfl, by have := hgv1.flen; rw [bs_size]; simp [frHead]; omega, Lib.hid (fun w => frames_calls v w hgv1.small)⟩
          have HGV1 := Lib.hid hgv1
          have hkf : k < fs.length := by have := HFL.out; omega
          obtain ⟨ad4, rfl, hx4⟩ := frames_at H4.out k hkf hkf
          have hfk : wr.cell? (ad4.add k) = some (.bool fs[k]) := (HT.out.b.cell (World.block_lt_of_cell? w _ hx4)).trans hx4
          have HV := Lib.hid HT.out.v
          have hvc0 := HV.out.cell 0; have hvc1 := HV.out.cell 1; have hvc2 := HV.out.cell 2; have hvc3 := HV.out.cell 3; have hvc4 := HV.out.cell 4; have hvc5 := HV.out.cell 5; have hvc6 := HV.out.cell 6; have hvc7 := HV.out.cell 7; have hvc8 := HV.out.cell 8; have hvc9 := HV.out.cell 9; have hvc10 := HV.out.cell 10; have hvc11 := HV.out.cell 11; have hvc12 := HV.out.cell 12
          simp [Array.getElem?_eq_getElem] at hvc0 hvc1 hvc2 hvc3 hvc4 hvc5 hvc6 hvc7 hvc8 hvc9 hvc10 hvc11 hvc12
          have hklt : (k : Int) < fs.length := by omega
          generalize hfe : fs[k] = fr at *
          have HFE := Lib.hid hfe
          clear hfe hN1 hx4 hgv1 HN
          cases fr
          · go_upto_region 23 with (fail)
            go_cut [7] from 31 to 105 (fun v7 wx => v7 = .string (bs Y) ∧ TxtW w wx gm gv mA v u8 (wrt ++ news) AO cO L)
            case first =>
              rename_i J K' hJ hK'
              refine text23 (done ++ news.map .alt) v gv rfl (by rw [← HX2.out]; rfl) rfl HV.out HGV1.out (by rw [← HX2.out, ← bs_size]; exact hsz2) ?_
              intro us w' hb
              refine hK' _ _ (Met.intro (hJ _ _ ?_))
              repeat apply Exists.intro
              refine ⟨⟨?_, ?_⟩, rfl⟩
              · show Value.string _ = _
                rw [HY2.out, HX2.out]
              · exact HT.out.step hb
            obtain ⟨rfl, ht⟩ := hcut
            have HT3 := Lib.hid ht
            clear ht
            go_wp2_with fail
            go_roundw
            case measure => simp [intOf]; omega
            case rel => exact ⟨k + 1, done ++ news.map .alt ++ varItems false v, wrt ++ news, by go_num, (by rw [HY2.out, HX2.out]; exact infOut2 _ v), by omega, Lib.hid (stepI HI.out HVE.out HFE.out HLE.out HN1.out), Lib.hid (by have := HWL.out; simp; omega), Lib.hid HT3.out.row, Lib.hid (by rw [← hmA]; exact HT3.out.m), Lib.hid HT3.out.b⟩
          · go_upto_region 22 with (fail)
            go_cut [7] from 31 to 105 (fun v7 wx => v7 = .string (bs (itemsText (done ++ news.map .alt ++ varItems true v))) ∧ TxtW w wx gm gv mA v u8 (wrt ++ news) AO cO L)
            case first => as_aux_lemma =>
              go_wp2_with (first | (go_at_call 15; refine (HFC.out _).mono ?_; rintro e w15 ⟨rfl, hb⟩; have HB15 := Lib.hid hb; clear hb))
              go_meet
              case rel => exact ⟨by rw [HX2.out, hZ.out]; exact frOut _ v, HT.out.step HB15.out⟩
            obtain ⟨rfl, ht⟩ := hcut
            have HT3 := Lib.hid ht
            clear ht
            go_wp2_with fail
            go_roundw
            case measure => simp [intOf]; omega
            case rel => exact ⟨k + 1, done ++ news.map .alt ++ varItems true v, wrt ++ news, by go_num, rfl, by omega, Lib.hid (stepI HI.out HVE.out HFE.out HLE.out HN1.out), Lib.hid (by have := HWL.out; simp; omega), Lib.hid HT3.out.row, Lib.hid (by rw [← hmA]; exact HT3.out.m), Lib.hid HT3.out.b⟩
    · obtain rfl : k = vars.length := by omega
      have hI1 : headItems ver ind ++ bodyItems alts [] vars fs = done := by
        have h1 := HI.out
        rw [List.drop_length] at h1
        simpa [bodyItems] using h1
      have HI1 := Lib.hid hI1
      clear hI1 HI
      go_wp2_with fail
      go_ret
      exact ⟨by rw [HI1.out]; rfl, HBr.out⟩
end Go.Proofs.YtlghdacdpkaoeaaGreatDoor
