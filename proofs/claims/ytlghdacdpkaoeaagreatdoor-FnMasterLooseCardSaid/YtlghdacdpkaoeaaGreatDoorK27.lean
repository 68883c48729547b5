import Derived.Test.YtlghdacdpkaoeaaGreatDoorK26
import Derived.WalkKit
import Derived.Handy
namespace Go.Proofs.YtlghdacdpkaoeaaGreatDoor
open Go.RowKit Go.Proofs.YtlghdacdpkaoeaaGreatDoorW.PrintWords Go.Maps
open Go.Lib hiding intOf
set_option linter.unusedVariables false
set_option linter.unusedSimpArgs false
theorem Lies.grown {w w' : World} {b : Nat} {T : TypeId} {cs : Array Value} {row : Option Nat} (h : Lies w b T cs) (hg : w.grownBy w' row) (hb : some b ≠ row) : Lies w' b T cs := (hg.block b h.lt hb).trans h
theorem StAt.grown {w w' : World} {S : Nat} {m3u tag : Bool} {v al : Value} {row : Option Nat} (h : StAt w S m3u tag v al) (hg : w.grownBy w' row) (hb : some S ≠ row) : StAt w' S m3u tag v al := by
  obtain ⟨cs, h, r⟩ := h; exact ⟨cs, h.grown hg hb, r⟩
theorem PlAt.grown {w w' : World} {P : Nat} {vs : Value} {ver : Int} {ind : Bool} {row : Option Nat} (h : PlAt w P vs ver ind) (hg : w.grownBy w' row) (hb : some P ≠ row) : PlAt w' P vs ver ind := by
  obtain ⟨cs, h, r⟩ := h; exact ⟨cs, h.grown hg hb, r⟩
theorem But.grownNew {X : List Nat} {w w' w'' : World} {r : Nat} (h : But X w w') (hg : w'.grownBy w'' (some r)) (hr : w.heap.size ≤ r) : But X w w'' :=
  ⟨hg.os.trans h.os, hg.tape.trans h.tape, hg.output.trans h.output, Nat.le_trans h.size hg.size, fun k hk hx => (hg.block k (Nat.lt_of_lt_of_le hk h.size) (fun e => by cases e; omega)).trans (h.block k hk hx)⟩
def valOf (ats : List Attr) (name : List UInt8) : List UInt8 := ((ats.find? (fun a => a.name == name)).map Attr.val).getD []
def cur (ats : List Attr) (left : Lit → Bool) (name : List UInt8) : List UInt8 := if left (.string name) then [] else valOf ats name
theorem valOf_own : ∀ {ats : List Attr} {a : Attr}, (ats.map Attr.name).Nodup → a ∈ ats → valOf ats a.name = a.val
  | [], a, _, h => by simp at h
  | b :: r, a, hn, h => by
    simp only [List.map_cons, List.nodup_cons] at hn
    rcases List.mem_cons.1 h with rfl | h
    · simp [valOf]
    · have hne : b.name ≠ a.name := fun e => hn.1 (e ▸ List.mem_map_of_mem h)
      have := valOf_own hn.2 h
      simp only [valOf, List.find?_cons] at this ⊢
      rw [show (b.name == a.name) = false by simpa using hne]
      exact this
theorem cur_step {ats : List Attr} {left : Lit → Bool} (x name : List UInt8) : cur ats (fun z => left z && !z.sameKey (.string x)) name = if name = x then valOf ats x else cur ats left name := by
  unfold cur
  by_cases h : name = x
  · subst h; simp [WideAt.sameKey_self (a := .string name) trivial]
  · have e := sameKey_ne (a := .string name) (b := .string x) (fun e => h (Lit.string.inj e)); simp [h, e]
theorem cur_end {ats : List Attr} {left : Lit → Bool} (h : ∀ kl, left kl = false) (name : List UInt8) : cur ats left name = valOf ats name := by simp [cur, h]
theorem cur_start {H : Type} {ats : List Attr} (hn : (ats.map Attr.name).Nodup) (name : List UInt8) : cur ats (has (mapD (H := H) ats)) name = [] := by
  unfold cur
  split
  · rfl
  · rename_i h
    unfold valOf
    cases hf : ats.find? (fun a => a.name == name) with
    | none => rfl
    | some a =>
      have h1 := List.find?_some hf
      have h2 := List.mem_of_find?_eq_some hf
      have : a.name = name := by simpa using h1
      exact absurd (this ▸ mapD_all (H := H) hn h2) (by simpa using h)
def altCells (f : List UInt8 → List UInt8) : Array Value :=
  #[.string (bs (f [71, 82, 79, 85, 80, 45, 73, 68])), .string (bs (f [85, 82, 73])), .string (bs (f [84, 89, 80, 69])), .string (bs (f [76, 65, 78, 71, 85, 65, 71, 69])), .string (bs (f [78, 65, 77, 69])),
    .bool (f [68, 69, 70, 65, 85, 76, 84] == [89, 69, 83]), .string (bs (f [65, 85, 84, 79, 83, 69, 76, 69, 67, 84])), .string ⟨#[]⟩, .string ⟨#[]⟩, .string ⟨#[]⟩]
theorem infoAlt : (Tryz.prog.info? 99).map (fun i => (i.zero, i.size, i.bytes)) = some (some (.pointer none), 1, 8) := by kernel_rfl
def AltKey (a : Attr) : Prop :=
  a.name = [84, 89, 80, 69] ∨ a.name = [71, 82, 79, 85, 80, 45, 73, 68] ∨ a.name = [78, 65, 77, 69] ∨ (a.name = [68, 69, 70, 65, 85, 76, 84] ∧ a.val = [89, 69, 83]) ∨ (a.name = [68, 69, 70, 65, 85, 76, 84] ∧ a.val = [78, 79]) ∨
    a.name = [65, 85, 84, 79, 83, 69, 76, 69, 67, 84] ∨ a.name = [76, 65, 78, 71, 85, 65, 71, 69] ∨ a.name = [85, 82, 73]
theorem Lies.has {w : World} {b : Nat} {T : TypeId} {cs : Array Value} (h : Lies w b T cs) (i : Nat) (hi : i < cs.size) : ∃ x, w.cell? ⟨b, i, none⟩ = some x := ⟨cs[i], by rw [h.cell]; simp [hi]⟩
theorem gset (w : World) (b i : Nat) (v : Value) : w.grownBy (w.setCell ⟨b, i, none⟩ v) (some b) :=
  ⟨rfl, rfl, rfl, by simp, fun k hk hne => heap_setCell_other _ _ _ _ (fun e => hne (by rw [e]))⟩
theorem row_block {N : Nat} {w : World} {S P : Nat} {m3u tag ind : Bool} {v al vs : Value} {ver : Int} {e : TypeId} {n : Nat} {xs : List Value} (hS : StAt w S m3u tag v al) (hP : PlAt w P vs ver ind) {u : Value} (h : w.ownsRow N e 1 u n xs)
    (h1 : e ≠ 112) (h2 : e ≠ 81) : ∀ g, u.ownBlock = some g → g < w.heap.size ∧ g ≠ S ∧ g ≠ P := fun g hg => by
  obtain ⟨cs1, l1, _⟩ := hS
  obtain ⟨cs2, l2, _⟩ := hP
  rcases h.2 with ⟨rfl, _⟩ | ⟨g', cap, cu, rfl, _, hh, _⟩
  · cases hg
  · cases hg
    have hh' : Lies w g' e cu := hh
    exact ⟨hh'.lt, hh'.ne l1 h1, hh'.ne l2 h2⟩
theorem row_but {N : Nat} {X : List Nat} {w w' : World} {e : TypeId} {n k : Nat} {u : Value} {xs : List Value} (h : w.ownsRow N e k u n xs) (hb : But X w w') (hx : ∀ g, u.ownBlock = some g → g < w.heap.size ∧ g ∉ X) : w'.ownsRow N e k u n xs := by
  refine ⟨h.1, ?_⟩
  rcases h.2 with h | ⟨g, cap, cu, hv, h0, hh, hr⟩
  · exact .inl h
  · have hg := hx g (by rw [hv]; rfl)
    exact .inr ⟨g, cap, cu, hv, h0, (hb.block g hg.1 hg.2).trans hh, hr⟩
theorem StAt.alloc {w : World} {S : Nat} {m3u tag : Bool} {v al : Value} (h : StAt w S m3u tag v al) (o : Obj) : StAt (w.alloc o) S m3u tag v al := by
  obtain ⟨cs, h, r⟩ := h; exact ⟨cs, h.alloc o, r⟩
theorem PlAt.alloc {w : World} {P : Nat} {vs : Value} {ver : Int} {ind : Bool} (h : PlAt w P vs ver ind) (o : Obj) : PlAt (w.alloc o) P vs ver ind := by
  obtain ⟨cs, h, r⟩ := h; exact ⟨cs, h.alloc o, r⟩
theorem st_grown {w w1 : World} {o : Obj} {S : Nat} {m3u tag : Bool} {v al : Value} {row : Option Nat} (h : StAt w S m3u tag v al) (hg : (w.alloc o).grownBy w1 row) (hr : ∀ g, row = some g → g ≠ S) : StAt w1 S m3u tag v al :=
  (h.alloc o).grown hg (fun e => hr S e.symm rfl)
theorem pl_grown {w w1 : World} {o : Obj} {P : Nat} {vs : Value} {ver : Int} {ind : Bool} {row : Option Nat} (h : PlAt w P vs ver ind) (hg : (w.alloc o).grownBy w1 row) (hr : ∀ g, row = some g → g ≠ P) : PlAt w1 P vs ver ind :=
  (h.alloc o).grown hg (fun e => hr P e.symm rfl)
theorem lies_grown {w w1 : World} {o : Obj} {P : Nat} {T : TypeId} {cs : Array Value} {row : Option Nat} (h : Lies w P T cs) (hg : (w.alloc o).grownBy w1 row) (hr : ∀ g, row = some g → g ≠ P) : Lies w1 P T cs :=
  (h.alloc o).grown hg (fun e => hr P e.symm rfl)
set_option maxRecDepth 100000 in
set_option maxHeartbeats 1000000 in
theorem ToUpper_yes1 (w : World) : Calls Tryz.prog 51 #[.string ⟨#[89, 69, 83]⟩] w fun e w' => e = .returned (.string ⟨#[89, 69, 83]⟩) ∧ w' = w := by
  show Calls Tryz.prog 51 #[.string ⟨#[89, 69, 83]⟩] w _
  go_enter Tryz.func51, Tryz.ntmps51
  go_wp2
  go_rounds 4
  go_wp2
  go_ret
  exact ⟨rfl, rfl⟩
set_option maxRecDepth 100000 in
set_option maxHeartbeats 1000000 in
theorem ToUpper_no1 (w : World) : Calls Tryz.prog 51 #[.string ⟨#[78, 79]⟩] w fun e w' => e = .returned (.string ⟨#[78, 79]⟩) ∧ w' = w := by
  show Calls Tryz.prog 51 #[.string ⟨#[78, 79]⟩] w _
  go_enter Tryz.func51, Tryz.ntmps51
  go_wp2
  go_rounds 3
  go_wp2
  go_ret
  exact ⟨rfl, rfl⟩
set_option maxRecDepth 100000 in
set_option maxHeartbeats 8000000 in
theorem line_media {N : Nat} {H : Type} (l ws : List UInt8) (ats : List Attr) (P S : Nat) (m3u tag ind : Bool) (v al vs : Value) (ver : Int) (na : Nat) (aps : List Value) (w : World) (hB : Base N w) (h : Trimmed l) (hw : ∀ c ∈ ws, Lib.isSp c = true ∧ c < 128) (hs : l.length + ws.length ≤ 100000)
    (hS : StAt w S m3u tag v al) (hP : PlAt w P vs ver ind) (hl : Kind l false false false true false false true)
    (hlz : Hid (13 ≤ (bs l).size)) (hx : Hid ((bs l).extract 13 (bs l).size = bs (attrsText ats))) (hok : ∀ a ∈ ats, a.Ok) (hkey : ∀ a ∈ ats, AltKey a) (hnd : (ats.map Attr.name).Nodup) (hsz : (attrsText ats).length ≤ 100000)
    (hal : w.ownsRow N 99 1 al na aps) (hna : na ≤ 100000) :
    Calls Tryz.prog 36 #[.pointer (some ⟨P, 0, none⟩), .pointer (some ⟨S, 0, none⟩), .string (bs (l ++ ws)), .bool true] w fun e w' => e = .returned .nilIface ∧ ∃ al' A, StAt w' S m3u tag v al' ∧ PlAt w' P vs ver ind ∧ w'.ownsRow N 99 1 al' (na + 1) (aps ++ [.pointer (some ⟨A, 0, none⟩)]) ∧ Lies w' A 101 (altCells (valOf ats)) ∧ w.heap.size ≤ A ∧ But (S :: al.ownBlock.toList) w w' := by
  obtain ⟨i0, hi, hz0, hz1, hz2⟩ := info_parts infoAlt
  have hT := TrimSpace_calls l ws w hB h hw hs
  have HP := Lib.hid (fun p W => HasPrefix_lit l p W)
  have HD := Lib.hid (fun W => decodeParamsLine_calls (H := H) ats W hok hsz)
  have HK := Lib.hid hkey
  have HND := Lib.hid hnd
  have hSt := Lib.hid hS
  have hPl := Lib.hid hP
  have hne := hS.nePl hP
  have hne' : P ≠ S := Ne.symm hne
  have hl13 := hlz.out
  obtain ⟨ha, hb, hc, hd, he, hf, hg⟩ := hl
  have HAL := Lib.hid hal
  have HBL := Lib.hid (row_block hS hP hal (by decide) (by decide))
  have hN := hB.size
  clear h hw hs hB hS hP hkey hnd hok hsz hal
  go_enter Tryz.func36, Tryz.ntmps36
  go_wp2_with (first
    | (go_at_call 46; refine hT.mono ?_; rintro e w1 ⟨rfl, hb1⟩; have hS1 := Lib.hid (hSt.out.below hb1); have hP1 := Lib.hid (hPl.out.below hb1); obtain ⟨⟨x0, c0⟩, c1, c2, c15, c16, f0, f1, f2, f15, f16⟩ := hS1.out.cells; obtain ⟨d0, d1, d6, d7, g0, g1, g6, g7⟩ := hP1.out.cells; have lS := hS1.out.lt; have lP := hP1.out.lt; clear hT hSt hPl)
    | (go_at_call 47; refine (HP.out _ _).mono ?_; rintro e w2 ⟨rfl, rfl⟩)
    | (go_at_call 50; rw [hx.out]; refine (HD.out _).mono ?_; rintro e w3 ⟨b, rfl, hown, hbb, hb3⟩)
    | (at_range; refine wpList_range_own _ rfl _ 131 rfl 9 9 law9 Tryz.underlying131 _ b ats.length _ rfl hown ?_; intro w0 hrg0 hg0 hs0)
    | go_in)
  go_frame
  have hsz2 : (w2.setCell ⟨S, 0, none⟩ (.int .u64 1)).heap.size = w2.heap.size := by simp
  have hA0 : Lies w3 w2.heap.size 101 (altCells fun _ => []) := by
    have : Lies ((w2.setCell ⟨S, 0, none⟩ (.int .u64 1)).alloc (.cells (altCells fun _ => []) 101)) w2.heap.size 101 (altCells fun _ => []) := by
      have := heap_alloc_new (w2.setCell ⟨S, 0, none⟩ (.int .u64 1)) (.cells (altCells fun _ => []) 101)
      rwa [hsz2] at this
    exact this.below hb3
  have hS3 : StAt w3 S m3u tag v al := ((hS1.out.set0 (.int .u64 1)).below ((Below.refl _ _).alloc (Nat.le_refl _) (.cells (altCells fun _ => []) 101))).below hb3
  have hP3 : PlAt w3 P vs ver ind := ((hP1.out.other hne' (.int .u64 1)).below ((Below.refl _ _).alloc (Nat.le_refl _) (.cells (altCells fun _ => []) 101))).below hb3
  have hB3 : But [S] w w3 := ((((But.refl [S] w).below hb1).set (p := ⟨S, 0, none⟩) (by simp) (.int .u64 1)).alloc (.cells (altCells fun _ => []) 101)).below hb3
  have hA3 := hA0.grown hg0 (by simp)
  have hS4 := hS3.grown hg0 (by simp)
  have hP4 := hP3.grown hg0 (by simp)
  have hB4 : But [S] w w0 := hB3.grown hg0 (by simp)
  have hbA : w2.heap.size < b := by simp at hbb; omega
  have hA3b : w2.heap.size < w3.heap.size := hA0.lt
  have hww : w.heap.size ≤ w2.heap.size := hb1.size
  generalize hA : w2.heap.size = A at *
  generalize hr : w3.heap.size = r at *
  clear c0 c1 c2 c15 c16 f0 f1 f2 f15 f16 d0 d1 d6 d7 g0 g1 g6 g7 hS1 hP1 hb1 hb3 hA0 hS3 hP3 hB3 hg0 hs0 hown hbb hsz2 hA hr
  go_loopw [11] (fun _ wr => ∃ (left : Lit → Bool) (cnt : Nat), wr.ranges Tryz.prog 9 (plainElem (H := H) Tryz.prog 9) b r ats.length (mapD ats) left cnt ∧ Lies wr A 101 (altCells (cur ats left)) ∧ StAt wr S m3u tag v al ∧ PlAt wr P vs ver ind ∧ But [S] w wr ∧ Hid (∀ kl, left kl = true → has (mapD (H := H) ats) kl = true))
    (fun _ wr => wr.rangeLeft b r)
  case atStart =>
    refine ⟨_, _, hrg0, ?_, hS4, hP4, hB4, fun _ h => h⟩
    have : (fun name => cur ats (has (mapD (H := H) ats)) name) = fun _ => [] := by funext name; exact cur_start HND.out name
    rw [show cur ats (has (mapD (H := H) ats)) = fun _ => [] from this]
    exact hA3
  case round =>
    obtain ⟨left, cnt, hrg, hA4, hS5, hP5, hB5, HL⟩ := hrel
    go_wp2_with (first
      | (at_next; refine wpList_next_ranges_ss _ rfl _ rfl 9 9 law9 Tryz.underlying9 Tryz.underlying9 b r ats.length _ _ _ rfl hrg ?_ ?_)
      | go_in)
    · intro hc0 hl0
      have hcur : cur ats left = valOf ats := by funext name; exact cur_end hl0 name
      rw [hcur] at hA4
      obtain ⟨⟨y0, c0⟩, c1, c2, c15, c16, f0, f1, f2, f15, f16⟩ := hS5.cells
      have hown5 : wr.ownsRow N 99 1 al na aps := row_but HAL.out hB5 (fun g hg => ⟨(HBL.out g hg).1, by simp; exact (HBL.out g hg).2.1⟩)
      have HOWN := Lib.hid (hown5.alloc (.cells #[.pointer (some ⟨A, 0, none⟩)] 99))
      have HNEWS := Lib.hid (World.news_of_block (heap_alloc_new wr (.cells #[.pointer (some ⟨A, 0, none⟩)] 99)))
      have HONE : ∀ u ∈ [Value.pointer (some ⟨A, 0, none⟩)], u.oneCell' = true := by intro u hu; simp at hu; subst hu; rfl
      have HONE := Lib.hid HONE
      have hb63 : na + 1 ≤ maxLen := by unfold maxLen; omega
      have hb47 : (na + 1) * 8 ≤ 140737488355328 := by omega
      have lS5 := hS5.lt
      have hbase : N ≤ (wr.alloc (.cells #[.pointer (some ⟨A, 0, none⟩)] 99)).heap.size := by have := hB5.size; simp; omega
      have HS5 := Lib.hid hS5
      have HP5 := Lib.hid hP5
      have HA4 := Lib.hid hA4
      clear hown5 hcur hS5 hP5 hA4 hrg
      go_wp2_with (refine wpList_append_lies _ rfl _ _ 94 rfl N 99 i0 _ 1 8 Tryz.underlying94 hi hz0 hz1 hz2 rfl (by decide) _ _ _ rfl HOWN.out ⟨wr.heap.size, 0, none⟩ 1 1 [.pointer (some ⟨A, 0, none⟩)] rfl rfl HNEWS.out HONE.out (by decide) hb63 hb47 hbase _ rfl ?_; intro g cap w1 hown' hgrow hat hlt4; have hgrow' := Lib.hid hgrow; have hat' := Lib.hid hat; clear hgrow hat; have hS6 := Lib.hid (st_grown HS5.out hgrow'.out (fun g hg => (HBL.out g hg).2.1)); have hP6 := Lib.hid (pl_grown HP5.out hgrow'.out (fun g hg => (HBL.out g hg).2.2)); have hA6 := Lib.hid (lies_grown HA4.out hgrow'.out (fun g hg => Nat.ne_of_lt (Nat.lt_of_lt_of_le (HBL.out g hg).1 hww))); obtain ⟨⟨z0, k0⟩, k1, k2, k15, k16, q0, q1, q2, q15, q16⟩ := hS6.out.cells)
      go_ret
      have hB6 : But (S :: al.ownBlock.toList) w w1 := ((hB5.mono (by simp)).alloc _).grown hgrow'.out (fun k hk => by
        have : al.ownBlock = some k := hk
        simp [this])
      have hgS : g ≠ S := by
        rcases hat'.out with h | h
        · exact (HBL.out g h).2.1
        · rw [h]; simp; omega
      refine ⟨rfl, _, hS6.out.set16 _, hP6.out.other hne' _, A, ownsRow_setCell_other hown' (by simp [Value.ownBlock]; exact hgS) _, hA6.out.other (by simp; omega) _, hww, hB6.set (by simp) _⟩
    · intro x c w1 cnt1 hlx hat hrg1 hlt hg1 hs1 hen
      obtain ⟨a, ham, hxa, hval⟩ := mapD_has HND.out (HL.out _ hlx)
      have e1 : x = a.name := Lit.string.inj hxa
      have e2 : c = a.val := by
        have := (hat .nil).symm.trans (hval .nil)
        exact Lit.string.inj (DataW.lit.inj this)
      have e3 : valOf ats x = c := by rw [e1, e2]; exact valOf_own HND.out ham
      have hk := HK.out a ham
      unfold AltKey at hk
      rw [← e1, ← e2] at hk
      have hAr : A ≠ r := by omega
      have hA5 := Lib.hid (hA4.grown hg1 (fun e => hAr (Option.some.inj e)))
      have hS6 := Lib.hid (hS5.grown hg1 (fun e => by cases e; omega))
      have hP6 := Lib.hid (hP5.grown hg1 (fun e => by cases e; omega))
      have hB6 := Lib.hid (hB5.grownNew hg1 (by omega))
      obtain ⟨y0, a0⟩ := hA5.out.has 0 (by show 0 < 10; decide)
      obtain ⟨y1, a1⟩ := hA5.out.has 1 (by show 1 < 10; decide)
      obtain ⟨y2, a2⟩ := hA5.out.has 2 (by show 2 < 10; decide)
      obtain ⟨y3, a3⟩ := hA5.out.has 3 (by show 3 < 10; decide)
      obtain ⟨y4, a4⟩ := hA5.out.has 4 (by show 4 < 10; decide)
      obtain ⟨y5, a5⟩ := hA5.out.has 5 (by show 5 < 10; decide)
      obtain ⟨y6, a6⟩ := hA5.out.has 6 (by show 6 < 10; decide)
      have i0 := hA5.out.frozen 0
      have i1 := hA5.out.frozen 1
      have i2 := hA5.out.frozen 2
      have i3 := hA5.out.frozen 3
      have i4 := hA5.out.frozen 4
      have i5 := hA5.out.frozen 5
      have i6 := hA5.out.frozen 6
      have e3' := Lib.hid e3
      clear ham hxa hval hat e1 e2 e3
      rcases hk with rfl | rfl | rfl | ⟨rfl, rfl⟩ | ⟨rfl, rfl⟩ | rfl | rfl | rfl
      · have hbx : bs [84, 89, 80, 69] = ⟨#[84, 89, 80, 69]⟩ := rfl
        have hcs : altCells (cur ats (fun z => left z && !z.sameKey (.string [84, 89, 80, 69]))) = (altCells (cur ats left)).setIfInBounds 2 (.string (bs c)) := by
          unfold altCells
          simp only [cur_step, e3'.out]
          simp
        have HCS := Lib.hid hcs
        clear hcs
        go_wp2_with fail
        go_roundw
        case rel => exact ⟨_, cnt1, hrg1.kept (gset _ A 2 _) (by simp; omega) (by simp; omega), by rw [HCS.out]; exact hA5.out.set 2 _, hS6.out.other (by simp; omega) _, hP6.out.other (by simp; omega) _, hB6.out.setNew hww _, fun kl h => HL.out kl (by simp at h; exact h.1)⟩
        case measure => rw [(hrg1.kept (gset _ A 2 _) (by simp; omega) (by simp; omega)).left_eq, hrg.left_eq]; exact hlt
      · have hbx : bs [71, 82, 79, 85, 80, 45, 73, 68] = ⟨#[71, 82, 79, 85, 80, 45, 73, 68]⟩ := rfl
        have hcs : altCells (cur ats (fun z => left z && !z.sameKey (.string [71, 82, 79, 85, 80, 45, 73, 68]))) = (altCells (cur ats left)).setIfInBounds 0 (.string (bs c)) := by
          unfold altCells
          simp only [cur_step, e3'.out]
          simp
        have HCS := Lib.hid hcs
        clear hcs
        go_wp2_with fail
        go_roundw
        case rel => exact ⟨_, cnt1, hrg1.kept (gset _ A 0 _) (by simp; omega) (by simp; omega), by rw [HCS.out]; exact hA5.out.set 0 _, hS6.out.other (by simp; omega) _, hP6.out.other (by simp; omega) _, hB6.out.setNew hww _, fun kl h => HL.out kl (by simp at h; exact h.1)⟩
        case measure => rw [(hrg1.kept (gset _ A 0 _) (by simp; omega) (by simp; omega)).left_eq, hrg.left_eq]; exact hlt
      · have hbx : bs [78, 65, 77, 69] = ⟨#[78, 65, 77, 69]⟩ := rfl
        have hcs : altCells (cur ats (fun z => left z && !z.sameKey (.string [78, 65, 77, 69]))) = (altCells (cur ats left)).setIfInBounds 4 (.string (bs c)) := by
          unfold altCells
          simp only [cur_step, e3'.out]
          simp
        have HCS := Lib.hid hcs
        clear hcs
        go_wp2_with fail
        go_roundw
        case rel => exact ⟨_, cnt1, hrg1.kept (gset _ A 4 _) (by simp; omega) (by simp; omega), by rw [HCS.out]; exact hA5.out.set 4 _, hS6.out.other (by simp; omega) _, hP6.out.other (by simp; omega) _, hB6.out.setNew hww _, fun kl h => HL.out kl (by simp at h; exact h.1)⟩
        case measure => rw [(hrg1.kept (gset _ A 4 _) (by simp; omega) (by simp; omega)).left_eq, hrg.left_eq]; exact hlt
      · have hbx : bs [68, 69, 70, 65, 85, 76, 84] = ⟨#[68, 69, 70, 65, 85, 76, 84]⟩ := rfl
        have hby : bs [89, 69, 83] = ⟨#[89, 69, 83]⟩ := rfl
        have hcs : altCells (cur ats (fun z => left z && !z.sameKey (.string [68, 69, 70, 65, 85, 76, 84]))) = (altCells (cur ats left)).setIfInBounds 5 (.bool true) := by
          unfold altCells
          simp only [cur_step, e3'.out]
          simp
        have HCS := Lib.hid hcs
        clear hcs
        go_wp2_with (go_at_call 51; refine (ToUpper_yes1 _).mono ?_; rintro e w4 ⟨rfl, rfl⟩)
        go_roundw
        case rel => exact ⟨_, cnt1, hrg1.kept (gset _ A 5 _) (by simp; omega) (by simp; omega), by rw [HCS.out]; exact hA5.out.set 5 _, hS6.out.other (by simp; omega) _, hP6.out.other (by simp; omega) _, hB6.out.setNew hww _, fun kl h => HL.out kl (by simp at h; exact h.1)⟩
        case measure => rw [(hrg1.kept (gset _ A 5 _) (by simp; omega) (by simp; omega)).left_eq, hrg.left_eq]; exact hlt
      · have hbx : bs [68, 69, 70, 65, 85, 76, 84] = ⟨#[68, 69, 70, 65, 85, 76, 84]⟩ := rfl
        have hby : bs [78, 79] = ⟨#[78, 79]⟩ := rfl
        have hcs : altCells (cur ats (fun z => left z && !z.sameKey (.string [68, 69, 70, 65, 85, 76, 84]))) = (altCells (cur ats left)).setIfInBounds 5 (.bool false) := by
          unfold altCells
          simp only [cur_step, e3'.out]
          simp
        have HCS := Lib.hid hcs
        clear hcs
        go_wp2_with (go_at_call 51; refine (ToUpper_no1 _).mono ?_; rintro e w4 ⟨rfl, rfl⟩)
        go_roundw
        case rel => exact ⟨_, cnt1, hrg1.kept (gset _ A 5 _) (by simp; omega) (by simp; omega), by rw [HCS.out]; exact hA5.out.set 5 _, hS6.out.other (by simp; omega) _, hP6.out.other (by simp; omega) _, hB6.out.setNew hww _, fun kl h => HL.out kl (by simp at h; exact h.1)⟩
        case measure => rw [(hrg1.kept (gset _ A 5 _) (by simp; omega) (by simp; omega)).left_eq, hrg.left_eq]; exact hlt
      · have hbx : bs [65, 85, 84, 79, 83, 69, 76, 69, 67, 84] = ⟨#[65, 85, 84, 79, 83, 69, 76, 69, 67, 84]⟩ := rfl
        have hcs : altCells (cur ats (fun z => left z && !z.sameKey (.string [65, 85, 84, 79, 83, 69, 76, 69, 67, 84]))) = (altCells (cur ats left)).setIfInBounds 6 (.string (bs c)) := by
          unfold altCells
          simp only [cur_step, e3'.out]
          simp
        have HCS := Lib.hid hcs
        clear hcs
        go_wp2_with fail
        go_roundw
        case rel => exact ⟨_, cnt1, hrg1.kept (gset _ A 6 _) (by simp; omega) (by simp; omega), by rw [HCS.out]; exact hA5.out.set 6 _, hS6.out.other (by simp; omega) _, hP6.out.other (by simp; omega) _, hB6.out.setNew hww _, fun kl h => HL.out kl (by simp at h; exact h.1)⟩
        case measure => rw [(hrg1.kept (gset _ A 6 _) (by simp; omega) (by simp; omega)).left_eq, hrg.left_eq]; exact hlt
      · have hbx : bs [76, 65, 78, 71, 85, 65, 71, 69] = ⟨#[76, 65, 78, 71, 85, 65, 71, 69]⟩ := rfl
        have hcs : altCells (cur ats (fun z => left z && !z.sameKey (.string [76, 65, 78, 71, 85, 65, 71, 69]))) = (altCells (cur ats left)).setIfInBounds 3 (.string (bs c)) := by
          unfold altCells
          simp only [cur_step, e3'.out]
          simp
        have HCS := Lib.hid hcs
        clear hcs
        go_wp2_with fail
        go_roundw
        case rel => exact ⟨_, cnt1, hrg1.kept (gset _ A 3 _) (by simp; omega) (by simp; omega), by rw [HCS.out]; exact hA5.out.set 3 _, hS6.out.other (by simp; omega) _, hP6.out.other (by simp; omega) _, hB6.out.setNew hww _, fun kl h => HL.out kl (by simp at h; exact h.1)⟩
        case measure => rw [(hrg1.kept (gset _ A 3 _) (by simp; omega) (by simp; omega)).left_eq, hrg.left_eq]; exact hlt
      · have hbx : bs [85, 82, 73] = ⟨#[85, 82, 73]⟩ := rfl
        have hcs : altCells (cur ats (fun z => left z && !z.sameKey (.string [85, 82, 73]))) = (altCells (cur ats left)).setIfInBounds 1 (.string (bs c)) := by
          unfold altCells
          simp only [cur_step, e3'.out]
          simp
        have HCS := Lib.hid hcs
        clear hcs
        go_wp2_with fail
        go_roundw
        case rel => exact ⟨_, cnt1, hrg1.kept (gset _ A 1 _) (by simp; omega) (by simp; omega), by rw [HCS.out]; exact hA5.out.set 1 _, hS6.out.other (by simp; omega) _, hP6.out.other (by simp; omega) _, hB6.out.setNew hww _, fun kl h => HL.out kl (by simp at h; exact h.1)⟩
        case measure => rw [(hrg1.kept (gset _ A 1 _) (by simp; omega) (by simp; omega)).left_eq, hrg.left_eq]; exact hlt
end Go.Proofs.YtlghdacdpkaoeaaGreatDoor
