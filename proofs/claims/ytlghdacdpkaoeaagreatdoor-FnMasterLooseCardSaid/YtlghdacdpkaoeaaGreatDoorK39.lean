import Derived.Test.YtlghdacdpkaoeaaGreatDoorK38
import Derived.Test.YtlghdacdpkaoeaaGreatDoorK36
import Derived.Test.YtlghdacdpkaoeaaGreatDoorK37
import Derived.Test.YtlghdacdpkaoeaaGreatDoorK30
import Derived.Test.YtlghdacdpkaoeaaGreatDoorK24
import Derived.Test.YtlghdacdpkaoeaaGreatDoorK09
section
namespace Go.Proofs.YtlghdacdpkaoeaaGreatDoor
open Go.RowKit Go.Proofs.YtlghdacdpkaoeaaGreatDoorW.PrintWords Go.Maps
open Go.Lib hiding intOf
set_option linter.unusedVariables false
set_option linter.unusedSimpArgs false
theorem Base.up {N M : Nat} {w : World} (h : Base N w) (hM : N ≤ M) (hs : M ≤ w.heap.size) : Base M w where
  big := ⟨by have := h.big.1; omega, by have := h.big.2.1; omega, by have := h.big.2.2; omega⟩
  bigF := ⟨by have := h.bigF.1; omega, by have := h.bigF.2.1; omega, by have := h.bigF.2.2; omega⟩
  opt := h.opt
  info := h.info
  pow := by obtain ⟨pb, po, c, h1, h2, h3⟩ := h.pow; exact ⟨pb, po, c, h1, by omega, h3⟩
  size := hs
  sp := h.sp
  bp := h.bp
  eof := h.eof
theorem BaseE.up {N M : Nat} {w : World} (h : BaseE N w) (hM : N ≤ M) (hs : M ≤ w.heap.size) : BaseE M w := ⟨h.base.up hM hs, h.eof⟩
set_option maxRecDepth 100000 in
theorem NewMaster_calls (w : World) : Calls Tryz.prog 19 #[] w fun e w' => e = .returned (.pointer (some ⟨w.heap.size, 0, none⟩)) ∧ PlAt w' w.heap.size (.slice none 0 0) 3 false ∧ Below w.heap.size w w' ∧ w'.heap.size = w.heap.size + 1 := by
  go_enter Tryz.func19, Tryz.ntmps19
  go_wp2
  go_ret
  refine ⟨rfl, ⟨_, heap_alloc_new w _, rfl, rfl, rfl, rfl, rfl⟩, (Below.refl _ w).alloc (Nat.le_refl _) _, by simp⟩
theorem FrB.below {b R N : Nat} {w w' : World} (h : FrB b R w w') (h1 : N ≤ R) (h2 : N ≤ b) : Below N w w' := ⟨h.os, h.tape, h.output, h.size, fun k hk => h.block k (by omega) (by omega)⟩
theorem plAt_frb {P R b : Nat} {w w0 w1 : World} {vs : Value} {ver : Int} {ind : Bool} (h : PlAt w P vs ver ind) (h0 : Below w.heap.size w w0) (h1 : FrB b R w0 w1) (hP : P < b) (hPR : P ≠ R) : PlAt w1 P vs ver ind := by
  obtain ⟨cs, h, r⟩ := h.below h0
  exact ⟨cs, (h1.block P hP hPR).trans h, r⟩
set_option maxRecDepth 100000 in
set_option maxHeartbeats 8000000 in
theorem DecodeFrom_calls {N P R X : Nat} (its : List (Item × Bool)) (w : World) (hE : BaseE N w) (hP : PlAt w P (.slice none 0 0) 3 false) (hNP : N ≤ P) (hNX : N ≤ X) (hR : RdrAt w R X (restT its) 0) (hok : RS.start.okay (its.map Prod.fst)) (hopn : (RS.start.run (its.map Prod.fst)).opn = none)
    (hfr : (RS.start.run (its.map Prod.fst)).alts = [] ∨ ∀ x ∈ (RS.start.run (its.map Prod.fst)).vars, x.fr = false) :
    Calls Tryz.prog 20 #[.pointer (some ⟨P, 0, none⟩), .iface 66 (.pointer (some ⟨R, 0, none⟩)), .bool true] w fun e w' => ∃ v, e = .returned v ∧ errOf (RS.start.run (its.map Prod.fst)).m3u v ∧ DoneAt N P w' (RS.start.run (its.map Prod.fst)) ∧ Below N w w' := by
  have lP := hP.lt
  have lR : R < w.heap.size := by obtain ⟨⟨c, pr, hl, _⟩, _⟩ := hR; exact hl.lt
  have hPR : P ≠ R := by
    obtain ⟨cs, hl⟩ := hP.lies
    obtain ⟨⟨c, pr, hl2, _⟩, _⟩ := hR
    exact hl.ne hl2 (by decide)
  have hXR := hR.lt
  have hN := hE.base.size
  have hb0 : Below w.heap.size w (w.alloc (.cells #[.slice none 0 0, .int .i64 0, .int .i8 0] 79)) := (Below.refl _ w).alloc (Nat.le_refl _) _
  have HRF := Lib.hid (ReadFrom_calls (hE.below (below_down hb0 hN)) hNX (hR.keep (hb0.block R lR) (hb0.block X (by omega))) lR (heap_alloc_new w (.cells #[.slice none 0 0, .int .i64 0, .int .i8 0] 79)))
  have HE := Lib.hid hE
  have HP := Lib.hid hP
  have HB0 := Lib.hid hb0
  have HOK := Lib.hid hok
  have HOP := Lib.hid hopn
  have HFR := Lib.hid hfr
  clear hE hP hR hok hopn hfr hb0
  go_enter Tryz.func20, Tryz.ntmps20
  go_wp2_with (first
    | (go_at_call 29; refine HRF.out.mono ?_; rintro e w1 ⟨rfl, ⟨g, cap, cu, hbuf, hbg⟩, hfrb⟩; have HBUF := Lib.hid hbuf; have HFRB := Lib.hid hfrb; clear hbuf hfrb)
    | (go_at_call 30; refine (decode_calls (N := N) its w1 (HE.out.below ((below_down HB0.out hN).trans (HFRB.out.below (by omega) (by omega)))) (plAt_frb HP.out HB0.out HFRB.out lP hPR) hNP (by omega) HBUF.out HOK.out HOP.out HFR.out).mono ?_; rintro e w2 ⟨v, rfl, hv1, hv2, hv3⟩; have HV := Lib.hid (And.intro hv1 (And.intro hv2 hv3)); clear hv1 hv2 hv3))
  go_ret
  exact ⟨v, rfl, HV.out.1, HV.out.2.1, ((below_down HB0.out hN).trans (HFRB.out.below (by omega) (by omega))).trans HV.out.2.2⟩
end Go.Proofs.YtlghdacdpkaoeaaGreatDoor
end
section
namespace Go.Proofs.YtlghdacdpkaoeaaGreatDoor
open Go.RowKit Go.Proofs.YtlghdacdpkaoeaaGreatDoorW.PrintWords Go.Maps
open Go.Lib hiding intOf
set_option linter.unusedVariables false
set_option linter.unusedSimpArgs false
def pairs (its : List (Item × Bool)) : List (Line × Line) := its.map fun p => (p.1.line, crOf p.2)
theorem textOf_pairs (its : List (Item × Bool)) : textOf (pairs its) = restT its := by
  unfold textOf pairs restT
  rw [List.map_map]; rfl
theorem okay_good : ∀ {l : List Item} {s : RS}, s.okay l → ∀ it ∈ l, it.Good
  | [], _, _, _, h => by simp at h
  | x :: r, s, ho, it, h => by
    rcases List.mem_cons.1 h with rfl | h
    · exact ho.1
    · exact okay_good ho.2.2 it h
theorem pairs_ok {its : List (Item × Bool)} (hok : RS.start.okay (its.map Prod.fst)) : (∀ p ∈ pairs its, LineP p) ∧ ∀ p ∈ pairs its, Bens p.1 := by
  have key : ∀ p ∈ pairs its, ∃ (it : Item) (b : Bool), p = (it.line, crOf b) ∧ it.Good := by
    intro p hp
    obtain ⟨q, hq, rfl⟩ := List.mem_map.1 hp
    exact ⟨q.1, q.2, rfl, okay_good hok _ (List.mem_map_of_mem hq)⟩
  constructor
  · intro p hp
    obtain ⟨it, b, rfl, hg⟩ := key p hp
    refine ⟨line_trimmed hg, ?_, ?_⟩
    · show ∀ c ∈ crOf b, Lib.isSp c = true ∧ c < 128
      cases b <;> decide
    · intro hm
      rcases List.mem_append.1 hm with hm | hm
      · exact (line_no10 hg).1 hm
      · cases b <;> simp [crOf] at hm
  · intro p hp
    obtain ⟨it, b, rfl, hg⟩ := key p hp
    exact line_bens hg
def MasterV (sl : Value) (s : RS) : Value := .agg #[sl, .string ⟨#[]⟩, .int .i64 s.ver, .bool s.ind]
def MasterZ : Value := .agg #[.slice none 0 0, .string ⟨#[]⟩, .int .i64 0, .bool false]
def ReadEnd (w : World) (s : RS) (e : Ending) (w' : World) : Prop :=
  Below w.heap.size w w' ∧ if s.m3u then ∃ sl, e = .returned (.tuple #[MasterV sl s, .bool true]) ∧ ResAt w.heap.size w' s sl else e = .returned (.tuple #[MasterZ, .bool false])
structure VerOk (s : RS) : Prop where
  lo : 0 ≤ s.ver
  hi : s.ver ≤ 255
theorem VerOk.run : ∀ {l : List Item} {s : RS}, VerOk s → s.okay l → VerOk (s.run l)
  | [], s, h, _ => h
  | it :: r, s, h, ho => (VerOk.run (s := s.step it) (l := r) (by
      cases it with
      | ver n => exact ⟨by simp [RS.step], by have : n < 256 := ho.1; simp [RS.step]; omega⟩
      | _ => exact ⟨h.lo, h.hi⟩) ho.2.2 : VerOk ((s.step it).run r))
theorem below_le {M N : Nat} {w w' : World} (h : Below M w w') (hN : N ≤ M) : Below N w w' := ⟨h.os, h.tape, h.output, h.size, fun k hk => h.block k (by omega)⟩
theorem Lies.lowB {w w' : World} {b M : Nat} {T : TypeId} {cs : Array Value} (h : Lies w b T cs) (hb : b < M) (hB : Below M w w') : Lies w' b T cs := (hB.block b hb).trans h
theorem rdr_new (w : World) (l : List UInt8) (c : Nat) (hc : l.length ≤ c) (hl : l.length ≤ 100000) : RdrAt ((Lib.bytesWorld w 5 (bs l)).alloc (.cells #[.slice (some ⟨w.heap.size, 0, none⟩) l.length c, .int .i64 0, .int .i64 (-1)] 89)) (Lib.bytesWorld w 5 (bs l)).heap.size w.heap.size l 0 := by
  refine ⟨⟨c, -1, heap_alloc_new _ _, hc⟩, fun i hi => ?_, by rw [Lib.bytesWorld_size]; omega, by omega, hl⟩
  have h1 : ((Lib.bytesWorld w 5 (bs l)).alloc (.cells #[.slice (some ⟨w.heap.size, 0, none⟩) l.length c, .int .i64 0, .int .i64 (-1)] 89)).heap[w.heap.size]? = (Lib.bytesWorld w 5 (bs l)).heap[w.heap.size]? := Below.heap_alloc _ _ _ (by rw [Lib.bytesWorld_size]; omega)
  have h2 := Lib.bytesWorld_cell w 5 (bs l) i (by rw [bs_size]; exact hi)
  rw [bs_toList, List.getD_eq_getElem?_getD, List.getElem?_eq_getElem hi] at h2
  refine Eq.trans ?_ h2
  simp only [World.cell?, h1]
theorem rdr_below (w : World) (l : List UInt8) (o : Obj) : Below w.heap.size w ((Lib.bytesWorld w 5 (bs l)).alloc o) :=
  (bytesWorld_below w _ _).alloc (by rw [Lib.bytesWorld_size]; omega) _
theorem ResAt.mono {B B' : Nat} {w : World} {s : RS} {sl : Value} (h : ResAt B w s sl) (hB : B' ≤ B) : ResAt B' w s sl := by
  obtain ⟨ps, h1, h2, h3⟩ := h
  exact ⟨ps, h1, row_mono h2 hB, fun p hp => row_mono (h3 p hp) hB⟩
theorem ResAt.form {B : Nat} {w : World} {s : RS} {sl : Value} (h : ResAt B w s sl) : ∃ a n c, sl = .slice a n c := by
  obtain ⟨ps, h1, h2, h3⟩ := h
  rcases own_cases h2 with ⟨rfl, _⟩ | ⟨_, _, rfl, _⟩
  · exact ⟨_, _, _, rfl⟩
  · exact ⟨_, _, _, rfl⟩
set_option maxRecDepth 100000 in
set_option maxHeartbeats 8000000 in
theorem ReadMaster_calls {N : Nat} (its : List (Item × Bool)) (w : World) (hE0 : BaseE N w) (hok : RS.start.okay (its.map Prod.fst)) (hopn : (RS.start.run (its.map Prod.fst)).opn = none)
    (hfr : (RS.start.run (its.map Prod.fst)).alts = [] ∨ ∀ x ∈ (RS.start.run (its.map Prod.fst)).vars, x.fr = false) (hsz : (restT its).length ≤ 8192) :
    Calls Tryz.prog 6 #[.string (bs (restT its)), .bool true] w (ReadEnd w (RS.start.run (its.map Prod.fst))) := by
  have hz0 := heap_alloc_new w (.cells #[.slice none 0 0, .string ⟨#[]⟩, .int .i64 0, .bool false] 34)
  have hb0 : Below w.heap.size w (w.alloc (.cells #[.slice none 0 0, .string ⟨#[]⟩, .int .i64 0, .bool false] 34)) := (Below.refl _ w).alloc (Nat.le_refl _) _
  have hs0 : (w.alloc (.cells #[.slice none 0 0, .string ⟨#[]⟩, .int .i64 0, .bool false] 34)).heap.size = w.heap.size + 1 := by simp
  have hE : BaseE (w.heap.size + 1) (w.alloc (.cells #[.slice none 0 0, .string ⟨#[]⟩, .int .i64 0, .bool false] 34)) := (hE0.below (below_down hb0 hE0.base.size)).up (by have := hE0.base.size; omega) (by omega)
  obtain ⟨hp1, hp2⟩ := pairs_ok hok
  have hRD := Lib.hid (fun W (hB : Base (w.heap.size + 1) W) => readable_calls (pairs its) W hB hp1 hp2 (by rw [textOf_pairs]; exact hsz))
  rw [textOf_pairs] at hRD
  have HVER := Lib.hid (VerOk.run (s := RS.start) ⟨by decide, by decide⟩ hok)
  have HRS := Lib.hid (RSok.start.run hok)
  have HE := Lib.hid hE
  have HOK := Lib.hid hok
  have HOP := Lib.hid hopn
  have HFR := Lib.hid hfr
  have HZ0 : Hid (Lies (w.alloc (.cells #[.slice none 0 0, .string ⟨#[]⟩, .int .i64 0, .bool false] 34)) w.heap.size 34 #[.slice none 0 0, .string ⟨#[]⟩, .int .i64 0, .bool false]) := Lib.hid hz0
  have HB0 := Lib.hid hb0
  clear hE hE0 hp1 hp2 hok hopn hfr hz0 hb0
  have hcv : ∀ W, (convert 9 68 (.string (bs (restT its)))).run Tryz.prog W = .ok (.slice (some ⟨W.heap.size, 0, none⟩) (restT its).length (grownCap W (restT its).length 0 5)) (Lib.bytesWorld W 5 (bs (restT its))) := by
    intro W
    rw [Lib.run_convert_string_bytes W _ _ _ _ Tryz.underlying9 Tryz.underlying68 Tryz.underlying5, bs_size]
  go_enter Tryz.func6, Tryz.ntmps6
  go_upto_region 4 with (first
    | (go_at_call 18; refine (hRD.out _ HE.out.base).mono ?_; rintro e w1 ⟨rfl, hb1⟩; have HB1 := Lib.hid hb1; clear hb1)
    | (go_at_call 19; refine (NewMaster_calls _).mono ?_; rintro e w2 ⟨rfl, hP2, hb2, hs2⟩; have HP2 := Lib.hid hP2; have HB2 := Lib.hid hb2; have HS2 := Lib.hid hs2; clear hP2 hb2 hs2))
  have hw1 : w.heap.size + 1 ≤ w1.heap.size := by have := HB1.out.size; omega
  have HBa : Hid (Below (w.heap.size + 1) (w.alloc (.cells #[.slice none 0 0, .string ⟨#[]⟩, .int .i64 0, .bool false] 34)) w2) := Lib.hid ((below_down HB1.out (by omega)).trans (below_down HB2.out hw1))
  go_cut [7] from 13 to 24 (fun v7 wx => errOf (RS.start.run (its.map Prod.fst)).m3u v7 ∧ DoneAt (w.heap.size + 1) w1.heap.size wx (RS.start.run (its.map Prod.fst)) ∧ Below (w.heap.size + 1) w2 wx)
  case first =>
    go_wp2_with (first
      | (go_at_call 21; refine (NewReader_calls _ _ ⟨_, _, _, rfl⟩).mono ?_; rintro e w3 ⟨rfl, rfl⟩)
      | (go_at_call 20; refine (DecodeFrom_calls (N := w.heap.size + 1) (P := w1.heap.size) (R := (Lib.bytesWorld w2 5 (bs (restT its))).heap.size) (X := w2.heap.size) its _ (HE.out.below (HBa.out.trans (below_down (rdr_below w2 _ _) (by have := HS2.out; omega)))) (HP2.out.below (rdr_below w2 _ _)) hw1 (by have := HS2.out; omega) (rdr_new w2 _ _ (grownCap_ge _ _ _ _) (by omega)) HOK.out HOP.out HFR.out).mono ?_; rintro e w4 ⟨v, rfl, hv1, hv2, hv3⟩; have HV := Lib.hid (And.intro hv1 (And.intro hv2 hv3)); clear hv1 hv2 hv3))
    go_meet
    exact ⟨HV.out.1, HV.out.2.1, (below_down (rdr_below w2 _ _) (by have := HS2.out; omega)).trans HV.out.2.2⟩
  case rest =>
    obtain ⟨hv, hdone, hbx⟩ := hcut
    have hzc := ((HZ0.out.lowB (by omega) HBa.out).lowB (by omega) hbx)
    have HZC := Lib.hid hzc
    have HDONE := Lib.hid hdone
    have HBX := Lib.hid hbx
    have HBW : Hid (Below w.heap.size w wc) := Lib.hid (HB0.out.trans (below_le (HBa.out.trans HBX.out) (by omega)))
    have hwc : w.heap.size ≤ wc.heap.size := HBW.out.size
    clear hdone hbx hzc
    cases hm3 : (RS.start.run (its.map Prod.fst)).m3u
    · rw [hm3] at hv
      obtain ⟨et, ea, rfl⟩ := hv
      have z0 := HZC.out.cell 0
      have z1 := HZC.out.cell 1
      have z2 := HZC.out.cell 2
      have z3 := HZC.out.cell 3
      have f0 := HZC.out.frozen 0
      have f1 := HZC.out.frozen 1
      have f2 := HZC.out.frozen 2
      have f3 := HZC.out.frozen 3
      simp only [List.getElem?_toArray, List.getElem?_cons_zero, List.getElem?_cons_succ] at z0 z1 z2 z3
      go_wp2_with fail
      refine bodyPost_ret (v := .tuple #[MasterZ, .bool false]) (by simp [results, Tryz.results6, go_sem, MasterZ, z0, z1, z2, z3]) rfl ⟨?_, by rw [hm3]; rfl⟩
      exact (((HBW.out.setCell (Nat.le_refl _) _).setCell (Nat.le_refl _) _).setCell (Nat.le_refl _) _).setCell (Nat.le_refl _) _
    · rw [hm3] at hv
      have hv' : _ = Value.nilIface := hv
      subst hv'
      have hver := HVER.out
      have HMO := Lib.hid (masterOf_calls (w.heap.size + 1) w1.heap.size (RS.start.run (its.map Prod.fst)) wc HDONE.out hver.lo hver.hi (by have := HRS.out.nv; omega) HRS.out.na)
      clear hver
      go_wp2_with (go_at_call 22; refine HMO.out.mono ?_; rintro e w5 ⟨sl, rfl, hres, hb5⟩; obtain ⟨slA, slN, slC, hsl⟩ := hres.form; subst hsl; have HRES := Lib.hid hres; have HB5 := Lib.hid hb5; have HZ5 := Lib.hid (HZC.out.below hb5); clear hres hb5; have z0 := HZ5.out.cell 0; have z1 := HZ5.out.cell 1; have z2 := HZ5.out.cell 2; have z3 := HZ5.out.cell 3; have f0 := HZ5.out.frozen 0; have f1 := HZ5.out.frozen 1; have f2 := HZ5.out.frozen 2; have f3 := HZ5.out.frozen 3; simp only [List.getElem?_toArray, List.getElem?_cons_zero, List.getElem?_cons_succ] at z0 z1 z2 z3)
      refine bodyPost_ret (v := .tuple #[.agg #[.slice slA slN slC, .string ⟨#[]⟩, .int .i64 (RS.start.run (its.map Prod.fst)).ver, .bool (RS.start.run (its.map Prod.fst)).ind], .bool true]) (by simp [results, Tryz.results6, go_sem, z0, z1, z2, z3]) rfl ⟨?_, by rw [hm3]; exact ⟨.slice slA slN slC, rfl, ((((HRES.out.mono hwc).set HZ5.out 0 _).set (HZ5.out.set 0 _) 1 _).set ((HZ5.out.set 0 _).set 1 _) 2 _).set (((HZ5.out.set 0 _).set 1 _).set 2 _) 3 _⟩⟩
      exact ((((HBW.out.trans (below_down HB5.out hwc)).setCell (Nat.le_refl _) _).setCell (Nat.le_refl _) _).setCell (Nat.le_refl _) _).setCell (Nat.le_refl _) _
end Go.Proofs.YtlghdacdpkaoeaaGreatDoor
end
section
namespace Go.Proofs.YtlghdacdpkaoeaaGreatDoor
open Go.RowKit Go.Proofs.YtlghdacdpkaoeaaGreatDoorW.PrintWords Go.Maps Go.Proofs.YtlghdacdpkaoeaaGreatDoor.PFnMasterLoose
open Go.Lib hiding intOf
set_option linter.unusedVariables false
set_option linter.unusedSimpArgs false
instance : DecidableEq AltR := fun a b => decidable_of_iff (a.typ = b.typ ∧ a.group = b.group ∧ a.name = b.name ∧ a.dflt = b.dflt ∧ a.auto = b.auto ∧ a.lang = b.lang ∧ a.uri = b.uri) (by
  obtain ⟨a1, a2, a3, a4, a5, a6, a7⟩ := a
  obtain ⟨b1, b2, b3, b4, b5, b6, b7⟩ := b
  simp)
def VarR.s (v : VarR) : S44 := ⟨bs v.uri, v.program, v.bandwidth, v.average, bs v.codecs, v.width, v.height, bs v.audio, bs v.video, bs v.subtitles, bs v.captions, bs v.name, v.rate⟩
abbrev altA (a : AltR) : Array Value := #[.string (bs a.typ), .string (bs a.group), .string (bs a.name), .bool a.dflt, .string (bs a.auto), .string (bs a.lang), .string (bs a.uri)]
abbrev varA (v : VarR) : Array Value := #[.string (bs v.uri), .int .u32 v.program, .int .u32 v.bandwidth, .int .u32 v.average, .string (bs v.codecs), .int .u32 v.width, .int .u32 v.height, .string (bs v.audio), .string (bs v.video), .string (bs v.subtitles), .string (bs v.captions), .string (bs v.name), .int .i64 v.rate]
theorem bs_beq (a b : List UInt8) : ((bs a).toList == (bs b).toList) = decide (a = b) := by
  rw [bs_eqList, bs_eqList, Bool.eq_iff_iff]; simp
theorem alt_beq (a b : AltR) : (((bs a.typ).toList == (bs b.typ).toList) && (((bs a.group).toList == (bs b.group).toList) && (((bs a.name).toList == (bs b.name).toList) && ((a.dflt == b.dflt) && (((bs a.auto).toList == (bs b.auto).toList) && (((bs a.lang).toList == (bs b.lang).toList) && ((bs a.uri).toList == (bs b.uri).toList))))))) = decide (a = b) := by
  simp only [bs_beq]
  obtain ⟨a1, a2, a3, a4, a5, a6, a7⟩ := a
  obtain ⟨b1, b2, b3, b4, b5, b6, b7⟩ := b
  rw [Bool.eq_iff_iff]
  simp only [AltR.mk.injEq, Bool.and_eq_true, decide_eq_true_eq, beq_iff_eq]
theorem run_equal_alt (d : Nat) (w : World) (a b : AltR) : (Op.equalIn (d + 2) 55 (.agg (altA a)) (.agg (altA b))).run Tryz.prog w = .ok (decide (a = b)) w := by
  have h : (Op.equalIn (d + 2) 55 (.agg (altA a)) (.agg (altA b))).run Tryz.prog w = .ok (((bs a.typ).toList == (bs b.typ).toList) && (((bs a.group).toList == (bs b.group).toList) && (((bs a.name).toList == (bs b.name).toList) && ((a.dflt == b.dflt) && (((bs a.auto).toList == (bs b.auto).toList) && (((bs a.lang).toList == (bs b.lang).toList) && ((bs a.uri).toList == (bs b.uri).toList))))))) w := by
    refine eqA_of Tryz.underlying55 (by kernel_rfl) ?_
    refine eqf_cons (by rfl) (by go_simp; rfl) (by go_simp; rfl) (by go_simp) ?_
    refine eqf_cons (by rfl) (by go_simp; rfl) (by go_simp; rfl) (by go_simp) ?_
    refine eqf_cons (by rfl) (by go_simp; rfl) (by go_simp; rfl) (by go_simp) ?_
    refine eqf_cons (by rfl) (by go_simp; rfl) (by go_simp; rfl) (by go_simp) ?_
    refine eqf_cons (by rfl) (by go_simp; rfl) (by go_simp; rfl) (by go_simp) ?_
    refine eqf_cons (by rfl) (by go_simp; rfl) (by go_simp; rfl) (by go_simp) ?_
    exact eqf_last (by rfl) (by go_simp; rfl) (by go_simp; rfl) (by go_simp)
  rw [h, alt_beq]
theorem run_eql_alt (w : World) (a b : AltR) : (binOp .eql 55 (.agg (altA a)) (.agg (altA b))).run Tryz.prog w = .ok (.bool (decide (a = b))) w := by
  rw [run_eql_struct, run_equal_alt 9998 w a b]; rfl
def newAlts : List AltR → List AltR → List AltR
  | _, [] => []
  | wr, a :: l => if a ∈ wr then newAlts wr l else a :: newAlts (wr ++ [a]) l
def varItems (fr : Bool) (v : VarR) : List Item := if fr then [.fr v] else [.inf v, .uri v.uri]
def bodyItems (alts : List AltR) : List AltR → List VarR → List Bool → List Item
  | _, [], _ => []
  | wr, v :: vs, fs => (newAlts wr (alts.filter v.has)).map .alt ++ varItems (fs.headD false) v ++ bodyItems alts (wr ++ newAlts wr (alts.filter v.has)) vs fs.tail
def headItems (ver : Nat) (ind : Bool) : List Item := .m3u :: .ver ver :: (if ind then [.indep] else [])
def itemsText (l : List Item) : List UInt8 := unlines (l.map Item.line)
theorem itemsText_append (a b : List Item) : itemsText (a ++ b) = itemsText a ++ itemsText b := by simp [itemsText, unlines_append]
theorem itemsText_one (x : Item) : itemsText [x] = x.line ++ [10] := by simp [itemsText, unlines]
theorem Of_calls (ver : Int) (ind : Bool) (alts : List AltR) (vars : List VarR) (A2 A3 : Option Addr) (c2 c3 : Nat) (v : VarR) (w : World) (h2 : Kd.C k55 w A2 alts.length (alts.map AltR.s)) (hc2 : alts.length ≤ c2)
    (h3 : Kd.C k44 w A3 vars.length (vars.map VarR.s)) (hc3 : vars.length ≤ c3) (hl : alts.length ≤ 1000) :
    Calls Tryz.prog 8 #[.agg #[.int .i64 ver, .bool ind, .slice A2 alts.length c2, .slice A3 vars.length c3], .agg (varA v)] w fun e w' => ∃ A c, e = .returned (.slice A (alts.filter v.has).length c) ∧ (alts.filter v.has).length ≤ c ∧ Kd.R k55 55 w' w.heap.size (fun _ => True) (.slice A (alts.filter v.has).length c) ((alts.filter v.has).map AltR.s) ∧ Below w.heap.size w w' := by
  have e2 : (alts.map AltR.s).length = alts.length := by simp
  have e3 : (vars.map VarR.s).length = vars.length := by simp
  have hf : spec_Master_Of.f 4000 ver ind (alts.map AltR.s) (vars.map VarR.s) (bs v.uri) (v.program : Int) (v.bandwidth : Int) (v.average : Int) (bs v.codecs) (v.width : Int) (v.height : Int) (bs v.audio) (bs v.video) (bs v.subtitles) (bs v.captions) (bs v.name) (v.rate : Int) = some ((alts.filter v.has).map AltR.s) := by
    have h := of_l v alts hl alts.length 0 4000 [] (by omega) (by omega) (by omega) (by simp; omega)
    unfold spec_Master_Of.f
    simpa [e2] using h
  have h := spec_Master_Of.calls 4000 ver ind A2 c2 (alts.map AltR.s) A3 c3 (vars.map VarR.s) _ _ _ _ _ _ _ _ _ _ _ _ _ _ w (by rw [e2]; exact h2) (by rw [e2]; exact hc2) (by rw [e3]; exact h3) (by rw [e3]; exact hc3) hf
  rw [e2, e3] at h
  refine h.mono ?_
  rintro e w' ⟨v0, rfl, hr, hb⟩
  obtain ⟨A, c, rfl, hl, hC⟩ := Kd.R_reads hr
  rw [List.length_map] at hr hl ⊢
  exact ⟨A, c, rfl, hl, hr, hb⟩
theorem altAttrs_calls (a : AltR) (w : World) (hs : a.Small) :
    Calls Tryz.prog 14 #[.agg (altA a)] w fun e w' => ∃ A c, e = .returned (.slice A a.attrs.length c) ∧ a.attrs.length ≤ c ∧ Kd.C Kd.string w' A a.attrs.length (a.attrs.map fun x => bs x.text) ∧ Below w.heap.size w w' := by
  refine (spec_Alternative_attributes.calls 10 _ _ _ _ _ _ _ _ w (alt_attrs_f a hs)).mono ?_
  rintro e w' ⟨v0, rfl, hr, hb⟩
  obtain ⟨A, c, rfl, hl, hC⟩ := Kd.R_reads hr
  simp only [List.length_map] at hl hC ⊢
  exact ⟨A, c, rfl, hl, hC, hb⟩
theorem varAttrs_calls (v : VarR) (w : World) (hs : v.Small) :
    Calls Tryz.prog 16 #[.agg (varA v)] w fun e w' => ∃ A c, e = .returned (.slice A v.attrs.length c) ∧ v.attrs.length ≤ c ∧ Kd.C Kd.string w' A v.attrs.length (v.attrs.map fun x => bs x.text) ∧ Below w.heap.size w w' := by
  refine (spec_Variant_attributes.calls 30 _ _ _ _ _ _ _ _ _ _ _ _ _ _ w (var_attrs_f v hs)).mono ?_
  rintro e w' ⟨v0, rfl, hr, hb⟩
  obtain ⟨A, c, rfl, hl, hC⟩ := Kd.R_reads hr
  simp only [List.length_map] at hl hC ⊢
  exact ⟨A, c, rfl, hl, hC, hb⟩
theorem frames_calls (v : VarR) (w : World) (hs : v.Small) :
    Calls Tryz.prog 15 #[.agg (varA v)] w fun e w' => e = .returned (.string (bs (frHead ++ attrsText v.frAttrs ++ [10]))) ∧ Below w.heap.size w w' :=
  spec_Variant_Frames.calls 30 _ _ _ _ _ _ _ _ _ _ _ _ _ _ w (frames_f v hs)
theorem joined_calls (ats : List Attr) (A : Option Addr) (c : Nat) (w : World) (h0 : ats ≠ []) (hn : ats.length ≤ 1000) (hs : (attrsText ats).length ≤ 200000) (hC : Kd.C Kd.string w A ats.length (ats.map fun x => bs x.text)) (hc : ats.length ≤ c) :
    Calls Tryz.prog 13 #[.slice A ats.length c] w fun e w' => e = .returned (.string (bs (attrsText ats))) ∧ Drawn0 w w' := by
  have e1 : (ats.map fun x => bs x.text).length = ats.length := by simp
  have h := spec_joined.calls 2000 A c (ats.map fun x => bs x.text) _ w (by rw [e1]; exact hC) (by rw [e1]; exact hc) (joined_f ats 2000 h0 hn (by omega) hs)
  rwa [e1] at h
end Go.Proofs.YtlghdacdpkaoeaaGreatDoor
end
section
namespace Go.Proofs.YtlghdacdpkaoeaaGreatDoor
open Go.RowKit Go.Proofs.YtlghdacdpkaoeaaGreatDoorW.PrintWords Go.Maps
open Go.Lib hiding intOf
set_option linter.unusedVariables false
set_option linter.unusedSimpArgs false
def wrtAll (alts : List AltR) : List AltR → List VarR → List AltR
  | wr, [] => wr
  | wr, v :: vs => wrtAll alts (wr ++ newAlts wr (alts.filter v.has)) vs
theorem newAlts_mem : ∀ (l wr : List AltR) (a : AltR), a ∈ wr ++ newAlts wr l ↔ a ∈ wr ∨ a ∈ l
  | [], wr, a => by simp [newAlts]
  | b :: l, wr, a => by
    rw [newAlts]
    split
    · rename_i h
      rw [newAlts_mem l wr a, List.mem_cons]
      constructor
      · rintro (h1 | h1)
        · exact .inl h1
        · exact .inr (.inr h1)
      · rintro (h1 | rfl | h1)
        · exact .inl h1
        · exact .inl h
        · exact .inr h1
    · have h := newAlts_mem l (wr ++ [b]) a
      rw [List.append_assoc, List.singleton_append] at h
      rw [h]
      simp [or_assoc]
theorem newAlts_nodup : ∀ (l wr : List AltR), wr.Nodup → (wr ++ newAlts wr l).Nodup
  | [], wr, h => by simpa [newAlts] using h
  | b :: l, wr, h => by
    rw [newAlts]
    split
    · exact newAlts_nodup l wr h
    · rename_i hb
      have h1 := newAlts_nodup l (wr ++ [b]) (by
        rw [List.nodup_append]
        refine ⟨h, by simp, ?_⟩
        intro a ha c hc e
        simp at hc
        subst hc; subst e
        exact hb ha)
      rwa [List.append_assoc] at h1
theorem nodup_len : ∀ (l m : List AltR), l.Nodup → (∀ a ∈ l, a ∈ m) → l.length ≤ m.length
  | [], m, _, _ => by simp
  | a :: l, m, h, hm => by
    rw [List.nodup_cons] at h
    have ha := hm a (by simp)
    have h1 := nodup_len l (m.erase a) h.2 (fun b hb => (List.mem_erase_of_ne (fun e => by subst e; exact h.1 hb)).2 (hm b (by simp [hb])))
    rw [List.length_erase_of_mem ha] at h1
    have h2 : 0 < m.length := List.length_pos_of_mem ha
    rw [List.length_cons]; omega
theorem wrtAll_nodup (alts : List AltR) : ∀ (vs : List VarR) (wr : List AltR), wr.Nodup → (wrtAll alts wr vs).Nodup
  | [], wr, h => h
  | v :: vs, wr, h => wrtAll_nodup alts vs _ (newAlts_nodup _ _ h)
theorem wrtAll_mem (alts : List AltR) (a : AltR) : ∀ (vs : List VarR) (wr : List AltR), a ∈ wrtAll alts wr vs ↔ a ∈ wr ∨ (a ∈ alts ∧ ∃ v ∈ vs, v.has a = true)
  | [], wr => by simp [wrtAll]
  | v :: vs, wr => by
    rw [wrtAll, wrtAll_mem alts a vs, newAlts_mem, List.mem_filter]
    constructor
    · rintro ((h | ⟨h1, h2⟩) | ⟨h1, u, hu, h2⟩)
      · exact .inl h
      · exact .inr ⟨h1, v, by simp, h2⟩
      · exact .inr ⟨h1, u, by simp [hu], h2⟩
    · rintro (h | ⟨h1, u, hu, h2⟩)
      · exact .inl (.inl h)
      · rcases List.mem_cons.1 hu with rfl | hu
        · exact .inl (.inr ⟨h1, h2⟩)
        · exact .inr ⟨h1, u, hu, h2⟩
theorem wrtAll_len (alts : List AltR) : ∀ (vs : List VarR) (wr : List AltR), wr.length ≤ (wrtAll alts wr vs).length
  | [], wr => Nat.le_refl _
  | v :: vs, wr => Nat.le_trans (by simp) (wrtAll_len alts vs (wr ++ newAlts wr (alts.filter v.has)))
theorem wrtAll_alts {alts : List AltR} {vs : List VarR} : (wrtAll alts [] vs).length ≤ alts.length :=
  nodup_len _ _ (wrtAll_nodup alts vs [] (by simp)) (fun a ha => by
    rcases (wrtAll_mem alts a vs []).1 ha with h | h
    · simp at h
    · exact h.1)
theorem wrtAll_nil : ∀ (vs : List VarR), wrtAll [] [] vs = []
  | [] => rfl
  | v :: vs => by simpa [wrtAll, newAlts] using wrtAll_nil vs
theorem wrt_count {alts : List AltR} {vs : List VarR} (hn : alts.Nodup) {v : VarR} (hv : v ∈ vs) : ((wrtAll alts [] vs).filter fun a => v.has a).length = (alts.filter v.has).length := by
  apply Nat.le_antisymm
  · refine nodup_len _ _ ((wrtAll_nodup alts vs [] (by simp)).filter _) (fun a ha => ?_)
    rw [List.mem_filter] at ha ⊢
    rcases (wrtAll_mem alts a vs []).1 ha.1 with h | h
    · simp at h
    · exact ⟨h.1, ha.2⟩
  · refine nodup_len _ _ (hn.filter _) (fun a ha => ?_)
    rw [List.mem_filter] at ha ⊢
    exact ⟨(wrtAll_mem alts a vs []).2 (.inr ⟨ha.1, v, hv, ha.2⟩), ha.2⟩
def varS (fr : Bool) (v : VarR) : VarS := if fr then ⟨true, v, []⟩ else ⟨false, v, v.uri⟩
def varsS : List VarR → List Bool → List VarS
  | [], _ => []
  | v :: vs, fs => varS (fs.headD false) v :: varsS vs fs.tail
theorem varS_v (fr : Bool) (v : VarR) : (varS fr v).v = v := by cases fr <;> rfl
theorem varsS_v : ∀ (vs : List VarR) (fs : List Bool), (varsS vs fs).map VarS.v = vs
  | [], _ => rfl
  | v :: vs, fs => by simp [varsS, varS_v, varsS_v vs]
theorem varsS_length (vs : List VarR) (fs : List Bool) : (varsS vs fs).length = vs.length := by
  have := congrArg List.length (varsS_v vs fs); simpa using this
theorem varsS_fr : ∀ (vs : List VarR) (fs : List Bool), (∀ f ∈ fs, f = false) → ∀ x ∈ varsS vs fs, x.fr = false
  | [], _, _, x, hx => by simp [varsS] at hx
  | v :: vs, fs, h, x, hx => by
    rcases List.mem_cons.1 hx with rfl | hx
    · cases fs with
      | nil => rfl
      | cons f fs => rw [List.headD_cons, h f (by simp)]; rfl
    · exact varsS_fr vs fs.tail (fun f hf => h f (List.mem_of_mem_tail hf)) x hx
theorem run_alts : ∀ (news : List AltR) (s : RS), s.run (news.map .alt) = { s with alts := s.alts ++ news }
  | [], s => by simp [RS.run]
  | a :: r, s => by
    have h := run_alts r (s.step (.alt a))
    simp only [RS.run, List.map_cons, List.foldl_cons] at h ⊢
    rw [h]
    simp [RS.step]
theorem okay_alts : ∀ (news : List AltR) (s : RS), (∀ a ∈ news, a.Good) → s.alts.length + news.length ≤ 1000 → s.okay (news.map .alt)
  | [], s, _, _ => trivial
  | a :: r, s, hg, hn => by
    rw [List.length_cons] at hn
    refine ⟨hg a (by simp), ?_, okay_alts r _ (fun b hb => hg b (by simp [hb])) ?_⟩
    · show s.alts.length < 1000
      omega
    · simp only [RS.step, List.length_append, List.length_cons, List.length_nil]; omega
theorem run_var (fr : Bool) (v : VarR) (s : RS) (h : s.opn = none) : s.run (varItems fr v) = { s with vars := s.vars ++ [varS fr v] } := by
  cases s; cases h
  cases fr <;> simp [RS.run, varItems, RS.step, varS]
theorem okay_var (fr : Bool) (v : VarR) (s : RS) (h : s.opn = none) (hg : v.Good) (hf : fr = true → s.alts = []) (hn : s.vars.length < 1000) : s.okay (varItems fr v) := by
  cases fr
  · exact ⟨hg, ⟨h, hn⟩, ⟨hg.uri.1, hg.uri.2.2, hg.uri.2.1⟩, by simp [RS.can, RS.step], trivial⟩
  · exact ⟨hg, ⟨h, hf rfl, hn⟩, trivial⟩
theorem body_run (alts : List AltR) : ∀ (vs : List VarR) (fs : List Bool) (s : RS), s.opn = none → s.run (bodyItems alts s.alts vs fs) = { s with alts := wrtAll alts s.alts vs, vars := s.vars ++ varsS vs fs }
  | [], fs, s, h => by simp [RS.run, bodyItems, wrtAll, varsS]
  | v :: vs, fs, s, h => by
    rw [bodyItems, RS.run_append, RS.run_append, run_alts, run_var _ _ _ (by exact h)]
    have h1 := body_run alts vs fs.tail { s with alts := s.alts ++ newAlts s.alts (alts.filter v.has), vars := s.vars ++ [varS (fs.headD false) v] } h
    simp only at h1
    rw [h1]
    simp [wrtAll, varsS]
theorem newAlts_sub {l wr : List AltR} {a : AltR} (h : a ∈ newAlts wr l) : a ∈ wr ∨ a ∈ l := (newAlts_mem l wr a).1 (by simp [h])
theorem body_okay (alts : List AltR) (hg : ∀ a ∈ alts, a.Good) : ∀ (vs : List VarR) (fs : List Bool) (s : RS), s.opn = none → (∀ a ∈ s.alts, a.Good) → (∀ v ∈ vs, v.Good) → (wrtAll alts s.alts vs).length ≤ 1000 → s.vars.length + vs.length ≤ 1000 →
    (alts = [] ∧ s.alts = [] ∨ ∀ f ∈ fs, f = false) → s.okay (bodyItems alts s.alts vs fs)
  | [], fs, s, _, _, _, _, _, _ => trivial
  | v :: vs, fs, s, h, hga, hgv, hw, hn, hf => by
    have hgn : ∀ a ∈ newAlts s.alts (alts.filter v.has), a.Good := fun a ha => by
      rcases newAlts_sub ha with h1 | h1
      · exact hga a h1
      · exact hg a (List.mem_filter.1 h1).1
    rw [List.length_cons] at hn
    have hl := wrtAll_len alts vs (s.alts ++ newAlts s.alts (alts.filter v.has))
    rw [wrtAll] at hw
    rw [List.length_append] at hl
    rw [bodyItems, RS.okay_append, RS.okay_append]
    refine ⟨⟨okay_alts _ _ hgn (by omega), ?_⟩, ?_⟩
    · rw [run_alts]
      refine okay_var _ _ _ h (hgv v (by simp)) (fun e => ?_) (by simp only; omega)
      rcases hf with ⟨h1, h2⟩ | hf
      · subst h1; simp [h2, newAlts]
      · cases fs with
        | nil => simp at e
        | cons f r => have := hf f (by simp); subst this; simp at e
    · rw [RS.run_append, run_alts, run_var _ _ _ (by exact h)]
      refine body_okay alts hg vs fs.tail { s with alts := s.alts ++ newAlts s.alts (alts.filter v.has), vars := s.vars ++ [varS (fs.headD false) v] } h ?_ (fun u hu => hgv u (by simp [hu])) hw ?_ ?_
      · intro a ha
        rcases List.mem_append.1 ha with ha | ha
        · exact hga a ha
        · exact hgn a ha
      · simp only [List.length_append, List.length_cons, List.length_nil]; omega
      · rcases hf with ⟨h1, h2⟩ | hf
        · subst h1; exact .inl ⟨rfl, by simp [h2, newAlts]⟩
        · exact .inr (fun f hf' => hf f (List.mem_of_mem_tail hf'))
theorem items_le {K : Nat} : ∀ {l : List Item}, (∀ it ∈ l, it.line.length ≤ K) → (itemsText l).length ≤ (K + 1) * l.length
  | [], _ => by simp [itemsText, unlines]
  | x :: r, h => by
    have h1 := h x (by simp)
    have h2 := items_le (l := r) (fun y hy => h y (by simp [hy]))
    have e : itemsText (x :: r) = x.line ++ 10 :: itemsText r := rfl
    rw [e]
    simp only [List.length_append, List.length_cons, Nat.mul_add]
    omega
theorem alts_len {news : List AltR} (h : ∀ a ∈ news, a.Good) : (itemsText (news.map .alt)).length ≤ 441 * news.length := by
  have h1 := items_le (K := 440) (l := news.map .alt) (fun it hit => by
    obtain ⟨a, ha, rfl⟩ := List.mem_map.1 hit
    have := AltR.Good.len (h a ha)
    simp [Item.line, altHead]; omega)
  rwa [List.length_map] at h1
theorem var_len (fr : Bool) {v : VarR} (h : v.Good) : (itemsText (varItems fr v)).length ≤ 735 := by
  have h1 := VarR.Good.len h
  have h2 := VarR.Good.flen h
  have h3 := h.uri.2.1
  cases fr
  · simp [varItems, itemsText, unlines, Item.line, infHead]; omega
  · simp [varItems, itemsText, unlines, Item.line, frHead]; omega
theorem var_items (fr : Bool) (v : VarR) : (varItems fr v).length ≤ 2 := by cases fr <;> simp [varItems]
theorem body_len (alts : List AltR) (hg : ∀ a ∈ alts, a.Good) : ∀ (vs : List VarR) (fs : List Bool) (wr : List AltR), (∀ a ∈ wr, a.Good) → (∀ v ∈ vs, v.Good) →
    (itemsText (bodyItems alts wr vs fs)).length + 441 * wr.length ≤ 441 * (wrtAll alts wr vs).length + 735 * vs.length ∧ (bodyItems alts wr vs fs).length + wr.length ≤ (wrtAll alts wr vs).length + 2 * vs.length
  | [], fs, wr, _, _ => by simp [bodyItems, wrtAll, itemsText, unlines]
  | v :: vs, fs, wr, hga, hgv => by
    have hgn : ∀ a ∈ newAlts wr (alts.filter v.has), a.Good := fun a ha => by
      rcases newAlts_sub ha with h1 | h1
      · exact hga a h1
      · exact hg a (List.mem_filter.1 h1).1
    obtain ⟨h1, h2⟩ := body_len alts hg vs fs.tail (wr ++ newAlts wr (alts.filter v.has)) (fun a ha => by
      rcases List.mem_append.1 ha with ha | ha
      · exact hga a ha
      · exact hgn a ha) (fun u hu => hgv u (by simp [hu]))
    have h3 := alts_len hgn
    have h4 := var_len (fs.headD false) (hgv v (by simp))
    have h5 := var_items (fs.headD false) v
    rw [bodyItems, wrtAll, itemsText_append, itemsText_append]
    simp only [List.length_append, List.length_cons, List.length_map] at *
    omega
theorem head_len {ver : Nat} {ind : Bool} (h : ver < 256) : (itemsText (headItems ver ind)).length ≤ 100 ∧ (headItems ver ind).length ≤ 3 := by
  have := decDigits_len1 2 ver (by omega)
  cases ind <;> simp [headItems, itemsText, unlines, Item.line, m3uB, verHead, indB] <;> omega
def allItems (ver : Nat) (ind : Bool) (alts : List AltR) (vars : List VarR) (fs : List Bool) : List Item := headItems ver ind ++ bodyItems alts [] vars fs
structure Fit (ver : Nat) (alts : List AltR) (vars : List VarR) (fs : List Bool) : Prop where
  ver : ver < 256
  ga : ∀ a ∈ alts, a.Good
  gv : ∀ v ∈ vars, v.Good
  na : alts.length ≤ 4
  nv : vars.length ≤ 4
  nd : alts.Nodup
  fr : alts = [] ∨ ∀ f ∈ fs, f = false
def endRS (m3u : Bool) (ver : Nat) (ind : Bool) (alts : List AltR) (vars : List VarR) (fs : List Bool) : RS := ⟨m3u, ver, ind, wrtAll alts [] vars, varsS vars fs, none⟩
theorem all_run (ver : Nat) (ind : Bool) (alts : List AltR) (vars : List VarR) (fs : List Bool) : RS.start.run (allItems ver ind alts vars fs) = endRS true ver ind alts vars fs := by
  rw [allItems, RS.run_append]
  have h : RS.start.run (headItems ver ind) = ⟨true, ver, ind, [], [], none⟩ := by
    cases ind <;> simp [RS.run, headItems, RS.step, RS.start]
  rw [h]
  have h1 := body_run alts vars fs ⟨true, ver, ind, [], [], none⟩ rfl
  simp only [List.nil_append] at h1
  rw [h1]; rfl
theorem tail_run (ver : Nat) (ind : Bool) (alts : List AltR) (vars : List VarR) (fs : List Bool) : RS.start.run (allItems ver ind alts vars fs).tail = endRS false ver ind alts vars fs := by
  have e : (allItems ver ind alts vars fs).tail = (headItems ver ind).tail ++ bodyItems alts [] vars fs := by simp [allItems, headItems]
  rw [e, RS.run_append]
  have h : RS.start.run (headItems ver ind).tail = ⟨false, ver, ind, [], [], none⟩ := by
    cases ind <;> simp [RS.run, headItems, RS.step, RS.start]
  rw [h]
  have h1 := body_run alts vars fs ⟨false, ver, ind, [], [], none⟩ rfl
  simp only [List.nil_append] at h1
  rw [h1]; rfl
theorem all_okay {ver : Nat} {ind : Bool} {alts : List AltR} {vars : List VarR} {fs : List Bool} (h : Fit ver alts vars fs) : RS.start.okay (allItems ver ind alts vars fs) ∧ RS.start.okay (allItems ver ind alts vars fs).tail := by
  have hw : (wrtAll alts [] vars).length ≤ 1000 := Nat.le_trans wrtAll_alts (by have := h.na; omega)
  have hf : alts = [] ∧ ([] : List AltR) = [] ∨ ∀ f ∈ fs, f = false := by
    rcases h.fr with h1 | h1
    · exact .inl ⟨h1, rfl⟩
    · exact .inr h1
  have hB : ∀ m : Bool, RS.okay ⟨m, ver, ind, [], [], none⟩ (bodyItems alts [] vars fs) := fun m =>
    body_okay alts h.ga vars fs ⟨m, ver, ind, [], [], none⟩ rfl (by simp) h.gv hw (by have := h.nv; simp; omega) hf
  have e : (allItems ver ind alts vars fs).tail = (headItems ver ind).tail ++ bodyItems alts [] vars fs := by simp [allItems, headItems]
  rw [e, allItems, RS.okay_append, RS.okay_append]
  have e1 : RS.start.run (headItems ver ind) = ⟨true, ver, ind, [], [], none⟩ := by
    cases ind <;> simp [RS.run, headItems, RS.step, RS.start]
  have e2 : RS.start.run (headItems ver ind).tail = ⟨false, ver, ind, [], [], none⟩ := by
    cases ind <;> simp [RS.run, headItems, RS.step, RS.start]
  rw [e1, e2]
  refine ⟨⟨?_, hB true⟩, ⟨?_, hB false⟩⟩
  · cases ind
    · exact ⟨trivial, trivial, h.ver, trivial, trivial⟩
    · exact ⟨trivial, trivial, h.ver, trivial, trivial, trivial, trivial⟩
  · cases ind
    · exact ⟨h.ver, trivial, trivial⟩
    · exact ⟨h.ver, trivial, trivial, trivial, trivial⟩
theorem all_len {ver : Nat} {ind : Bool} {alts : List AltR} {vars : List VarR} {fs : List Bool} (h : Fit ver alts vars fs) : (itemsText (allItems ver ind alts vars fs)).length ≤ 5000 ∧ (allItems ver ind alts vars fs).length ≤ 15 := by
  have h1 := head_len (ind := ind) h.ver
  have h2 := body_len alts h.ga vars fs [] (by simp) h.gv
  have h3 := wrtAll_alts (alts := alts) (vs := vars)
  have h4 := h.na
  have h5 := h.nv
  rw [allItems, itemsText_append]
  simp only [List.length_append, List.length_nil] at *
  omega
theorem all_ne {ver : Nat} {ind : Bool} {alts : List AltR} {vars : List VarR} {fs : List Bool} (h : Fit ver alts vars fs) : ∀ it ∈ allItems ver ind alts vars fs, it.line ≠ [] := by
  have hv : ∀ (fr : Bool) (v : VarR), v.Good → ∀ it ∈ varItems fr v, it.line ≠ [] := by
    intro fr v hg it hit
    cases fr
    · simp only [varItems, List.mem_cons, List.not_mem_nil, or_false, Bool.false_eq_true, if_false] at hit
      rcases hit with rfl | rfl
      · simp [Item.line, infHead]
      · exact hg.uri.1.ne
    · simp only [varItems, List.mem_cons, List.not_mem_nil, or_false, if_true] at hit
      subst hit; simp [Item.line, frHead]
  have hb : ∀ (vs : List VarR) (fs : List Bool) (wr : List AltR), (∀ v ∈ vs, v.Good) → ∀ it ∈ bodyItems alts wr vs fs, it.line ≠ [] := by
    intro vs
    induction vs with
    | nil => intro fs wr _ it hit; simp [bodyItems] at hit
    | cons v vs ih =>
      intro fs wr hg it hit
      rw [bodyItems, List.mem_append, List.mem_append] at hit
      rcases hit with (hit | hit) | hit
      · obtain ⟨a, _, rfl⟩ := List.mem_map.1 hit
        simp [Item.line, altHead]
      · exact hv _ v (hg v (by simp)) it hit
      · exact ih _ _ (fun u hu => hg u (by simp [hu])) it hit
  intro it hit
  rcases List.mem_append.1 hit with hit | hit
  · cases ind <;> simp [headItems] at hit
    · rcases hit with rfl | rfl <;> simp [Item.line, m3uB, verHead]
    · rcases hit with rfl | rfl | rfl <;> simp [Item.line, m3uB, verHead, indB]
  · exact hb vars fs [] h.gv it hit
theorem all_head (ver : Nat) (ind : Bool) (alts : List AltR) (vars : List VarR) (fs : List Bool) : itemsText (allItems ver ind alts vars fs) = [35, 69, 88, 84, 77, 51, 85, 10] ++ itemsText (allItems ver ind alts vars fs).tail := by
  simp [allItems, headItems, itemsText, unlines, Item.line, m3uB]
end Go.Proofs.YtlghdacdpkaoeaaGreatDoor
end
