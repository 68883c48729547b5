import Derived.Test.YtlghdacdpkaoeaaGreatDoorK27
import Derived.Test.YtlghdacdpkaoeaaGreatDoorK22
import Derived.WalkKit
import Derived.Handy
import Derived.Deep.RegionLaw
import Derived.Deep.RegionHeld3
namespace Go.Proofs.YtlghdacdpkaoeaaGreatDoor
open Go.RowKit Go.Proofs.YtlghdacdpkaoeaaGreatDoorW.PrintWords Go.Maps
open Go.Lib hiding intOf
set_option linter.unusedVariables false
set_option linter.unusedSimpArgs false
def numOf (l : List UInt8) : Int := match Lib.atoi l with | some n => IntKind.u32.wrap n | none => 0
theorem numOf_dec (n : Nat) : numOf (decDigits n) = IntKind.u32.wrap n := by simp [numOf, atoi_dec]
def vCells (rate : List UInt8 → Nat) (f : List UInt8 → List UInt8) : Array Value :=
  #[.string (bs (f [85, 82, 73])), .pointer none, .int .u32 (numOf (f [80, 82, 79, 71, 82, 65, 77, 45, 73, 68])), .int .u32 (numOf (f [66, 65, 78, 68, 87, 73, 68, 84, 72])), .int .u32 (numOf (f [65, 86, 69, 82, 65, 71, 69, 45, 66, 65, 78, 68, 87, 73, 68, 84, 72])),
    .string (bs (f [67, 79, 68, 69, 67, 83])), .string (bs (f [82, 69, 83, 79, 76, 85, 84, 73, 79, 78])), .string (bs (f [65, 85, 68, 73, 79])), .string (bs (f [86, 73, 68, 69, 79])), .string (bs (f [83, 85, 66, 84, 73, 84, 76, 69, 83])),
    .string (bs (f [67, 76, 79, 83, 69, 68, 45, 67, 65, 80, 84, 73, 79, 78, 83])), .string (bs (f [78, 65, 77, 69])), .bool false, .string ⟨#[]⟩, .string ⟨#[]⟩, .float .f64 (rate (f [70, 82, 65, 77, 69, 45, 82, 65, 84, 69])), .slice none 0 0]
theorem infoVar : (Tryz.prog.info? 92).map (fun i => (i.zero, i.size, i.bytes)) = some (some (.pointer none), 1, 8) := by kernel_rfl
def v0Cells : Array Value := #[.string ⟨#[]⟩, .pointer none, .int .u32 0, .int .u32 0, .int .u32 0, .string ⟨#[]⟩, .string ⟨#[]⟩, .string ⟨#[]⟩, .string ⟨#[]⟩, .string ⟨#[]⟩, .string ⟨#[]⟩, .string ⟨#[]⟩, .bool false, .string ⟨#[]⟩, .string ⟨#[]⟩, .float .f64 0, .slice none 0 0]
theorem v0_is {rate : List UInt8 → Nat} (h : rate [] = 0) : v0Cells = vCells rate (fun _ => []) := by unfold vCells; rw [h]; rfl
def infW (w : World) (S : Nat) : World := (((w.setCell ⟨S, 2, none⟩ (.bool true)).setCell ⟨S, 0, none⟩ (.int .u64 1)).setCell ⟨S, 15, none⟩ (.pointer (some ⟨w.heap.size, 0, none⟩))).alloc (.cells v0Cells 98)
theorem infW_is {w : World} {S P : Nat} {m3u ind : Bool} {v al vs : Value} {ver : Int} (hS : StAt w S m3u false v al) (hP : PlAt w P vs ver ind) :
    StAt (infW w S) S m3u true (.pointer (some ⟨w.heap.size, 0, none⟩)) al ∧ PlAt (infW w S) P vs ver ind ∧ Lies (infW w S) w.heap.size 98 v0Cells ∧ But [S] w (infW w S) ∧ (infW w S).heap.size = w.heap.size + 1 := by
  have hne := Ne.symm (hS.nePl hP)
  refine ⟨(((hS.set2 true).set0 _).set15 _).alloc _, (((hP.other hne _).other hne _).other hne _).alloc _, ?_, ((((But.refl [S] w).set (by simp) _).set (by simp) _).set (by simp) _).alloc _, by simp [infW]⟩
  have := heap_alloc_new (((w.setCell ⟨S, 2, none⟩ (.bool true)).setCell ⟨S, 0, none⟩ (.int .u64 1)).setCell ⟨S, 15, none⟩ (.pointer (some ⟨w.heap.size, 0, none⟩))) (.cells v0Cells 98)
  have e : (((w.setCell ⟨S, 2, none⟩ (.bool true)).setCell ⟨S, 0, none⟩ (.int .u64 1)).setCell ⟨S, 15, none⟩ (.pointer (some ⟨w.heap.size, 0, none⟩))).heap.size = w.heap.size := by simp
  rwa [e] at this
def Num18 (l : List UInt8) : Prop := ∃ n : Nat, n < 1000000000000000000 ∧ l = decDigits n
def FloatOf (N : Nat) (l : List UInt8) (bits : Nat) : Prop := ∀ W, Base N W → Calls Tryz.prog 53 #[.string (bs l), .int .i64 64] W fun e w' => e = .returned (.tuple #[.float .f64 bits, .nilIface]) ∧ W = w'
def VarKey (N : Nat) (rate : List UInt8 → Nat) (a : Attr) : Prop :=
  a.name = [67, 79, 68, 69, 67, 83] ∨ a.name = [82, 69, 83, 79, 76, 85, 84, 73, 79, 78] ∨ a.name = [65, 85, 68, 73, 79] ∨ a.name = [86, 73, 68, 69, 79] ∨ a.name = [83, 85, 66, 84, 73, 84, 76, 69, 83] ∨ a.name = [67, 76, 79, 83, 69, 68, 45, 67, 65, 80, 84, 73, 79, 78, 83] ∨ a.name = [78, 65, 77, 69] ∨ (a.name = [80, 82, 79, 71, 82, 65, 77, 45, 73, 68] ∧ Num18 a.val) ∨ (a.name = [66, 65, 78, 68, 87, 73, 68, 84, 72] ∧ Num18 a.val) ∨ (a.name = [65, 86, 69, 82, 65, 71, 69, 45, 66, 65, 78, 68, 87, 73, 68, 84, 72] ∧ Num18 a.val) ∨ (a.name = [70, 82, 65, 77, 69, 45, 82, 65, 84, 69] ∧ FloatOf N a.val (rate a.val))
theorem row_iter {N : Nat} {H : Type} {w : World} {P : Program} {k : TypeId} {R : Value → Option (DataW H × List MemPlace)} {b r n cnt e m : Nat} {D : DataW H} {left : Lit → Bool} {u : Value} {xs : List Value} (h : w.ownsRow N e 1 u m xs) (hr : w.ranges P k R b r n D left cnt) {g : Nat} (hg : u.ownBlock = some g) : g ≠ r := by
  rintro rfl
  obtain ⟨es, clock, since, seen, c0, _, _, _, _, hb, _⟩ := hr
  rcases h.2 with ⟨rfl, _⟩ | ⟨g', cap, cu, rfl, _, hh, _⟩
  · cases hg
  · have e := Option.some.inj hg
    simp at e
    rw [← e, hh] at hb; cases hb
theorem bgset {w w' : World} (h : Below w.heap.size w w') (b i : Nat) (v : Value) : w.grownBy (w'.setCell ⟨b, i, none⟩ v) (some b) :=
  ⟨h.os, h.tape, h.output, by have := h.size; simp; omega, fun k hk hne => (heap_setCell_other _ _ _ _ (fun e => hne (by rw [e]))).trans (h.block k hk)⟩
theorem row_below {N : Nat} {w w' : World} {e : TypeId} {n k : Nat} {u : Value} {xs : List Value} (h : w.ownsRow N e k u n xs) (hb : Below w.heap.size w w') : w'.ownsRow N e k u n xs := by
  refine ⟨h.1, ?_⟩
  rcases h.2 with h | ⟨g, cap, cu, hv, h0, hh, hr⟩
  · exact .inl h
  · have hl : Lies w g e cu := hh
    exact .inr ⟨g, cap, cu, hv, h0, (hb.block g hl.lt).trans hh, hr⟩
theorem But.belowN {X : List Nat} {N : Nat} {w w' : World} (h : But X w w') (hx : ∀ k ∈ X, N ≤ k) (hN : N ≤ w.heap.size) : Below N w w' :=
  ⟨h.os, h.tape, h.output, h.size, fun k hk => h.block k (by omega) (fun e => by have := hx k e; omega)⟩
theorem Base.but {X : List Nat} {N : Nat} {w w' : World} (h : Base N w) (hb : But X w w') (hx : ∀ k ∈ X, N ≤ k) : Base N w' := h.below (hb.belowN hx h.size)
set_option maxRecDepth 100000 in
set_option maxHeartbeats 8000000 in
theorem line_inf {N : Nat} {H : Type} (rate : List UInt8 → Nat) (l ws : List UInt8) (ats : List Attr) (P S : Nat) (m3u ind : Bool) (v al vs : Value) (ver : Int) (nv : Nat) (vps : List Value) (w : World) (hB : Base N w) (h : Trimmed l) (hw : ∀ c ∈ ws, Lib.isSp c = true ∧ c < 128) (hs : l.length + ws.length ≤ 100000)
    (hS : StAt w S m3u false v al) (hP : PlAt w P vs ver ind) (hl : Kind l false false false false true false true)
    (hlz : Hid (18 ≤ (bs l).size)) (hx : Hid ((bs l).extract 18 (bs l).size = bs (attrsText ats))) (hok : ∀ a ∈ ats, a.Ok) (hnd : (ats.map Attr.name).Nodup) (hsz : (attrsText ats).length ≤ 100000)
    (hkey : ∀ a ∈ ats, VarKey N rate a) (hvs : w.ownsRow N 92 1 vs nv vps) (hnv : nv ≤ 100000) (hr0 : rate [] = 0) (hNP : N ≤ P) (hNS : N ≤ S) :
    Calls Tryz.prog 36 #[.pointer (some ⟨P, 0, none⟩), .pointer (some ⟨S, 0, none⟩), .string (bs (l ++ ws)), .bool true] w fun e w' => e = .returned .nilIface ∧ ∃ vs' V, StAt w' S m3u true (.pointer (some ⟨V, 0, none⟩)) al ∧ PlAt w' P vs' ver ind ∧ w'.ownsRow N 92 1 vs' (nv + 1) (vps ++ [.pointer (some ⟨V, 0, none⟩)]) ∧ Lies w' V 98 (vCells rate (valOf ats)) ∧ w.heap.size ≤ V ∧ But (P :: S :: vs.ownBlock.toList) w w' := by
  obtain ⟨i0, hi, hz0, hz1, hz2⟩ := info_parts infoVar
  have hT := TrimSpace_calls l ws w hB h hw hs
  have HP := Lib.hid (fun p W => HasPrefix_lit l p W)
  have HD := Lib.hid (fun W => decodeParamsLine_calls (H := H) ats W hok hsz)
  have HND := Lib.hid hnd
  have HK := Lib.hid hkey
  have hSt := Lib.hid hS
  have hPl := Lib.hid hP
  have hne := hS.nePl hP
  have hne' : P ≠ S := Ne.symm hne
  have hl18 := hlz.out
  obtain ⟨ha, hb, hc, hd, he, hf, hg⟩ := hl
  have HVS := Lib.hid hvs
  have HBL := Lib.hid (row_block hS hP hvs (by decide) (by decide))
  have HR0 := Lib.hid hr0
  have hN := hB.size
  have HBs := Lib.hid hB
  have hnx : ∀ k ∈ P :: S :: vs.ownBlock.toList, N ≤ k := by
    intro k hk
    simp at hk
    rcases hk with rfl | rfl | hk
    · exact hNP
    · exact hNS
    · exact own_base hvs _ hk
  have HNX := Lib.hid hnx
  clear h hw hs hB hS hP hnd hok hsz hvs hr0 hkey hnx
  go_enter Tryz.func36, Tryz.ntmps36
  go_upto_region 49 with (first
    | (go_at_call 46; refine hT.mono ?_; rintro e w1 ⟨rfl, hb1⟩; have hS1 := Lib.hid (hSt.out.below hb1); have hP1 := Lib.hid (hPl.out.below hb1); obtain ⟨⟨x0, c0⟩, c1, c2, c15, c16, f0, f1, f2, f15, f16⟩ := hS1.out.cells; obtain ⟨d0, d1, d6, d7, g0, g1, g6, g7⟩ := hP1.out.cells; have lS := hS1.out.lt; have lP := hP1.out.lt; clear hT hSt hPl)
    | (go_at_call 47; refine (HP.out _ _).mono ?_; rintro e w2 ⟨rfl, rfl⟩))
  refine (id ?_ : Code.wp _ _ _ _ (infW w2 S))
  obtain ⟨hS3, hP3, hV3, hB3, hz3⟩ := infW_is hS1.out hP1.out
  have hB3' : But [S] w (infW w2 S) := ((But.refl [S] w).below hb1).trans hB3
  have hww : w.heap.size ≤ w2.heap.size := hb1.size
  generalize hV : w2.heap.size = V at *
  generalize hW : infW w2 S = w3 at *
  clear c0 c1 c2 c15 c16 f0 f1 f2 f15 f16 d0 d1 d6 d7 g0 g1 g6 g7 hS1 hP1 hb1 hB3 hV hW
  have HV3 := Lib.hid hV3
  have HS3 := Lib.hid hS3
  have HP3 := Lib.hid hP3
  have HB3 := Lib.hid hB3'
  have hVS : V ≠ S := by omega
  have hVP : V ≠ P := by omega
  have HZ3 := Lib.hid hz3
  clear hV3 hS3 hP3 hB3' hz3
  go_cut [] from 154 to 166 (fun wx => ∃ vs', StAt wx S m3u true (.pointer (some ⟨V, 0, none⟩)) al ∧ PlAt wx P vs' ver ind ∧ wx.ownsRow N 92 1 vs' (nv + 1) (vps ++ [.pointer (some ⟨V, 0, none⟩)]) ∧ Lies wx V 98 v0Cells ∧ But (P :: S :: vs.ownBlock.toList) w wx)
  case first =>
    obtain ⟨⟨x0, c0⟩, c1, c2, c15, c16, f0, f1, f2, f15, f16⟩ := HS3.out.cells
    obtain ⟨d0, d1, d6, d7, g0, g1, g6, g7⟩ := HP3.out.cells
    have lS3 := HS3.out.lt
    have lP3 := HP3.out.lt
    have hown5 : w3.ownsRow N 92 1 vs nv vps := row_but HVS.out HB3.out (fun g hg => ⟨(HBL.out g hg).1, by simp; exact (HBL.out g hg).2.1⟩)
    have HOWN := Lib.hid (hown5.drew.alloc (.cells #[.pointer (some ⟨V, 0, none⟩)] 92))
    have HNEWS := Lib.hid (World.news_of_block (heap_alloc_new w3.drew (.cells #[.pointer (some ⟨V, 0, none⟩)] 92)))
    have HONE0 : ∀ u ∈ [Value.pointer (some ⟨V, 0, none⟩)], u.oneCell' = true := by intro u hu; simp at hu; subst hu; rfl
    have HONE := Lib.hid HONE0
    have hb63 : nv + 1 ≤ maxLen := by unfold maxLen; omega
    have hb47 : (nv + 1) * 8 ≤ 140737488355328 := by omega
    have hbase : N ≤ (w3.drew.alloc (.cells #[.pointer (some ⟨V, 0, none⟩)] 92)).heap.size := by have := HB3.out.size; simp; omega
    clear hown5 HONE0
    go_region_law (refine step_append_lies _ rfl _ _ 75 rfl N 92 i0 _ 1 8 Tryz.underlying75 hi hz0 hz1 hz2 rfl (by decide) _ _ _ rfl HOWN.out ⟨w3.heap.size, 0, none⟩ 1 1 [.pointer (some ⟨V, 0, none⟩)] rfl rfl HNEWS.out HONE.out (by decide) hb63 hb47 hbase _ rfl ?_; intro g cap w4 hown' hgrow hat hlt4; have hgrow' := Lib.hid hgrow; have hat' := Lib.hid hat; clear hgrow hat; have hS6 := Lib.hid (st_grown (o := .cells #[.pointer (some ⟨V, 0, none⟩)] 92) (w := w3.drew) HS3.out hgrow'.out (fun g hg => (HBL.out g hg).2.1)); have hP6 := Lib.hid (pl_grown (o := .cells #[.pointer (some ⟨V, 0, none⟩)] 92) (w := w3.drew) HP3.out hgrow'.out (fun g hg => (HBL.out g hg).2.2)); have hV6 := Lib.hid (lies_grown (o := .cells #[.pointer (some ⟨V, 0, none⟩)] 92) (w := w3.drew) HV3.out hgrow'.out (fun g hg => Nat.ne_of_lt (Nat.lt_of_lt_of_le (HBL.out g hg).1 hww))); obtain ⟨k0, k1, k6, k7, q0, q1, q6, q7⟩ := hP6.out.cells)
    all_goals
      go_wp2_with fail
      go_meet
      have hB6 : But (P :: S :: vs.ownBlock.toList) w w4 := (((HB3.out.mono (by simp)).alloc _).below ((Below.refl _ _).drew)).grown hgrow'.out (fun k hk => by
        have : vs.ownBlock = some k := hk
        simp [this])
      have hgP : g ≠ P := by
        rcases hat'.out with h | h
        · exact (HBL.out g h).2.2
        · have h2 : g = w3.heap.size + 1 := by simpa using h
          omega
      exact ⟨_, hS6.out.other hne _, hP6.out.set0 _, ownsRow_setCell_other hown' (by simp [Value.ownBlock]; exact hgP) _, hV6.out.other hVP _, hB6.set (by simp) _⟩
  case rest =>
    obtain ⟨vs', hS4, hP4, hrow4, hV4, hB4⟩ := hcut
    go_wp2_with (first
      | (go_at_call 50; rw [hx.out]; refine (HD.out _).mono ?_; rintro e w5 ⟨b, rfl, hown, hbb, hb5⟩)
      | (at_range; refine wpList_range_own _ rfl _ 131 rfl 9 9 law9 Tryz.underlying131 _ b ats.length _ rfl hown ?_; intro w0 hrg0 hg0 hs0)
      | go_in)
    go_frame
    have hS5 := (hS4.below hb5).grown hg0 (by simp)
    have hP5 := (hP4.below hb5).grown hg0 (by simp)
    have hV5 := (hV4.below hb5).grown hg0 (by simp)
    have hlV := hV4.lt
    have hbV : V < b := by omega
    have hszw : wc.heap.size ≤ w5.heap.size := hb5.size
    have hB5 : But (P :: S :: vs.ownBlock.toList) w w0 := (hB4.below hb5).grown hg0 (by simp)
    have hrow5 : w0.ownsRow N 92 1 vs' (nv + 1) (vps ++ [.pointer (some ⟨V, 0, none⟩)]) := row_but (X := []) hrow4 (((But.refl [] wc).below hb5).grown hg0 (by simp)) (fun g hg => ⟨(row_block hS4 hP4 hrow4 (by decide) (by decide) g hg).1, by simp⟩)
    have hrVS : vs'.ownBlock ≠ some V := fun e => by
      rcases hrow4.2 with ⟨h, _⟩ | ⟨g, cap, cu, h, _, hh, _⟩
      · rw [h] at e; cases e
      · rw [h] at e
        exact (show Lies wc g 92 cu from hh).ne hV4 (by decide) (Option.some.inj e)
    rw [v0_is HR0.out] at hV5
    generalize hr : w5.heap.size = r at *
    have HRV := Lib.hid hrVS
    clear hS4 hP4 hrow4 hV4 hB4 hg0 hs0 hown hbb hb5 hr hrVS
    go_loopw [9] (fun v9 wr => v9 = .nilIface ∧ ∃ (left : Lit → Bool) (cnt : Nat), wr.ranges Tryz.prog 9 (plainElem (H := H) Tryz.prog 9) b r ats.length (mapD ats) left cnt ∧ Lies wr V 98 (vCells rate (cur ats left)) ∧ StAt wr S m3u true (.pointer (some ⟨V, 0, none⟩)) al ∧ PlAt wr P vs' ver ind ∧ wr.ownsRow N 92 1 vs' (nv + 1) (vps ++ [.pointer (some ⟨V, 0, none⟩)]) ∧ But (P :: S :: vs.ownBlock.toList) w wr ∧ Hid (∀ kl, left kl = true → has (mapD (H := H) ats) kl = true))
      (fun _ wr => wr.rangeLeft b r)
    case atStart =>
      refine ⟨rfl, _, _, hrg0, ?_, hS5, hP5, hrow5, hB5, fun _ h => h⟩
      rw [show cur ats (has (mapD (H := H) ats)) = fun _ => [] from funext fun name => cur_start HND.out name]
      exact hV5
    case round =>
      obtain ⟨rfl, left, cnt, hrg, hV6, hS6, hP6, hrow6, hB6, HL⟩ := hrel
      go_wp2_with (first
        | (at_next; refine wpList_next_ranges_ss _ rfl _ rfl 9 9 law9 Tryz.underlying9 Tryz.underlying9 b r ats.length _ _ _ rfl hrg ?_ ?_)
        | go_in)
      · intro hc0 hl0
        have hcur : cur ats left = valOf ats := by funext name; exact cur_end hl0 name
        rw [hcur] at hV6
        go_wp2_with fail
        go_ret
        exact ⟨rfl, _, _, hS6, hP6, hrow6, hV6, hww, hB6⟩
      · intro x c w1 cnt1 hlx hat hrg1 hlt hg1 hs1 hen
        obtain ⟨a, ham, hxa, hval⟩ := mapD_has HND.out (HL.out _ hlx)
        have e1 : x = a.name := Lit.string.inj hxa
        have e2 : c = a.val := by
          have := (hat .nil).symm.trans (hval .nil)
          exact Lit.string.inj (DataW.lit.inj this)
        have e3 : valOf ats x = c := by rw [e1, e2]; exact valOf_own HND.out ham
        have hk := HK.out a ham
        unfold VarKey at hk
        rw [← e1, ← e2] at hk
        have e3' := Lib.hid e3
        have hVr : V ≠ r := by omega
        have hVlt := hV6.lt
        have hV7 := Lib.hid (hV6.grown hg1 (fun e => hVr (Option.some.inj e)))
        have hS7 := Lib.hid (hS6.grown hg1 (fun e => by cases e; omega))
        have hP7 := Lib.hid (hP6.grown hg1 (fun e => by cases e; omega))
        have hB7 := Lib.hid (hB6.grownNew hg1 (by omega))
        have hrow7 : w1.ownsRow N 92 1 vs' (nv + 1) (vps ++ [.pointer (some ⟨V, 0, none⟩)]) := row_but (X := [r]) hrow6 ⟨hg1.os, hg1.tape, hg1.output, hg1.size, fun k hk hx => hg1.block k hk (fun e => hx (by simp [Option.some.inj e]))⟩ (fun g hg => ⟨(row_block hS6 hP6 hrow6 (by decide) (by decide) g hg).1, by simp; exact row_iter hrow6 hrg hg⟩)
        have hR7 := Lib.hid hrow7
        clear hrow7
        have c15 := hS7.out.cells.2.2.2.1
        clear ham hxa hval hat e1 e2 e3
        rcases hk with rfl | rfl | rfl | rfl | rfl | rfl | rfl | ⟨rfl, n, hn, rfl⟩ | ⟨rfl, n, hn, rfl⟩ | ⟨rfl, n, hn, rfl⟩ | ⟨rfl, hF⟩
        · as_aux_lemma =>
          have hbx : bs [67, 79, 68, 69, 67, 83] = ⟨#[67, 79, 68, 69, 67, 83]⟩ := rfl
          have hcs : vCells rate (cur ats (fun z => left z && !z.sameKey (.string [67, 79, 68, 69, 67, 83]))) = (vCells rate (cur ats left)).setIfInBounds 5 (.string (bs c)) := by
            unfold vCells
            simp only [cur_step, e3'.out]
            simp [numOf_dec]
          have HCS := Lib.hid hcs
          clear hcs
          obtain ⟨y5, a5⟩ := hV7.out.has 5 (by show 5 < 17; decide)
          have j5 := hV7.out.frozen 5
          go_wp2_with fail
          go_roundw
          case rel => exact ⟨rfl, _, cnt1, hrg1.kept (gset _ V 5 _) (by simp; omega) (by simp; omega), by rw [HCS.out]; exact hV7.out.set 5 _, hS7.out.other (by simp; omega) _, hP7.out.other (by simp; omega) _, ownsRow_setCell_other hR7.out HRV.out _, hB7.out.setNew hww _, fun kl h => HL.out kl (by simp at h; exact h.1)⟩
          case measure => rw [(hrg1.kept (gset _ V 5 _) (by simp; omega) (by simp; omega)).left_eq, hrg.left_eq]; exact hlt
        · as_aux_lemma =>
          have hbx : bs [82, 69, 83, 79, 76, 85, 84, 73, 79, 78] = ⟨#[82, 69, 83, 79, 76, 85, 84, 73, 79, 78]⟩ := rfl
          have hcs : vCells rate (cur ats (fun z => left z && !z.sameKey (.string [82, 69, 83, 79, 76, 85, 84, 73, 79, 78]))) = (vCells rate (cur ats left)).setIfInBounds 6 (.string (bs c)) := by
            unfold vCells
            simp only [cur_step, e3'.out]
            simp [numOf_dec]
          have HCS := Lib.hid hcs
          clear hcs
          obtain ⟨y6, a6⟩ := hV7.out.has 6 (by show 6 < 17; decide)
          have j6 := hV7.out.frozen 6
          go_wp2_with fail
          go_roundw
          case rel => exact ⟨rfl, _, cnt1, hrg1.kept (gset _ V 6 _) (by simp; omega) (by simp; omega), by rw [HCS.out]; exact hV7.out.set 6 _, hS7.out.other (by simp; omega) _, hP7.out.other (by simp; omega) _, ownsRow_setCell_other hR7.out HRV.out _, hB7.out.setNew hww _, fun kl h => HL.out kl (by simp at h; exact h.1)⟩
          case measure => rw [(hrg1.kept (gset _ V 6 _) (by simp; omega) (by simp; omega)).left_eq, hrg.left_eq]; exact hlt
        · as_aux_lemma =>
          have hbx : bs [65, 85, 68, 73, 79] = ⟨#[65, 85, 68, 73, 79]⟩ := rfl
          have hcs : vCells rate (cur ats (fun z => left z && !z.sameKey (.string [65, 85, 68, 73, 79]))) = (vCells rate (cur ats left)).setIfInBounds 7 (.string (bs c)) := by
            unfold vCells
            simp only [cur_step, e3'.out]
            simp [numOf_dec]
          have HCS := Lib.hid hcs
          clear hcs
          obtain ⟨y7, a7⟩ := hV7.out.has 7 (by show 7 < 17; decide)
          have j7 := hV7.out.frozen 7
          go_wp2_with fail
          go_roundw
          case rel => exact ⟨rfl, _, cnt1, hrg1.kept (gset _ V 7 _) (by simp; omega) (by simp; omega), by rw [HCS.out]; exact hV7.out.set 7 _, hS7.out.other (by simp; omega) _, hP7.out.other (by simp; omega) _, ownsRow_setCell_other hR7.out HRV.out _, hB7.out.setNew hww _, fun kl h => HL.out kl (by simp at h; exact h.1)⟩
          case measure => rw [(hrg1.kept (gset _ V 7 _) (by simp; omega) (by simp; omega)).left_eq, hrg.left_eq]; exact hlt
        · as_aux_lemma =>
          have hbx : bs [86, 73, 68, 69, 79] = ⟨#[86, 73, 68, 69, 79]⟩ := rfl
          have hcs : vCells rate (cur ats (fun z => left z && !z.sameKey (.string [86, 73, 68, 69, 79]))) = (vCells rate (cur ats left)).setIfInBounds 8 (.string (bs c)) := by
            unfold vCells
            simp only [cur_step, e3'.out]
            simp [numOf_dec]
          have HCS := Lib.hid hcs
          clear hcs
          obtain ⟨y8, a8⟩ := hV7.out.has 8 (by show 8 < 17; decide)
          have j8 := hV7.out.frozen 8
          go_wp2_with fail
          go_roundw
          case rel => exact ⟨rfl, _, cnt1, hrg1.kept (gset _ V 8 _) (by simp; omega) (by simp; omega), by rw [HCS.out]; exact hV7.out.set 8 _, hS7.out.other (by simp; omega) _, hP7.out.other (by simp; omega) _, ownsRow_setCell_other hR7.out HRV.out _, hB7.out.setNew hww _, fun kl h => HL.out kl (by simp at h; exact h.1)⟩
          case measure => rw [(hrg1.kept (gset _ V 8 _) (by simp; omega) (by simp; omega)).left_eq, hrg.left_eq]; exact hlt
        · as_aux_lemma =>
          have hbx : bs [83, 85, 66, 84, 73, 84, 76, 69, 83] = ⟨#[83, 85, 66, 84, 73, 84, 76, 69, 83]⟩ := rfl
          have hcs : vCells rate (cur ats (fun z => left z && !z.sameKey (.string [83, 85, 66, 84, 73, 84, 76, 69, 83]))) = (vCells rate (cur ats left)).setIfInBounds 9 (.string (bs c)) := by
            unfold vCells
            simp only [cur_step, e3'.out]
            simp [numOf_dec]
          have HCS := Lib.hid hcs
          clear hcs
          obtain ⟨y9, a9⟩ := hV7.out.has 9 (by show 9 < 17; decide)
          have j9 := hV7.out.frozen 9
          go_wp2_with fail
          go_roundw
          case rel => exact ⟨rfl, _, cnt1, hrg1.kept (gset _ V 9 _) (by simp; omega) (by simp; omega), by rw [HCS.out]; exact hV7.out.set 9 _, hS7.out.other (by simp; omega) _, hP7.out.other (by simp; omega) _, ownsRow_setCell_other hR7.out HRV.out _, hB7.out.setNew hww _, fun kl h => HL.out kl (by simp at h; exact h.1)⟩
          case measure => rw [(hrg1.kept (gset _ V 9 _) (by simp; omega) (by simp; omega)).left_eq, hrg.left_eq]; exact hlt
        · as_aux_lemma =>
          have hbx : bs [67, 76, 79, 83, 69, 68, 45, 67, 65, 80, 84, 73, 79, 78, 83] = ⟨#[67, 76, 79, 83, 69, 68, 45, 67, 65, 80, 84, 73, 79, 78, 83]⟩ := rfl
          have hcs : vCells rate (cur ats (fun z => left z && !z.sameKey (.string [67, 76, 79, 83, 69, 68, 45, 67, 65, 80, 84, 73, 79, 78, 83]))) = (vCells rate (cur ats left)).setIfInBounds 10 (.string (bs c)) := by
            unfold vCells
            simp only [cur_step, e3'.out]
            simp [numOf_dec]
          have HCS := Lib.hid hcs
          clear hcs
          obtain ⟨y10, a10⟩ := hV7.out.has 10 (by show 10 < 17; decide)
          have j10 := hV7.out.frozen 10
          go_wp2_with fail
          go_roundw
          case rel => exact ⟨rfl, _, cnt1, hrg1.kept (gset _ V 10 _) (by simp; omega) (by simp; omega), by rw [HCS.out]; exact hV7.out.set 10 _, hS7.out.other (by simp; omega) _, hP7.out.other (by simp; omega) _, ownsRow_setCell_other hR7.out HRV.out _, hB7.out.setNew hww _, fun kl h => HL.out kl (by simp at h; exact h.1)⟩
          case measure => rw [(hrg1.kept (gset _ V 10 _) (by simp; omega) (by simp; omega)).left_eq, hrg.left_eq]; exact hlt
        · as_aux_lemma =>
          have hbx : bs [78, 65, 77, 69] = ⟨#[78, 65, 77, 69]⟩ := rfl
          have hcs : vCells rate (cur ats (fun z => left z && !z.sameKey (.string [78, 65, 77, 69]))) = (vCells rate (cur ats left)).setIfInBounds 11 (.string (bs c)) := by
            unfold vCells
            simp only [cur_step, e3'.out]
            simp [numOf_dec]
          have HCS := Lib.hid hcs
          clear hcs
          obtain ⟨y11, a11⟩ := hV7.out.has 11 (by show 11 < 17; decide)
          have j11 := hV7.out.frozen 11
          go_wp2_with fail
          go_roundw
          case rel => exact ⟨rfl, _, cnt1, hrg1.kept (gset _ V 11 _) (by simp; omega) (by simp; omega), by rw [HCS.out]; exact hV7.out.set 11 _, hS7.out.other (by simp; omega) _, hP7.out.other (by simp; omega) _, ownsRow_setCell_other hR7.out HRV.out _, hB7.out.setNew hww _, fun kl h => HL.out kl (by simp at h; exact h.1)⟩
          case measure => rw [(hrg1.kept (gset _ V 11 _) (by simp; omega) (by simp; omega)).left_eq, hrg.left_eq]; exact hlt
        · as_aux_lemma =>
          have hbx : bs [80, 82, 79, 71, 82, 65, 77, 45, 73, 68] = ⟨#[80, 82, 79, 71, 82, 65, 77, 45, 73, 68]⟩ := rfl
          have hcs : vCells rate (cur ats (fun z => left z && !z.sameKey (.string [80, 82, 79, 71, 82, 65, 77, 45, 73, 68]))) = (vCells rate (cur ats left)).setIfInBounds 2 (.int .u32 (IntKind.u32.wrap n)) := by
            unfold vCells
            simp only [cur_step, e3'.out]
            simp [numOf_dec]
          have HCS := Lib.hid hcs
          clear hcs
          obtain ⟨y2, a2⟩ := hV7.out.has 2 (by show 2 < 17; decide)
          have j2 := hV7.out.frozen 2
          have HA := Lib.hid (fun W => Atoi_calls n W hn)
          clear hn
          go_wp2_with (go_at_call 52; refine (HA.out _).mono ?_; rintro e w8 ⟨rfl, hb8⟩; have hS8 := Lib.hid (hS7.out.below hb8); have hV8 := Lib.hid (hV7.out.below hb8); have c15' := hS8.out.cells.2.2.2.1; obtain ⟨yy, aa⟩ := hV8.out.has 2 (by show 2 < 17; decide); have jj := hV8.out.frozen 2)
          go_roundw
          case rel => exact ⟨rfl, _, cnt1, hrg1.kept (bgset hb8 V 2 _) (by simp; omega) (by simp; omega), by rw [HCS.out]; exact hV8.out.set 2 _, hS8.out.other (by simp; omega) _, (hP7.out.below hb8).other (by simp; omega) _, ownsRow_setCell_other (row_below hR7.out hb8) HRV.out _, (hB7.out.below hb8).setNew hww _, fun kl h => HL.out kl (by simp at h; exact h.1)⟩
          case measure => rw [(hrg1.kept (bgset hb8 V 2 _) (by simp; omega) (by simp; omega)).left_eq, hrg.left_eq]; exact hlt
        · as_aux_lemma =>
          have hbx : bs [66, 65, 78, 68, 87, 73, 68, 84, 72] = ⟨#[66, 65, 78, 68, 87, 73, 68, 84, 72]⟩ := rfl
          have hcs : vCells rate (cur ats (fun z => left z && !z.sameKey (.string [66, 65, 78, 68, 87, 73, 68, 84, 72]))) = (vCells rate (cur ats left)).setIfInBounds 3 (.int .u32 (IntKind.u32.wrap n)) := by
            unfold vCells
            simp only [cur_step, e3'.out]
            simp [numOf_dec]
          have HCS := Lib.hid hcs
          clear hcs
          obtain ⟨y3, a3⟩ := hV7.out.has 3 (by show 3 < 17; decide)
          have j3 := hV7.out.frozen 3
          have HA := Lib.hid (fun W => Atoi_calls n W hn)
          clear hn
          go_wp2_with (go_at_call 52; refine (HA.out _).mono ?_; rintro e w8 ⟨rfl, hb8⟩; have hS8 := Lib.hid (hS7.out.below hb8); have hV8 := Lib.hid (hV7.out.below hb8); have c15' := hS8.out.cells.2.2.2.1; obtain ⟨yy, aa⟩ := hV8.out.has 3 (by show 3 < 17; decide); have jj := hV8.out.frozen 3)
          go_roundw
          case rel => exact ⟨rfl, _, cnt1, hrg1.kept (bgset hb8 V 3 _) (by simp; omega) (by simp; omega), by rw [HCS.out]; exact hV8.out.set 3 _, hS8.out.other (by simp; omega) _, (hP7.out.below hb8).other (by simp; omega) _, ownsRow_setCell_other (row_below hR7.out hb8) HRV.out _, (hB7.out.below hb8).setNew hww _, fun kl h => HL.out kl (by simp at h; exact h.1)⟩
          case measure => rw [(hrg1.kept (bgset hb8 V 3 _) (by simp; omega) (by simp; omega)).left_eq, hrg.left_eq]; exact hlt
        · as_aux_lemma =>
          have hbx : bs [65, 86, 69, 82, 65, 71, 69, 45, 66, 65, 78, 68, 87, 73, 68, 84, 72] = ⟨#[65, 86, 69, 82, 65, 71, 69, 45, 66, 65, 78, 68, 87, 73, 68, 84, 72]⟩ := rfl
          have hcs : vCells rate (cur ats (fun z => left z && !z.sameKey (.string [65, 86, 69, 82, 65, 71, 69, 45, 66, 65, 78, 68, 87, 73, 68, 84, 72]))) = (vCells rate (cur ats left)).setIfInBounds 4 (.int .u32 (IntKind.u32.wrap n)) := by
            unfold vCells
            simp only [cur_step, e3'.out]
            simp [numOf_dec]
          have HCS := Lib.hid hcs
          clear hcs
          obtain ⟨y4, a4⟩ := hV7.out.has 4 (by show 4 < 17; decide)
          have j4 := hV7.out.frozen 4
          have HA := Lib.hid (fun W => Atoi_calls n W hn)
          clear hn
          go_wp2_with (go_at_call 52; refine (HA.out _).mono ?_; rintro e w8 ⟨rfl, hb8⟩; have hS8 := Lib.hid (hS7.out.below hb8); have hV8 := Lib.hid (hV7.out.below hb8); have c15' := hS8.out.cells.2.2.2.1; obtain ⟨yy, aa⟩ := hV8.out.has 4 (by show 4 < 17; decide); have jj := hV8.out.frozen 4)
          go_roundw
          case rel => exact ⟨rfl, _, cnt1, hrg1.kept (bgset hb8 V 4 _) (by simp; omega) (by simp; omega), by rw [HCS.out]; exact hV8.out.set 4 _, hS8.out.other (by simp; omega) _, (hP7.out.below hb8).other (by simp; omega) _, ownsRow_setCell_other (row_below hR7.out hb8) HRV.out _, (hB7.out.below hb8).setNew hww _, fun kl h => HL.out kl (by simp at h; exact h.1)⟩
          case measure => rw [(hrg1.kept (bgset hb8 V 4 _) (by simp; omega) (by simp; omega)).left_eq, hrg.left_eq]; exact hlt
        · as_aux_lemma =>
          have hbx : bs [70, 82, 65, 77, 69, 45, 82, 65, 84, 69] = ⟨#[70, 82, 65, 77, 69, 45, 82, 65, 84, 69]⟩ := rfl
          have hcs : vCells rate (cur ats (fun z => left z && !z.sameKey (.string [70, 82, 65, 77, 69, 45, 82, 65, 84, 69]))) = (vCells rate (cur ats left)).setIfInBounds 15 (.float .f64 (rate c)) := by
            unfold vCells
            simp only [cur_step, e3'.out]
            simp [numOf_dec]
          have HCS := Lib.hid hcs
          clear hcs
          obtain ⟨y15, a15⟩ := hV7.out.has 15 (by show 15 < 17; decide)
          have j15 := hV7.out.frozen 15
          obtain ⟨⟨z0, c0⟩, c1, c2, c15, c16, f0, f1, f2, f15, f16⟩ := hS7.out.cells
          have HFl := Lib.hid (hF w1.drew ((HBs.out.but hB7.out HNX.out).below ((Below.refl _ _).drew)))
          clear hF
          go_upto_region 87 with fail
          go_cut [9] from 316 to 326 (fun e wx => e = .nilIface ∧ wx = (w1.setCell ⟨V, 15, none⟩ (.float .f64 (rate c))).drew)
          case first =>
            have a15' : w1.drew.cell? ⟨V, 15, none⟩ = some y15 := a15
            have j15' : w1.drew.frozen? ⟨V, 15, none⟩ = false := j15
            have hst : (store ⟨V, 15, none⟩ (.float .f64 (rate c))).run Tryz.prog w1.drew = .ok () ((w1.setCell ⟨V, 15, none⟩ (.float .f64 (rate c))).drew) := (run_store _ _ _ _ _ rfl).trans (by rw [a15']; simp [j15', World.setCell_drew])
            go_region_held3 (fun w' => w'.cell? ⟨S, 15, none⟩ = some (.pointer (some ⟨V, 0, none⟩))) (go_keep) (first | (go_at_call 53; refine HFl.out.mono ?_; rintro e w8 ⟨rfl, rfl⟩))
            all_goals
              clear hst a15' j15' hen
              go_wp2_with fail
              go_meet
              exact ⟨rfl, rfl⟩
          case rest =>
            obtain ⟨rfl, rfl⟩ := hcut
            have hgd : w1.grownBy ((w1.setCell ⟨V, 15, none⟩ (.float .f64 (rate c))).drew) (some V) := ⟨rfl, rfl, rfl, by simp, fun k hk hne => heap_setCell_other _ _ _ _ (fun e => hne (by rw [e]))⟩
            have hbd : Below (w1.setCell ⟨V, 15, none⟩ (.float .f64 (rate c))).heap.size (w1.setCell ⟨V, 15, none⟩ (.float .f64 (rate c))) ((w1.setCell ⟨V, 15, none⟩ (.float .f64 (rate c))).drew) := (Below.refl _ _).drew
            have HGD := Lib.hid hgd
            have HBD := Lib.hid hbd
            clear hgd hbd
            go_wp2_with fail
            go_roundw
            case rel => exact ⟨rfl, _, cnt1, hrg1.kept HGD.out (by simp; omega) (by simp; omega), by rw [HCS.out]; exact (hV7.out.set 15 _).below HBD.out, (hS7.out.other (by simp; omega) _).below HBD.out, (hP7.out.other (by simp; omega) _).below HBD.out, row_below (ownsRow_setCell_other hR7.out HRV.out _) HBD.out, (hB7.out.setNew hww _).below HBD.out, fun kl h => HL.out kl (by simp at h; exact h.1)⟩
            case measure => rw [(hrg1.kept HGD.out (by simp; omega) (by simp; omega)).left_eq, hrg.left_eq]; exact hlt
end Go.Proofs.YtlghdacdpkaoeaaGreatDoor
