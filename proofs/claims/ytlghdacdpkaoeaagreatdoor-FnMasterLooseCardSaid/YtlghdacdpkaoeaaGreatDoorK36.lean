import Derived.Test.YtlghdacdpkaoeaaGreatDoorK35
import Derived.Deep.RegionHeld3
namespace Go.Proofs.YtlghdacdpkaoeaaGreatDoor
open Go.RowKit Go.Proofs.YtlghdacdpkaoeaaGreatDoorW.PrintWords Go.Maps
open Go.Lib hiding intOf
set_option linter.unusedVariables false
set_option linter.unusedSimpArgs false
attribute [local go_sem] run_store_float
set_option maxRecDepth 100000 in
set_option maxHeartbeats 60000000 in
theorem masterOf_calls (N P : Nat) (s : RS) (w : World) (h : DoneAt N P w s) (hv0 : 0 ≤ s.ver) (hv1 : s.ver ≤ 255) (hnv : s.vars.length ≤ 1000) (hna : s.alts.length ≤ 1000) :
    Calls Tryz.prog 22 #[.pointer (some ⟨P, 0, none⟩)] w fun e w' => ∃ sl, e = .returned (.agg #[sl, .string ⟨#[]⟩, .int .i64 s.ver, .bool s.ind]) ∧ ResAt w.heap.size w' s sl ∧ Below w.heap.size w w' := by
  obtain ⟨vs, As, Vs, hP, hrv, hea, hev, hla, hlv⟩ := h
  obtain ⟨iv, ivi, ivz, ivs, ivb⟩ := info_parts infoIV
  obtain ⟨ia, iai, iaz, ias, iab⟩ := info_parts infoIA
  obtain ⟨d0, d1, d6, d7, _, _, _, _⟩ := hP.cells
  have lP := hP.lt
  have hVl : Vs.length ≤ 1000 := by
    have := congrArg List.length hev
    simp at this; omega
  obtain ⟨vsA, vsC, hvs⟩ := own_form hrv
  subst hvs
  have HP := Lib.hid hP
  have HRV := Lib.hid hrv
  have HLA := Lib.hid hla
  have HLV := Lib.hid hlv
  clear hP hrv hla hlv
  go_enter Tryz.func22, Tryz.ntmps22
  go_upto_region 1 with (fail)
  go_cut [3] from 9 to 18 (fun v3 wx => v3 = .pointer (some ⟨w.heap.size + 1, 0, none⟩) ∧ Lies wx w.heap.size 34 #[.slice none 0 0, .string ⟨#[]⟩, .int .i64 0, .bool false] ∧ Lies wx (w.heap.size + 1) 34 #[.slice none 0 0, .string ⟨#[]⟩, .int .i64 s.ver, .bool s.ind] ∧ Below w.heap.size w wx)
  case first =>
   go_region_held3 (fun w' => w'.cell? ⟨P, 1, none⟩ = some (.string ⟨#[]⟩) ∧ w'.cell? ⟨P, 6, none⟩ = some (.int .u8 s.ver) ∧ w'.cell? ⟨P, 7, none⟩ = some (.bool s.ind)) (go_keep)
     (first
      | (go_at_call 31; refine (Version_calls P s.ver _ ?_).mono ?_; · simp [*]
         rintro e w' ⟨rfl, rfl⟩)
      | (go_at_call 32; refine (Indep_calls P s.ind _ ?_).mono ?_; · simp [*]
         rintro e w' ⟨rfl, rfl⟩))
   all_goals
    go_wp2_with fail
    go_meet
    obtain ⟨h1, h2, h3⟩ := two_lies w #[.slice none 0 0, .string ⟨#[]⟩, .int .i64 0, .bool false] #[.slice none 0 0, .string ⟨#[]⟩, .int .i64 (IntKind.i64.wrap s.ver), .bool s.ind] 34
    exact ⟨rfl, h1, by rw [IntWalk.i64_in s.ver (by omega)] at h2 h3 ⊢; exact ⟨h2, h3⟩⟩
  case rest =>
    obtain ⟨rfl, hR, hO, hb0⟩ := hcut
    have hP0 := (HP.out.below hb0).cells.1
    have HR0 := Lib.hid hR
    have HO0 := Lib.hid hO
    have HB0 := Lib.hid hb0
    clear hR hO hb0
    go_wp2_with fail
    go_loopw [24] (fun v24 wr => ∃ k : Nat, v24 = .int .i64 k ∧ k ≤ Vs.length ∧ OutSt w s As Vs k wr) (fun v _ => Vs.length - (intOf v).toNat)
    case atStart => exact ⟨0, rfl, by omega, OutSt.start HR0.out HO0.out HB0.out⟩
    case round =>
      obtain ⟨k, rfl, hk, hst⟩ := hrel
      rename World => wo
      by_cases hlt : k < Vs.length
      · obtain ⟨g, hg, hgc, ⟨gcs, hgl⟩, hcell⟩ := own_at HRV.out k hlt
        subst hg
        have hck := hcell wo (hst.frame.block g hgl.lt)
        clear hcell
        obtain ⟨sl1, hl1, hr1⟩ := (HLV.out _ (List.getElem_mem hlt)).1
        have HST := Lib.hid hst
        have hl2 := hl1.below hst.frame
        have hr2 := row_below hr1 hst.frame
        have HQ : Hid (Vs[k]? = some Vs[k]) := Lib.hid (List.getElem?_eq_getElem hlt)
        generalize hq : Vs[k] = q at *
        clear hq
        obtain ⟨slA, slC, hsl⟩ := own_form hr2
        subst hsl
        obtain ⟨a0, n2, n3, n4, a5, a6, a7, a8, a9, a10, a11, b12, a13, a14, r15, hsh⟩ := q.2.shape
        have HSH := Lib.hid hsh
        rw [hsh] at hl2
        have hl3 : Lies wo q.1 98 #[.string a0, .pointer none, .int .u32 n2, .int .u32 n3, .int .u32 n4, .string a5, .string a6, .string a7, .string a8, .string a9, .string a10, .string a11, .bool b12, .string a13, .string a14, .float .f64 r15, .slice slA (attOf As q.2).length slC] := hl2
        have HL2 := Lib.hid hl3
        have HR2 := Lib.hid hr2
        have lq := hl3.lt
        have hlo : w.heap.size ≤ wo.heap.size := hst.frame.size
        clear hst hl1 hr1 hl2 hr2 hl3 hsh
        go_upto_region 5 with (fail)
        go_cut [6] from 28 to 102 (fun v6 wx => v6 = .pointer (some ⟨wo.heap.size, 0, none⟩) ∧ Lies wx wo.heap.size 41 #[.string a0, .int .u32 n2, .int .u32 n3, .int .u32 n4, .string a5, .string a6, .string a7, .string a8, .string a9, .string a10, .string a11, .bool b12, .string a13, .string a14, .float .f64 r15, .slice none 0 0] ∧ Below wo.heap.size wo wx)
        case first =>
          rename_i J K' hJ hK'
          refine irgn5 q.1 a0 a5 a6 a7 a8 a9 a10 a11 a13 a14 n2 n3 n4 b12 r15 _ rfl rfl HL2.out ?_
          intro us w' h6 hL hB
          refine hK' _ _ (Met.intro (hJ _ _ ?_))
          repeat apply Exists.intro
          refine ⟨⟨h6, hL, hB⟩, rfl⟩
        case rest =>
          obtain ⟨rfl, hX, hbX⟩ := hcut
          have e16 := (HL2.out.below hbX).cell 16
          simp only [List.getElem?_toArray, List.getElem?_cons_zero, List.getElem?_cons_succ] at e16
          obtain ⟨c, hc⟩ : ∃ c : List Value, c = [.string a0, .int .u32 n2, .int .u32 n3, .int .u32 n4, .string a5, .string a6, .string a7, .string a8, .string a9, .string a10, .string a11, .bool b12, .string a13, .string a14, .float .f64 r15] := ⟨_, rfl⟩
          have hin : InSt wo c (attOf As q.2) 0 wc := ⟨.slice none 0 0, Lib.hid (by rw [hc]; exact hX), Lib.hid (World.ownsRow_nil _ _ _ _), Lib.hid hbX⟩
          have HC := Lib.hid hc
          have hclen : Hid (c.length = 15) := Lib.hid (by rw [hc]; rfl)
          have hL : (attOf As q.2).length ≤ 1000 := by
            have h1 := List.length_filter_le (fun p : Nat × AltR => q.2.v.has p.2) As
            have h2 : As.length = s.alts.length := by rw [← hea]; simp
            unfold attOf; omega
          have HIN := Lib.hid hin
          clear hX hbX hc hin
          go_wp2_with fail
          go_loopw [109] (fun v109 wi => ∃ j : Nat, v109 = .int .i64 j ∧ j ≤ (attOf As q.2).length ∧ InSt wo c (attOf As q.2) j wi) (fun v _ => (attOf As q.2).length - (intOf v).toNat)
          case atStart => exact ⟨0, rfl, by omega, HIN.out⟩
          case round =>
            obtain ⟨j, rfl, hj, hst⟩ := hrel
            by_cases hjl : j < (attOf As q.2).length
            · obtain ⟨g2, hg2, hgc2, ⟨gcs2, hgl2⟩, hcell2⟩ := own_at HR2.out j hjl
              subst hg2
              have hmem := (List.mem_filter.1 (List.getElem_mem hjl)).1
              have hA := (HLA.out _ hmem).1
              obtain ⟨asl, HX, HO, HB⟩ := hst
              have hcj := hcell2 wr (HB.out.block g2 hgl2.lt)
              clear hcell2
              have hA1 := (hA.below HST.out.frame).below HB.out
              have HQA : Hid ((attOf As q.2)[j]? = some (attOf As q.2)[j]) := Lib.hid (List.getElem?_eq_getElem hjl)
              generalize hqa : (attOf As q.2)[j] = qa at *
              clear hqa hmem hA
              obtain ⟨b0, b1, b2, b3, b4, b5, b6, hbsh⟩ := alt_shape qa.2
              have HBS := Lib.hid hbsh
              rw [hbsh] at hA1
              have HA1 := Lib.hid hA1
              clear hA1 hbsh
              go_upto_region 9 with (fail)
              refine wp_then (fun Kl hKl _ => ?_)
              go_cut [] from 110 to 159 (fun wx => InSt wo c (attOf As q.2) (j + 1) wx)
              case first =>
                rename_i J K' hJ hK'
                refine irgn9 wo.heap.size qa.1 asl b0 b1 b2 b3 b4 b6 b5 wo.heap.size j _ _ rfl rfl rfl HA1.out HX.out (xcell15 hclen.out) HO.out (by omega) HB.out.size ?_
                intro us g cap w4 hown hg hat
                refine hK' _ _ (Met.intro (hJ _ _ ?_))
                repeat apply Exists.intro
                refine ⟨InSt.append hclen.out HQA.out HBS.out HX.out HO.out HB.out (lies_grown (w := wr.drew) (HX.out.below ((Below.refl _ _).drew)) hg (fun g hg => row_other HO.out HX.out (by decide) g hg)) hown hg hat, rfl⟩
              have HCUT := Lib.hid hcut
              clear hcut
              refine hKl _ _ ?_
              go_wp2_with fail
              go_roundw
              case rel => exact ⟨j + 1, by go_num, by omega, HCUT.out⟩
              case measure => simp [intOf]; omega
            · obtain rfl : j = (attOf As q.2).length := by omega
              obtain ⟨asl, HX, HO, HB⟩ := hst
              obtain ⟨sl, ps, hO, hps, hrow, hin⟩ := HST.out.ex
              have hpl : ps.length = k := by
                have := congrArg List.length hps
                simp at this; omega
              have hX16 := HX.out
              rw [HC.out] at hX16
              obtain ⟨x0, x1, x2, x3, x4, x5, x6, x7, x8, x9, x10, x11, x12, x13, x14, x15⟩ := xlies hX16
              have hOr := hO.below HB.out
              have o0 := hOr.cell 0
              simp only [List.getElem?_toArray, List.getElem?_cons_zero] at o0
              have hHO := HO.out
              rw [List.take_length] at hHO
              have HASL := Lib.hid hHO
              have HOr := Lib.hid hOr
              have HO1 := Lib.hid hO
              have HPS := Lib.hid hps
              have HROW := Lib.hid hrow
              have HIN2 := Lib.hid hin
              have HROWr := Lib.hid (row_below hrow HB.out)
              have HVAL : Hid ([Value.string a0, .int .u32 n2, .int .u32 n3, .int .u32 n4, .string a5, .string a6, .string a7, .string a8, .string a9, .string a10, .string a11, .bool b12, .string a13, .string a14, .float .f64 r15, asl] = varVals q.2 asl) := Lib.hid (by rw [varVals, HSH.out]; rfl)
              have hHX := hX16.lt
              have hlOO := hOr.lt
              have hww : w.heap.size ≤ wr.heap.size := Nat.le_trans hlo HB.out.size
              have HOWN := Lib.hid (HROWr.out.alloc (.cells #[Value.string a0, .int .u32 n2, .int .u32 n3, .int .u32 n4, .string a5, .string a6, .string a7, .string a8, .string a9, .string a10, .string a11, .bool b12, .string a13, .string a14, .float .f64 r15, asl] 41))
              have HNEWS := Lib.hid (World.news_of_block (heap_alloc_new wr (.cells #[Value.string a0, .int .u32 n2, .int .u32 n3, .int .u32 n4, .string a5, .string a6, .string a7, .string a8, .string a9, .string a10, .string a11, .bool b12, .string a13, .string a14, .float .f64 r15, asl] 41)))
              have hone : asl.oneCell' = true := by
                rcases own_cases HO.out with ⟨rfl, _⟩ | ⟨_, _, rfl, _⟩ <;> rfl
              have HONE := Lib.hid (show ∀ u ∈ [Value.string a0, .int .u32 n2, .int .u32 n3, .int .u32 n4, .string a5, .string a6, .string a7, .string a8, .string a9, .string a10, .string a11, .bool b12, .string a13, .string a14, .float .f64 r15, asl], u.oneCell' = true by intro u hu; simp at hu; rcases hu with rfl | rfl | rfl | rfl | rfl | rfl | rfl | rfl | rfl | rfl | rfl | rfl | rfl | rfl | rfl | rfl <;> first | rfl | exact hone)
              obtain ⟨slA2, slC2, hsl2⟩ : ∃ a c, asl = .slice a (attOf As q.2).length c := by
                rcases own_cases HO.out with ⟨rfl, h0⟩ | ⟨g, cap, rfl, _⟩
                · exact ⟨none, 0, by rw [h0]⟩
                · exact ⟨_, _, rfl⟩
              have hb63 : ps.length + 1 ≤ maxLen := by unfold maxLen; omega
              have hb47 : (ps.length + 1) * 216 ≤ 140737488355328 := by omega
              have hbase : w.heap.size ≤ (wr.alloc (.cells #[Value.string a0, .int .u32 n2, .int .u32 n3, .int .u32 n4, .string a5, .string a6, .string a7, .string a8, .string a9, .string a10, .string a11, .bool b12, .string a13, .string a14, .float .f64 r15, asl] 41)).heap.size := by simp; omega
              generalize hpn : ps.length = pn at *
              have HPN := Lib.hid hpn
              clear hpn hO hps hrow hin hX16 hOr hHO hone hsl2 hpl
              go_wp2_with (refine wpList_append_lies _ rfl _ _ 32 rfl w.heap.size 41 iv zVar 16 216 Tryz.underlying32 ivi ivz ivs ivb rfl (by decide) sl pn _ rfl HOWN.out ⟨wr.heap.size, 0, none⟩ 1 1 [Value.string a0, .int .u32 n2, .int .u32 n3, .int .u32 n4, .string a5, .string a6, .string a7, .string a8, .string a9, .string a10, .string a11, .bool b12, .string a13, .string a14, .float .f64 r15, asl] rfl rfl HNEWS.out HONE.out (by decide) hb63 hb47 hbase (wr.heap.size + 1) (by simp) ?_; intro g cap w5 hown' hgrow hat hlt4; have hg' := Lib.hid hgrow; have hat' := Lib.hid hat; have hown2 := Lib.hid hown'; clear hgrow hat hown'; have hO5 := Lib.hid (lies_grown HOr.out hg'.out (fun g hg => row_other HROWr.out HOr.out (by decide) g hg)); have zc := hO5.out.cell 0; simp only [List.getElem?_toArray, List.getElem?_cons_zero] at zc; have zf := hO5.out.frozen 0)
              obtain rfl := HPN.out
              have hst' := OutSt.append HST.out HQ.out HO1.out HPS.out HROW.out HIN2.out HB.out HASL.out HVAL.out hown2.out hg'.out hat'.out
              go_roundw
              case rel => exact ⟨k + 1, by go_num, by omega, hst'⟩
              case measure => simp [intOf]; omega
      · obtain rfl : k = Vs.length := by omega
        obtain ⟨sl, hO, hres⟩ := hst.res' hea hev
        have hR := hst.res
        have o0 := hO.cell 0
        have o1 := hO.cell 1
        have o2 := hO.cell 2
        have o3 := hO.cell 3
        have r0 := hR.cell 0
        have r1 := hR.cell 1
        have r2 := hR.cell 2
        have r3 := hR.cell 3
        have f0 := hR.frozen 0
        have f1 := hR.frozen 1
        have f2 := hR.frozen 2
        have f3 := hR.frozen 3
        simp only [List.getElem?_toArray, List.getElem?_cons_zero, List.getElem?_cons_succ] at o0 o1 o2 o3 r0 r1 r2 r3
        obtain ⟨slA3, slN3, slC3, hsl3⟩ : ∃ a n c, sl = .slice a n c := by
          obtain ⟨_, _, h2, _⟩ := hres
          rcases own_cases h2 with ⟨rfl, _⟩ | ⟨_, _, rfl, _⟩
          · exact ⟨_, _, _, rfl⟩
          · exact ⟨_, _, _, rfl⟩
        subst hsl3
        have HRES := Lib.hid hres
        have HFR := Lib.hid hst.frame
        have hR1 := Lib.hid hR
        clear hst hO hR hres
        go_wp2_with fail
        refine bodyPost_ret (v := .agg #[.slice slA3 slN3 slC3, .string ⟨#[]⟩, .int .i64 s.ver, .bool s.ind]) (by simp [results, Tryz.results22, go_sem, r0, r1, r2, r3]) rfl ⟨_, rfl, ?_, ?_⟩
        · exact (((HRES.out.set hR1.out 0 _).set (hR1.out.set 0 _) 1 _).set ((hR1.out.set 0 _).set 1 _) 2 _).set (((hR1.out.set 0 _).set 1 _).set 2 _) 3 _
        · exact (((HFR.out.setCell (Nat.le_refl _) _).setCell (Nat.le_refl _) _).setCell (Nat.le_refl _) _).setCell (Nat.le_refl _) _
end Go.Proofs.YtlghdacdpkaoeaaGreatDoor
