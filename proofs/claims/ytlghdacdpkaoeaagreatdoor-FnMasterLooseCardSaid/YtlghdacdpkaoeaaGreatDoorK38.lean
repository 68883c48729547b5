import Derived.Test.YtlghdacdpkaoeaaGreatDoorK37
namespace Go.Proofs.YtlghdacdpkaoeaaGreatDoor
open Go.RowKit Go.Proofs.YtlghdacdpkaoeaaGreatDoorW.PrintWords Go.Maps
open Go.Lib hiding intOf
set_option linter.unusedVariables false
set_option linter.unusedSimpArgs false
structure FrB (b R : Nat) (w w' : World) : Prop where
  os : w'.os = w.os
  tape : w'.tape = w.tape
  output : w'.output = w.output
  size : w.heap.size ≤ w'.heap.size
  block : ∀ k, k < b → k ≠ R → w'.heap[k]? = w.heap[k]?
theorem FrB.trans {b R : Nat} {w w' w'' : World} (h : FrB b R w w') (k : FrB b R w' w'') : FrB b R w w'' := ⟨k.os.trans h.os, k.tape.trans h.tape, k.output.trans h.output, Nat.le_trans h.size k.size, fun i hi hx => (k.block i hi hx).trans (h.block i hi hx)⟩
theorem FrB.of_below {b R : Nat} {w w' : World} (h : Below b w w') : FrB b R w w' := ⟨h.os, h.tape, h.output, h.size, fun k hk _ => h.block k hk⟩
theorem FrB.of_but {b R : Nat} {w w' : World} {X : List Nat} (h : But X w w') (hx : ∀ k ∈ X, k = R ∨ b ≤ k) (hb : b ≤ w.heap.size) : FrB b R w w' :=
  ⟨h.os, h.tape, h.output, h.size, fun k hk hR => h.block k (by omega) (fun hm => by rcases hx k hm with e | e <;> omega)⟩
structure BufRow (w : World) (b g cap n : Nat) (cu : Array Value) (bs : List Value) : Prop where
  buf : ∃ lr, Lies w b 79 #[.slice (some ⟨g, 0, none⟩) n cap, .int .i64 0, .int .i8 lr]
  row : Lies w g 5 cu
  size : cu.size = cap
  le : n ≤ cap
  max : cap ≤ maxLen
  pre : cu.toList.take n = bs
  len : bs.length = n
  bg : b ≤ g
  ne : g ≠ b
theorem bufRow_of {w : World} {b n : Nat} {bs : List Value} (h : Lib.IsBuffer 79 5 b b bs w) (hl : bs.length = n) (hn : 0 < n) : ∃ g cap cu, BufRow w b g cap n cu bs := by
  obtain ⟨_, v, lr, h1, h2, h3⟩ := h
  rw [hl] at h2
  rcases h2.2 with ⟨_, h0⟩ | ⟨g, cap, cu, hv, hb, hg, hn1, hm, hs, ht⟩
  · omega
  · subst hv
    exact ⟨g, cap, cu, ⟨lr, h1⟩, hg, by simpa using hs, hn1, hm, by simpa using ht, hl, hb, fun e => h3 (by rw [e]; rfl)⟩
theorem BufRow.is {w : World} {b g cap n : Nat} {cu : Array Value} {bs : List Value} (h : BufRow w b g cap n cu bs) : Lib.IsBuffer 79 5 b b bs w := by
  obtain ⟨⟨lr, h1⟩, h2, h3, h4, h5, h6, h7, h8, h9⟩ := h
  refine ⟨Nat.le_refl _, .slice (some ⟨g, 0, none⟩) n cap, lr, h1, ⟨by simp, .inr ⟨g, cap, cu, by rw [h7], h8, h2, by omega, h5, by simpa using h3, by rw [h7]; simpa using h6⟩⟩, by simp [Value.ownBlock]; exact h9⟩
theorem run_slice_upto {P : Program} (W : World) (t e : TypeId) (ht : P.underlying t = some (.slice e)) (hz : ∀ w, (Go.sizeOf e).run P w = .ok 1 w) (b len cap h : Nat) (hh : h ≤ cap) (hc : 0 < cap) :
    (Instr.slice t (.slice (some ⟨b, 0, none⟩) len cap) none (some (.int .i64 (h : Int))) none).run P W = .ok (.slice (some ⟨b, 0, none⟩) h cap) W := by
  have ht' : P.underlying t = some (.slice (P.elem t)) := by simp [Program.elem, ht]
  have he : P.elem t = e := by simp [Program.elem, ht]
  rw [run_slice_h W t _ _ _ ht' .i64 _ (by omega) (by omega), he, hz]
  simp [Result.andThen, sliced, Addr.add]
theorem RdrAt.keep {w w' : World} {R X : Nat} {l : List UInt8} {m : Nat} (h : RdrAt w R X l m) (hR : w'.heap[R]? = w.heap[R]?) (hX : w'.heap[X]? = w.heap[X]?) : RdrAt w' R X l m := by
  obtain ⟨⟨c, pr, hl, hc⟩, _, _, hle, _⟩ := id h
  exact h.to (hR.trans hl) hc hle hX
theorem newRow {w w4 : World} {b g cap m K : Nat} {cu : Array Value} {bs ys : List Value} {lr : Int} (h : BufRow w b g cap m cu bs) (hb : Lies w4 b 79 #[.slice (some ⟨g, 0, none⟩) m cap, .int .i64 0, .int .i8 lr]) (hr : Lies w4 g 5 (cu.toList.take m ++ ys ++ cu.toList.drop (m + K)).toArray) (hK : K ≤ cap - m) (hy : ys.length = K := by simp [bytesV]; omega) :
    BufRow w4 b g cap m (cu.toList.take m ++ ys ++ cu.toList.drop (m + K)).toArray bs := by
  have h1 := h.le
  have h2 : cu.toList.length = cap := by rw [Array.length_toList]; exact h.size
  refine ⟨⟨lr, hb⟩, hr, ?_, h1, h.max, ?_, h.len, h.bg, h.ne⟩
  · simp only [List.size_toArray, List.length_append, List.length_take, List.length_drop, h2, hy]; omega
  · rw [List.toList_toArray, List.append_assoc, List.take_append_of_le_length (by rw [List.length_take]; omega), List.take_take, Nat.min_self]; exact h.pre
theorem RfStep {w wc : World} {b g R X cap m K : Nat} {cu : Array Value} {l : List UInt8} {lr : Int} (hrow : BufRow wc b g cap m (cu.toList.take m ++ bytesV ((l.drop m).take K) ++ cu.toList.drop (m + K)).toArray (bytesV (l.take m))) (hb : Lies wc b 79 #[.slice (some ⟨g, 0, none⟩) m cap, .int .i64 0, .int .i8 lr])
    (hrdr : RdrAt wc R X l (m + K)) (hfr : FrB b R w wc) (hRb : R < b) (hXR : X < R) (hK : K ≤ l.length - m) (hKc : m + K ≤ cap) (hpre : cu.toList.take m = bytesV (l.take m)) :
    Lib.IsBuffer 79 5 b b (bytesV (l.take (m + K))) (wc.setCell ⟨b, 0, none⟩ (.slice (some ⟨g, 0, none⟩) (m + K) cap)) ∧ RdrAt (wc.setCell ⟨b, 0, none⟩ (.slice (some ⟨g, 0, none⟩) (m + K) cap)) R X l (m + K) ∧ FrB b R w (wc.setCell ⟨b, 0, none⟩ (.slice (some ⟨g, 0, none⟩) (m + K) cap)) := by
  have hm := hrdr.le
  refine ⟨BufRow.is (g := g) (cap := cap) (n := m + K) (cu := (cu.toList.take m ++ bytesV ((l.drop m).take K) ++ cu.toList.drop (m + K)).toArray) ⟨⟨lr, hb.set 0 _⟩, hrow.row.other hrow.ne _, hrow.size, hKc, hrow.max, ?_, ?_, hrow.bg, hrow.ne⟩, hrdr.keep (heap_setCell_other _ _ _ _ (by simp; omega)) (heap_setCell_other _ _ _ _ (by simp; omega)), hfr.trans (.of_below ((Below.refl b wc).setCell (Nat.le_refl _) _))⟩
  · rw [List.toList_toArray, hpre, List.take_append_of_le_length (by simp [bytesV]; omega), List.take_of_length_le (by simp [bytesV]; omega)]
    simp only [bytesV, ← List.map_append]
    rw [List.take_add]
  · rw [bytesV_len, List.length_take]; omega
theorem BufRow.below {w w' : World} {b g cap n : Nat} {cu : Array Value} {bs : List Value} (h : BufRow w b g cap n cu bs) (hb : Below w.heap.size w w') : BufRow w' b g cap n cu bs := by
  obtain ⟨lr, h1⟩ := h.buf
  exact { h with buf := ⟨lr, h1.below hb⟩, row := h.row.below hb }
theorem bufAt_of {w : World} {b g cap : Nat} {cu : Array Value} {l : List UInt8} {lr : Int} (h : BufRow w b g cap l.length cu (bytesV (l.take l.length))) (hb : Lies w b 79 #[.slice (some ⟨g, 0, none⟩) l.length cap, .int .i64 0, .int .i8 lr]) (hc : l.length < cap) (hl : l.length ≤ 100000) :
    BufAt (w.setCell ⟨b, 0, none⟩ (.slice (some ⟨g, 0, none⟩) l.length cap)) b g l 0 cap cu := by
  refine ⟨⟨lr, hb.set 0 _⟩, h.row.other h.ne _, fun i hi => ?_, hc, by omega, hl⟩
  have hp := h.pre
  rw [List.take_length] at hp
  have : (cu.toList.take l.length)[i]? = some (.int .u8 (l[i].toNat : Nat)) := by rw [hp]; simp [bytesV, hi]
  rw [List.getElem?_take_of_lt hi] at this
  simpa using this
theorem nil_ahead (a : Addr) (W : World) : (nilAhead 410 66 (.pointer (some a)) "Read").run Tryz.prog W = .ok (some false) W := by kernel_rfl
theorem method_read (a : Addr) (W : World) : (method 410 66 (.pointer (some a)) "Read").run Tryz.prog W = .ok (183, .pointer (some a)) W := by kernel_rfl
set_option maxRecDepth 100000 in
set_option maxHeartbeats 8000000 in
theorem ReadFrom_calls {w : World} {b R X N : Nat} {l : List UInt8} (hE : BaseE N w) (hNX : N ≤ X) (h : RdrAt w R X l 0) (hRb : R < b) (hb : Lies w b 79 #[.slice none 0 0, .int .i64 0, .int .i8 0]) :
    Calls Tryz.prog 29 #[.pointer (some ⟨b, 0, none⟩), .iface 66 (.pointer (some ⟨R, 0, none⟩))] w fun e w' => e = .returned (.tuple #[.int .i64 l.length, .nilIface]) ∧ (∃ g cap cu, BufAt w' b g l 0 cap cu ∧ b ≤ g) ∧ FrB b R w w' := by
  have hlb := hb.lt
  have hXR := h.lt
  have hlen := h.len
  have HH := Lib.hid h
  have HB0 := Lib.hid hb
  have HE := Lib.hid hE
  have k2 := hb.cell 2
  have f2 := hb.frozen 2
  simp only [List.getElem?_toArray, List.getElem?_cons_zero, List.getElem?_cons_succ] at k2
  clear h hb hE
  go_enter Tryz.func29, Tryz.ntmps29
  go_wp2_with fail
  go_loopw [4] (fun v4 wr => ∃ m : Nat, v4 = .int .i64 m ∧ m ≤ l.length ∧ Hid (Lib.IsBuffer 79 5 b b (bytesV (l.take m)) wr) ∧ Hid (RdrAt wr R X l m) ∧ Hid (FrB b R w wr)) (fun v _ => l.length - (intOf v).toNat)
  case atStart => exact ⟨0, rfl, by omega, Lib.hid (by have := HB0.out.set 2 (.int .i8 0); exact ⟨Nat.le_refl _, .slice none 0 0, 0, this, World.ownsRow_nil _ _ _ _, by simp [Value.ownBlock]⟩), Lib.hid (HH.out.keep (heap_setCell_other _ _ _ _ (by simp; omega)) (heap_setCell_other _ _ _ _ (by simp; omega))), Lib.hid (.of_below ((Below.refl b w).setCell (Nat.le_refl _) _))⟩
  case round =>
    obtain ⟨m, rfl, hm, HI, HR, HF⟩ := hrel
    have hbw : b ≤ wr.heap.size := by have := HF.out.size; omega
    have hml : (bytesV (l.take m)).length = m := by rw [bytesV_len, List.length_take]; omega
    have HG := Lib.hid (grow_calls b b 512 (bytesV (l.take m)) wr HI.out (by decide) hbw (bytesV_one _) (by omega))
    rw [hml] at HG
    have HML := Lib.hid hml
    clear hml
    go_upto_region 3 with (go_at_call 34; refine HG.out.mono ?_; rintro e w1 ⟨rfl, xs, hx1, hx2, hx3⟩)
    obtain ⟨g, cap, cu, hrow⟩ := bufRow_of hx2 (n := m + 512) (by rw [List.length_append, HML.out, hx1]) (by omega)
    obtain ⟨lr, hb1⟩ := hrow.buf
    have c0 := hb1.cell 0
    have f0 := hb1.frozen 0
    simp only [List.getElem?_toArray, List.getElem?_cons_zero] at c0
    have hcap := hrow.le
    have hmax := hrow.max
    unfold maxLen at hmax
    have sl1 := fun W => run_slice_upto (P := Tryz.prog) W 68 5 Tryz.underlying68 size5 g (m + 512) cap m (by omega) (by omega)
    have HROW := Lib.hid hrow
    have HX1 := Lib.hid hx1
    have HX3 := Lib.hid hx3
    have HB1 := Lib.hid hb1
    clear hrow hx1 hx2 hx3 hb1
    go_cut [] from 12 to 66 (fun wx => BufRow wx b g cap m cu (bytesV (l.take m)) ∧ RdrAt wx R X l m ∧ FrB b R w wx)
    case first =>
      go_wp2_with fail
      go_meet
      have hr := HROW.out
      refine ⟨⟨⟨lr, HB1.out.set 0 _⟩, hr.row.other hr.ne _, hr.size, by omega, hr.max, ?_, HML.out, hr.bg, hr.ne⟩, HR.out.keep (by rw [heap_setCell_other _ _ _ _ (by simp; omega)]; exact HX3.out.block R hRb) (by rw [heap_setCell_other _ _ _ _ (by simp; omega)]; exact HX3.out.block X (by omega)), HF.out.trans (.of_below (HX3.out.setCell (Nat.le_refl _) _))⟩
      have := congrArg (List.take m) hr.pre
      rw [List.take_take, Nat.min_eq_left (by omega), List.take_append_of_le_length (by rw [HML.out]; omega)] at this
      rw [this]; exact List.take_of_length_le (by rw [HML.out]; omega)
    case rest =>
      obtain ⟨hrow, hrdr, hfr⟩ := hcut
      obtain ⟨lr2, hb2⟩ := hrow.buf
      have d0 := hb2.cell 0
      have e0 := hb2.frozen 0
      simp only [List.getElem?_toArray, List.getElem?_cons_zero] at d0
      have sl2 := fun W => run_slice_to (P := Tryz.prog) W 68 5 Tryz.underlying68 size5 g 0 m cap m cap (by omega) (by omega) (by omega)
      simp only [Nat.zero_add] at sl2
      have hmi : (m : Int) ≤ (cap : Int) := by omega
      have HB2 := Lib.hid hb2
      have HROW2 := Lib.hid hrow
      have HRDR := Lib.hid hrdr
      have HFR := Lib.hid hfr
      clear hb2 hrow hrdr hfr sl1 c0 f0
      have hna := nil_ahead
      have hme := method_read
      obtain ⟨ea, heof⟩ := HE.out.eof
      have hNR : 1 < N := HE.out.base.big.1
      by_cases hmn : m < l.length
      · generalize hK : Nat.min (l.length - m) (cap - m) = K at *
        have hK1 : K ≤ l.length - m := by rw [← hK]; exact Nat.min_le_left _ _
        have hK2 : K ≤ cap - m := by rw [← hK]; exact Nat.min_le_right _ _
        have hK0 : 0 < K := by rw [← hK]; simp only [Nat.min_def]; split <;> omega
        have HRS := Lib.hid (fun (W : World) (h1 : RdrAt W R X l m) (h2 : Lies W g 5 cu) => Read_some (d := cap - m) (dc := cap - m) (o := m) h1 hmn h2 (by have := HROW2.out.bg; omega) (by have := HROW2.out.size; omega) (by omega))
        rw [hK] at HRS
        have HK := Lib.hid hK
        clear hK
        go_upto_region 4 with (fail)
        go_cut [7, 8] from 12 to 66 (fun v7 v8 wx => v7 = .int .i64 K ∧ v8 = .nilIface ∧ BufRow wx b g cap m (cu.toList.take m ++ bytesV ((l.drop m).take K) ++ cu.toList.drop (m + K)).toArray (bytesV (l.take m)) ∧ RdrAt wx R X l (m + K) ∧ FrB b R w wx)
        case first =>
          go_region_held3 (fun w' => w'.cell? ⟨b, 0, none⟩ = some (.slice (some ⟨g, 0, none⟩) m cap)) (go_keep)
            (first | (go_at_call 183; refine (HRS.out wc.drew (HRDR.out.keep rfl rfl) (HROW2.out.row.below ((Below.refl _ _).drew))).mono ?_; rintro e w4 ⟨rfl, r1, r2, r3⟩; have R1 := Lib.hid r1; have R2 := Lib.hid r2; have R3 := Lib.hid r3; clear r1 r2 r3; have hb4 := (HB2.out.below ((Below.refl _ _).drew)).but R3.out (by have := HROW2.out.ne; simp; omega); have d4 := hb4.cell 0; simp only [List.getElem?_toArray, List.getElem?_cons_zero] at d4; have HB4 := Lib.hid hb4; clear hb4))
          go_wp2_with fail
          go_meet
          exact ⟨rfl, rfl, newRow HROW2.out HB4.out R2.out hK2, R1.out, HFR.out.trans ((FrB.of_below ((Below.refl b wc).drew)).trans (.of_but R3.out (by have := HROW2.out.bg; simp; omega) (by have := HFR.out.size; simp; omega)))⟩
        case rest =>
          obtain ⟨rfl, rfl, hrow3, hrdr3, hfr3⟩ := hcut
          obtain ⟨lr3, hb3⟩ := hrow3.buf
          have g0 := hb3.cell 0
          have i0 := hb3.frozen 0
          simp only [List.getElem?_toArray, List.getElem?_cons_zero] at g0
          have sl3 := fun W => run_slice_upto (P := Tryz.prog) W 68 5 Tryz.underlying68 size5 g m cap (m + K) (by omega) (by omega)
          have ecast : ((m + K : Nat) : Int) = (m : Int) + (K : Int) := by omega
          rw [ecast] at sl3
          have heof3 : wc.cell? ⟨1, 0, none⟩ = some (.iface 136 (.pointer (some ea))) := by
            rw [← heof]
            simp only [World.cell?, hfr3.block 1 (by omega) (by omega)]
          have hbe : ¬ b = 1 := by omega
          have hbe' : ¬ 1 = b := by omega
          have hnil := fun W a => eql_nil W 136 (.pointer (some a))
          have HROW3 := Lib.hid hrow3
          have HRDR3 := Lib.hid hrdr3
          have HFR3 := Lib.hid hfr3
          have HB3 := Lib.hid hb3
          have HEC := Lib.hid ecast
          clear hrow3 hrdr3 hfr3 hb3 ecast d0 e0 sl2
          go_wp2_with fail
          have hst := RfStep HROW3.out HB3.out HRDR3.out HFR3.out hRb hXR hK1 (by omega) HROW2.out.pre
          go_roundw
          case rel => exact ⟨m + K, by rw [HEC.out], by omega, Lib.hid hst.1, Lib.hid hst.2.1, Lib.hid hst.2.2⟩
          case measure => simp [intOf]; omega
      · have hml : m = l.length := by omega
        subst hml
        have heofc : wc.drew.cell? ⟨1, 0, none⟩ = some (.iface 136 (.pointer (some ea))) := by
          rw [← heof, show wc.drew.cell? ⟨1, 0, none⟩ = wc.cell? ⟨1, 0, none⟩ by simp]
          simp only [World.cell?, HFR.out.block 1 (by omega) (by omega)]
        have HRS := Lib.hid (fun d => Read_end (w := wc.drew) _ d (HRDR.out.keep rfl rfl) ⟨_, _, rfl⟩ heofc)
        have hbe : ¬ b = 1 := by omega
        have hbe' : ¬ 1 = b := by omega
        clear heofc
        go_upto_region 4 with (fail)
        go_cut [7, 8] from 12 to 66 (fun v7 v8 wx => v7 = .int .i64 0 ∧ v8 = .iface 136 (.pointer (some ea)) ∧ BufRow wx b g cap l.length cu (bytesV (l.take l.length)) ∧ FrB b R w wx)
        case first =>
          go_region_held3 (fun w' => w'.cell? ⟨b, 0, none⟩ = some (.slice (some ⟨g, 0, none⟩) l.length cap)) (go_keep)
            (first | (go_at_call 183; refine (HRS.out _).mono ?_; rintro e w4 ⟨rfl, q4, rfl⟩))
          go_wp2_with fail
          go_meet
          have hbb := below_drewN (Below.refl wc.heap.size wc) (1 + q4)
          exact ⟨rfl, rfl, HROW2.out.below hbb, HFR.out.trans (.of_below (below_down hbb (by have := HFR.out.size; omega)))⟩
        case rest =>
          obtain ⟨rfl, rfl, hrow3, hfr3⟩ := hcut
          obtain ⟨lr3, hb3⟩ := hrow3.buf
          have g0 := hb3.cell 0
          have i0 := hb3.frozen 0
          simp only [List.getElem?_toArray, List.getElem?_cons_zero] at g0
          have sl3 := fun W => run_slice_upto (P := Tryz.prog) W 68 5 Tryz.underlying68 size5 g l.length cap l.length (by omega) (by omega)
          have heof3 : wc.cell? ⟨1, 0, none⟩ = some (.iface 136 (.pointer (some ea))) := by
            rw [← heof]
            simp only [World.cell?, hfr3.block 1 (by omega) (by omega)]
          have heq := fun W => eql_err W ea
          have HROW3 := Lib.hid hrow3
          have HFR3 := Lib.hid hfr3
          have HB3 := Lib.hid hb3
          clear hrow3 hfr3 hb3 d0 e0 sl2
          go_wp2_with fail
          go_ret2
          exact ⟨rfl, ⟨g, cap, cu, bufAt_of HROW3.out HB3.out (by omega) hlen, HROW3.out.bg⟩, HFR3.out.trans (.of_below ((Below.refl b wc).setCell (Nat.le_refl _) _))⟩
end Go.Proofs.YtlghdacdpkaoeaaGreatDoor
