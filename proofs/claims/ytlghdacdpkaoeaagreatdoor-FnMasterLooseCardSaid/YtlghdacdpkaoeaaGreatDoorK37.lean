import Derived.Test.YtlghdacdpkaoeaaGreatDoorK31
import Derived.Test.YtlghdacdpkaoeaaGreatDoorK33
import Derived.Lib.ConvBytes
import Derived.Laws.IdiomStrings
import Derived.Lib.BufferWrite
import Derived.BigQuiet
import Derived.Deep.RegionHeld3
import Derived.Laws.CopyRow
import Derived.Lib.SlBuf
section
namespace Go.Proofs.YtlghdacdpkaoeaaGreatDoor
open Go.RowKit Go.Proofs.YtlghdacdpkaoeaaGreatDoorW.PrintWords Go.Maps
open Go.Lib hiding intOf
set_option linter.unusedVariables false
set_option linter.unusedSimpArgs false
structure LineP (p : Line × Line) : Prop where
  trim : Trimmed p.1
  sp : ∀ c ∈ p.2, Lib.isSp c = true ∧ c < 128
  no10 : (10 : UInt8) ∉ p.1 ++ p.2
def textOf (ps : List (Line × Line)) : List UInt8 := unlines (ps.map fun p => p.1 ++ p.2)
theorem textOf_append (a b : List (Line × Line)) : textOf (a ++ b) = textOf a ++ textOf b := by simp [textOf, unlines_append]
def LN (ps done : List (Line × Line)) (from' k : Nat) : Prop :=
  ∃ rest, ps = done ++ rest ∧ from' = (textOf done).length ∧ ((rest = [] ∧ k = from') ∨ ∃ p c left r, rest = p :: r ∧ p.1 ++ p.2 = c ++ left ∧ k = from' + c.length)
theorem LN.start (ps : List (Line × Line)) : LN ps [] 0 0 := by
  refine ⟨ps, rfl, rfl, ?_⟩
  cases ps with
  | nil => exact .inl ⟨rfl, rfl⟩
  | cons p r => exact .inr ⟨p, [], p.1 ++ p.2, r, rfl, rfl, rfl⟩
theorem LN.next {ps done : List (Line × Line)} {p : Line × Line} (h : ∃ r, ps = (done ++ [p]) ++ r) : LN ps (done ++ [p]) (textOf (done ++ [p])).length (textOf (done ++ [p])).length := by
  obtain ⟨r, rfl⟩ := h
  refine ⟨r, rfl, rfl, ?_⟩
  cases r with
  | nil => exact .inl ⟨rfl, rfl⟩
  | cons p r => exact .inr ⟨p, [], p.1 ++ p.2, r, rfl, rfl, rfl⟩
theorem textOf_one (done : List (Line × Line)) (p : Line × Line) : textOf (done ++ [p]) = textOf done ++ ((p.1 ++ p.2) ++ [10]) := by
  rw [textOf_append]; simp [textOf, unlines]
theorem LN.at {ps done : List (Line × Line)} {from' k : Nat} (h : LN ps done from' k) (hps : ∀ p ∈ ps, LineP p) (hk : k < (textOf ps).length) :
    (∃ c, (textOf ps)[k]? = some c ∧ c ≠ 10 ∧ LN ps done from' (k + 1)) ∨
    (∃ p, (textOf ps)[k]? = some 10 ∧ LineP p ∧ from' ≤ k ∧ (textOf ps).drop from' = (p.1 ++ p.2) ++ 10 :: (textOf ps).drop (k + 1) ∧ k = from' + (p.1 ++ p.2).length ∧ LN ps (done ++ [p]) (k + 1) (k + 1)) := by
  obtain ⟨rest, h1, h2, h3⟩ := h
  rcases h3 with ⟨rfl, h4⟩ | ⟨p, c, left, r, rfl, h4, h5⟩
  · exfalso
    rw [List.append_nil] at h1
    rw [h1] at hk; omega
  · have hp := hps p (by rw [h1]; simp)
    have htx : textOf ps = textOf done ++ ((c ++ left) ++ 10 :: textOf r) := by
      rw [h1, textOf_append]
      simp [textOf, unlines, ← h4]
    cases left with
    | cons a left =>
      refine .inl ⟨a, ?_, ?_, ?_⟩
      · rw [htx, h5, h2, List.getElem?_append_right (by omega), Nat.add_sub_cancel_left]
        simp
      · intro e
        have := hp.no10
        rw [h4, e] at this
        exact this (by simp)
      · exact ⟨p :: r, h1, h2, .inr ⟨p, c ++ [a], left, r, rfl, by simp [h4], by simp; omega⟩⟩
    | nil =>
      rw [List.append_nil] at h4 htx
      refine .inr ⟨p, ?_, hp, by omega, ?_, by rw [h4]; exact h5, ?_⟩
      · rw [htx, h5, h2, List.getElem?_append_right (by omega), Nat.add_sub_cancel_left]
        simp
      · have e1 : (textOf ps).drop (k + 1) = textOf r := by
          rw [htx, h5, h2, show (textOf done).length + c.length + 1 = (textOf done ++ (c ++ [10])).length by simp; omega]
          rw [show textOf done ++ (c ++ 10 :: textOf r) = (textOf done ++ (c ++ [10])) ++ textOf r by simp, List.drop_left]
        rw [e1, htx, h2, List.drop_left, h4]
      · have e2 : k + 1 = (textOf (done ++ [p])).length := by rw [textOf_one, h4, h5, h2]; simp; omega
        rw [e2]
        exact LN.next ⟨r, by rw [h1]; simp⟩
theorem LN.end {ps done : List (Line × Line)} {from' k : Nat} (h : LN ps done from' k) (hk : (textOf ps).length ≤ k) : done = ps ∧ from' = (textOf ps).length ∧ k = from' := by
  obtain ⟨rest, h1, h2, h3⟩ := h
  rcases h3 with ⟨rfl, h4⟩ | ⟨p, c, left, r, rfl, h4, h5⟩
  · rw [List.append_nil] at h1
    subst h1; exact ⟨rfl, h2, h4⟩
  · exfalso
    have htx : textOf ps = textOf done ++ ((c ++ left) ++ 10 :: textOf r) := by
      rw [h1, textOf_append]
      simp [textOf, unlines, ← h4]
    rw [htx] at hk
    simp at hk; omega
def numsOf' (l : List UInt8) : List Int := l.map fun c => (c.toNat : Int)
theorem dropWhile_all {ws : List UInt8} (hw : ∀ c ∈ ws, Lib.isSp c = true) : ws.dropWhile Lib.isSp = [] := by
  induction ws with
  | nil => rfl
  | cons a r ih => rw [List.dropWhile_cons, hw a (by simp)]; simp; exact ih (fun c hc => hw c (by simp [hc]))
theorem conv_trim (W : World) (l ws : List UInt8) (cap : Nat) (h : Trimmed l) (hw : ∀ c ∈ ws, Lib.isSp c = true) :
    (convert 68 9 (Lib.bytesTrimSpace W.heap.size 0 cap (l ++ ws))).run Tryz.prog (Lib.bytesWorld W 5 (bs (l ++ ws))) = .ok (.string (bs l)) (Lib.bytesWorld W 5 (bs (l ++ ws))) := by
  unfold Lib.bytesTrimSpace
  cases l with
  | nil =>
    rw [List.nil_append, if_pos (dropWhile_all hw)]
    exact run_convert_bytes_nil _ _ _ Tryz.underlying68 Tryz.underlying5 _ _ _ Tryz.underlying9
  | cons a r =>
    have e1 : (a :: r ++ ws).dropWhile Lib.isSp = a :: r ++ ws := dropWhile_none (l := a :: r ++ ws) (by intro c hc; exact h.head c (by simpa using hc))
    have e2 : Lib.spLo (a :: r ++ ws) = 0 := by unfold Lib.spLo; rw [e1]; simp
    rw [e1, if_neg (by simp), e2, trim_eq h hw]
    refine run_convert_bytes_back _ _ _ 5 _ _ (a :: r) Tryz.underlying68 Tryz.underlying5 Tryz.underlying9 (fun j hj => ?_)
    have ea : (⟨W.heap.size, 0 + 0, none⟩ : Addr).add j = ⟨W.heap.size, j, none⟩ := by
      unfold Addr.add; split <;> simp_all
    rw [ea]
    have := Lib.bytesWorld_cell W 5 (bs (a :: r ++ ws)) j (by rw [bs_size]; simp at hj ⊢; omega)
    rw [this, bs_toList]
    congr 2
    rw [List.getD_eq_getElem?_getD, List.getElem?_append_left hj, List.getElem?_eq_getElem hj]; rfl
theorem trim_calls {N : Nat} (W : World) (l ws : List UInt8) (hB : Base N W) (h : Trimmed l) (hw : ∀ c ∈ ws, Lib.isSp c = true ∧ c < 128) (hs : l.length + ws.length ≤ 100000) (cap : Nat) (hcap : l.length + ws.length ≤ cap) :
    Calls Tryz.prog 33 #[.slice (some ⟨W.heap.size, 0, none⟩) (l.length + ws.length) cap] (Lib.bytesWorld W 5 (bs (l ++ ws))) fun e w' => e = .returned (Lib.bytesTrimSpace W.heap.size 0 cap (l ++ ws)) ∧ w' = Lib.bytesWorld W 5 (bs (l ++ ws)) := by
  have hb : Below N W (Lib.bytesWorld W 5 (bs (l ++ ws))) := below_down (bytesWorld_below _ _ _) hB.size
  have := Tryz.bytes_TrimSpace W.heap.size 0 (l.length + ws.length) cap (numsOf' (l ++ ws)) (Lib.bytesWorld W 5 (bs (l ++ ws))) (by simp [numsOf']) hcap (by omega) (fun i hi => by
      rw [Nat.zero_add, Lib.bytesWorld_cell _ _ _ _ (by rw [bs_size]; simp; omega), bs_toList]
      congr 2
      simp only [numsOf', List.getD_eq_getElem?_getD, List.getElem?_map]
      rw [List.getElem?_eq_getElem (by simp; omega)]; rfl) (fun i hi => by
      have hi' : i < (l ++ ws).length := by simp; omega
      have e : (numsOf' (l ++ ws)).getD i 0 = (((l ++ ws)[i]).toNat : Int) := by
        simp only [numsOf', List.getD_eq_getElem?_getD, List.getElem?_map]
        rw [List.getElem?_eq_getElem hi']; rfl
      rw [e]
      have hm : (l ++ ws)[i] ∈ l ++ ws := List.getElem_mem hi'
      have h128 : (l ++ ws)[i] < 128 := by
        rcases List.mem_append.1 hm with hm | hm
        · exact h.ascii _ hm
        · exact (hw _ hm).2
      have : ((l ++ ws)[i]).toNat < 128 := by simpa [UInt8.lt_iff_toNat_lt] using h128
      omega) (hB.below hb).bp
  have e : Lib.bytesOf (numsOf' (l ++ ws)) = l ++ ws := by
    unfold Lib.bytesOf numsOf'
    rw [List.map_map]
    refine (List.map_congr_left (g := id) (fun c _ => ?_)).trans (List.map_id _)
    simp
  rwa [e] at this
theorem trim_pack {N : Nat} (W : World) (l ws : List UInt8) (hB : Base N W) (h : Trimmed l) (hw : ∀ c ∈ ws, Lib.isSp c = true ∧ c < 128) (hs : l.length + ws.length ≤ 100000) : ∃ wb cap tv,
    (convert 9 68 (.string (bs (l ++ ws)))).run Tryz.prog W = .ok (.slice (some ⟨W.heap.size, 0, none⟩) (l.length + ws.length) cap) wb ∧ Calls Tryz.prog 33 #[.slice (some ⟨W.heap.size, 0, none⟩) (l.length + ws.length) cap] wb (fun e w' => e = .returned tv ∧ wb = w') ∧
    (convert 68 9 tv).run Tryz.prog wb = .ok (.string (bs l)) wb ∧ Below W.heap.size W wb := by
  refine ⟨Lib.bytesWorld W 5 (bs (l ++ ws)), grownCap W (l.length + ws.length) 0 5, Lib.bytesTrimSpace W.heap.size 0 (grownCap W (l.length + ws.length) 0 5) (l ++ ws), ?_, ?_, conv_trim W l ws _ h (fun c hc => (hw c hc).1), bytesWorld_below _ _ _⟩
  · rw [Lib.run_convert_string_bytes W _ _ _ _ Tryz.underlying9 Tryz.underlying68 Tryz.underlying5, bs_size, List.length_append]
  · exact (trim_calls W l ws hB h hw hs _ (grownCap_ge _ _ _ _)).mono (fun _ _ h => ⟨h.1, h.2.symm⟩)
theorem own_formS {w : World} {N : Nat} {e : TypeId} {v : Value} {n : Nat} {xs : List Value} (h : w.ownsRow N e 1 v n xs) : ∃ a c, v = .slice a n c := by
  rcases own_cases h with ⟨rfl, rfl⟩ | ⟨g, cap, rfl, _⟩
  · exact ⟨_, _, rfl⟩
  · exact ⟨_, _, rfl⟩
theorem infoS : (Tryz.prog.info? 9).map (fun i => (i.zero, i.size, i.bytes)) = some (some (.string ⟨#[]⟩), 1, 16) := by kernel_rfl
def strs (l : List Line) : List Value := l.map fun x => .string (bs x)
set_option maxRecDepth 100000 in
set_option maxHeartbeats 4000000 in
theorem lines_calls {N : Nat} (ps : List (Line × Line)) (w : World) (hB : Base N w) (hps : ∀ p ∈ ps, LineP p) (hsz : (textOf ps).length ≤ 100000) :
    Calls Tryz.prog 27 #[.string (bs (textOf ps))] w fun e w' => ∃ v, e = .returned v ∧ w'.ownsRow w.heap.size 9 1 v (ps.length + 1) (strs (ps.map Prod.fst ++ [[]])) ∧ Below w.heap.size w w' := by
  obtain ⟨i0, hi, hz0, hz1, hz2⟩ := info_parts infoS
  obtain ⟨T, hT⟩ : ∃ T, T = textOf ps := ⟨_, rfl⟩
  rw [← hT] at hsz ⊢
  have hTs : (bs T).size = T.length := bs_size T
  have HB := Lib.hid hB
  have HPS := Lib.hid hps
  have HT := Lib.hid hT
  have hs1 : (bs T).size ≤ 100000 := by omega
  have HTs := Lib.hid hTs
  clear hB hps hT hTs
  go_enter Tryz.func27, Tryz.ntmps27
  go_wp2_with fail
  go_loopw [3, 4, 5] (fun v3 v4 v5 wr => ∃ (k f : Nat) (outs : List Line), v4 = .int .i64 f ∧ v5 = .int .i64 k ∧ outs.length ≤ k ∧ k ≤ (bs T).size + 1 ∧ f ≤ k ∧ wr.ownsRow w.heap.size 9 1 v3 outs.length (strs outs) ∧ Below w.heap.size w wr ∧
      Hid ((∃ done, outs = done.map Prod.fst ∧ LN ps done f k ∧ k ≤ (bs T).size) ∨ (outs = ps.map Prod.fst ++ [[]] ∧ k = (bs T).size + 1))) (fun _ _ v5 _ => (bs T).size + 2 - (intOf v5).toNat)
  case atStart => exact ⟨0, 0, [], rfl, rfl, by simp, by omega, by omega, World.ownsRow_nil _ _ _ _, Below.refl _ _, Lib.hid (.inl ⟨[], rfl, LN.start ps, by omega⟩)⟩
  case round =>
    obtain ⟨k, f, outs, rfl, rfl, ho, hk, hfk, hown, hbel, hst⟩ := hrel
    rcases hst.out with ⟨done, hdone, hln, hkl⟩ | ⟨hfin, hkf⟩
    · by_cases hlt : k < (bs T).size
      · rcases hln.at HPS.out (by rw [← HT.out, ← HTs.out]; exact hlt) with ⟨c, hc, hc10, hln'⟩ | ⟨p, hc, hp, hfk', hdr, hkk, hln'⟩
        · rw [← HT.out] at hc
          obtain ⟨hkb, hcb⟩ := bs_at hc
          have t10 : ((((bs T)[k]'hkb).toNat : Int) == 10) = false := by
            rw [hcb]; exact neB (n := 10) (by decide) hc10
          have hks : ((k : Int) == ((bs T).size : Int)) = false := by rw [beq_eq_false_iff_ne]; omega
          have HLN := Lib.hid hln'
          have HDONE := Lib.hid hdone
          clear hln hln' hc hc10 hcb hdone
          go_wp2_with fail
          go_roundw
          case rel => exact ⟨k + 1, f, outs, rfl, by go_num, by omega, by omega, by omega, hown, hbel, Lib.hid (.inl ⟨done, HDONE.out, HLN.out, by omega⟩)⟩
          case measure => simp [intOf]; omega
        · rw [← HT.out] at hc hdr
          obtain ⟨hkb, hcb⟩ := bs_at hc
          have t10 : ((((bs T)[k]'hkb).toNat : Int) == 10) = true := by
            rw [hcb]; exact eqB (n := 10) (by decide) rfl
          have hks : ((k : Int) == ((bs T).size : Int)) = false := by rw [beq_eq_false_iff_ne]; omega
          have hll : p.1.length + p.2.length = k - f := by have := hkk; simp at this; omega
          have hex : (bs T).extract f k = bs (p.1 ++ p.2) := by
            have := bs_ext hdr
            rwa [show f + (p.1 ++ p.2).length = k by rw [← hkk]] at this
          obtain ⟨wb, cap, tv, hcv1, htr, hcv2, hbw⟩ := trim_pack wr p.1 p.2 (HB.out.below (below_down hbel HB.out.size)) hp.trim hp.sp (by omega)
          have HTR := Lib.hid htr
          have HBW := Lib.hid hbw
          have HLN := Lib.hid hln'
          have HDONE := Lib.hid hdone
          have hrow := row_below hown hbw
          have HOWN := Lib.hid (hrow.alloc (.cells #[.string (bs p.1)] 9))
          have HNEWS := Lib.hid (World.news_of_block (heap_alloc_new wb (.cells #[.string (bs p.1)] 9)))
          have HONE := Lib.hid (show ∀ u ∈ [Value.string (bs p.1)], u.oneCell' = true by intro u hu; simp at hu; subst hu; rfl)
          have hb63 : outs.length + 1 ≤ maxLen := by unfold maxLen; omega
          have hb47 : (outs.length + 1) * 16 ≤ 140737488355328 := by omega
          have hwb : w.heap.size ≤ wb.heap.size := Nat.le_trans hbel.size hbw.size
          have hbase : w.heap.size ≤ (wb.alloc (.cells #[.string (bs p.1)] 9)).heap.size := by simp; omega
          have HOW := Lib.hid hrow
          have HBE := Lib.hid hbel
          have hfk1 : (f : Int) ≤ (k : Int) := by omega
          clear hln hln' hc hcb hdone hdr hbw htr hrow hown hbel hkk hll
          go_wp2_with (first
            | (go_at_call 33; refine HTR.out.mono ?_; rintro e w1 ⟨rfl, rfl⟩)
            | (refine wpList_append_lies _ rfl _ _ 50 rfl w.heap.size 9 i0 _ 1 16 Tryz.underlying50 hi hz0 hz1 hz2 rfl (by decide) _ _ _ rfl HOWN.out ⟨wb.heap.size, 0, none⟩ 1 1 [.string (bs p.1)] rfl rfl HNEWS.out HONE.out (by decide) hb63 hb47 hbase _ rfl ?_; intro g cap2 w5 hown' hgrow hat hlt4; have hg' := Lib.hid hgrow; have hat' := Lib.hid hat; have hown2 := Lib.hid hown'; clear hgrow hat hown'))
          have hb5 : Below w.heap.size w w5 := ((HBE.out.trans (below_down HBW.out (by have := HBE.out.size; omega))).alloc (by omega) _).grown hg'.out hbase (own_base HOW.out)
          go_roundw
          case rel => exact ⟨k + 1, k + 1, outs ++ [p.1], by go_num, by go_num, by simp; omega, by omega, by omega, by simpa [strs] using hown2.out, hb5, Lib.hid (.inl ⟨done ++ [p], by simp [HDONE.out], HLN.out, by omega⟩)⟩
          case measure => simp [intOf]; omega
      · skip
        obtain ⟨hdn, hf, hkf⟩ := hln.end (by rw [← HT.out, ← HTs.out]; omega)
        have hkz : k = (bs T).size := by omega
        have hfz : f = (bs T).size := by omega
        subst hkz hfz
        have hks : (((bs T).size : Int) == ((bs T).size : Int)) = true := by simp
        obtain ⟨wb, cap, tv, hcv1, htr, hcv2, hbw⟩ := trim_pack wr [] [] (HB.out.below (below_down hbel HB.out.size)) ⟨by simp, by simp, by simp⟩ (by simp) (by simp)
        have HBW := Lib.hid hbw
        simp only [List.append_nil, List.length_nil, Nat.add_zero] at hcv1 htr
        rw [show bs [] = ByteArray.empty from rfl] at hcv1
        have HDONE := Lib.hid (hdn ▸ hdone)
        have HTR := Lib.hid htr
        have hrow := row_below hown hbw
        have HOWN := Lib.hid (hrow.alloc (.cells #[.string (bs [])] 9))
        have HNEWS := Lib.hid (World.news_of_block (heap_alloc_new wb (.cells #[.string (bs [])] 9)))
        have HONE := Lib.hid (show ∀ u ∈ [Value.string (bs [])], u.oneCell' = true by intro u hu; simp at hu; subst hu; rfl)
        have hb63 : outs.length + 1 ≤ maxLen := by unfold maxLen; omega
        have hb47 : (outs.length + 1) * 16 ≤ 140737488355328 := by omega
        have hwb : w.heap.size ≤ wb.heap.size := Nat.le_trans hbel.size hbw.size
        have hbase : w.heap.size ≤ (wb.alloc (.cells #[.string (bs [])] 9)).heap.size := by simp; omega
        have HOW := Lib.hid hrow
        have HBE := Lib.hid hbel
        clear hln hdone hbw htr hrow hown hbel hf hkf
        go_wp2_with (first
          | (go_at_call 33; refine HTR.out.mono ?_; rintro e w1 ⟨rfl, rfl⟩)
          | (refine wpList_append_lies _ rfl _ _ 50 rfl w.heap.size 9 i0 _ 1 16 Tryz.underlying50 hi hz0 hz1 hz2 rfl (by decide) _ _ _ rfl HOWN.out ⟨wb.heap.size, 0, none⟩ 1 1 [.string (bs [])] rfl rfl HNEWS.out HONE.out (by decide) hb63 hb47 hbase _ rfl ?_; intro g cap2 w5 hown' hgrow hat hlt4; have hg' := Lib.hid hgrow; have hat' := Lib.hid hat; have hown2 := Lib.hid hown'; clear hgrow hat hown'))
        have hb5 : Below w.heap.size w w5 := ((HBE.out.trans (below_down HBW.out (by have := HBE.out.size; omega))).alloc (by omega) _).grown hg'.out hbase (own_base HOW.out)
        go_roundw
        case rel => exact ⟨(bs T).size + 1, (bs T).size + 1, outs ++ [[]], by go_num, by go_num, by simp; omega, by omega, by omega, by simpa [strs] using hown2.out, hb5, Lib.hid (.inr ⟨by rw [HDONE.out], rfl⟩)⟩
        case measure => simp [intOf]
    · subst hkf
      have HF := Lib.hid hfin
      clear hfin
      go_wp2_with fail
      go_ret
      have e := HF.out
      subst e
      exact ⟨_, rfl, by simpa using hown, hbel⟩
end Go.Proofs.YtlghdacdpkaoeaaGreatDoor
end
section
namespace Go.Proofs.YtlghdacdpkaoeaaGreatDoor
open Go.RowKit Go.Proofs.YtlghdacdpkaoeaaGreatDoorW.PrintWords Go.Maps Go.Proofs.YtlghdacdpkaoeaaGreatDoor.PFnMasterLoose
open Go.Lib hiding intOf
set_option linter.unusedVariables false
set_option linter.unusedSimpArgs false
theorem take_prefix (s p : List UInt8) (h : p.length ≤ s.length) : (s.take p.length == p) = p.isPrefixOf s := by
  rw [Bool.eq_iff_iff, beq_iff_eq, List.isPrefixOf_iff_prefix]
  constructor
  · intro e; rw [← e]; exact List.take_prefix _ _
  · intro e; exact (List.prefix_iff_eq_take.1 e).symm
theorem begins_calls (s p : List UInt8) (w : World) : Calls Tryz.prog 28 #[.string (bs s), .string (bs p)] w fun e w' => e = .returned (.bool (Lib.hasPrefix s p)) ∧ Drawn0 w w' := by
  refine impl_begins.calls (bs s) (bs p) _ w ?_
  unfold impl_begins.f
  simp only [bs_size]
  by_cases h : p.length ≤ s.length
  · rw [if_pos (by omega), if_pos (by omega), if_pos (by omega)]
    congr 1
    have e : (bs s).extract 0 ((p.length : Int)).toNat = bs (s.take p.length) := by
      have := bs_ext (s := s) (t := s.take p.length) (u := s.drop p.length) (k := 0) (by simp)
      rw [List.length_take, Nat.min_eq_left h] at this
      simpa using this
    rw [e, bs_toL, bs_toL]
    exact take_prefix s p h
  · rw [if_neg (by omega)]
    congr 1
    unfold Lib.hasPrefix
    cases hb : p.isPrefixOf s
    · rfl
    · exact absurd (List.isPrefixOf_iff_prefix.1 hb).length_le h
theorem begins_lit (s : List UInt8) (p : Array UInt8) (w : World) : Calls Tryz.prog 28 #[.string (bs s), .string ⟨p⟩] w fun e w' => e = .returned (.bool (Lib.hasPrefix s p.toList)) ∧ Drawn0 w w' := begins_calls s p.toList w
theorem strs_at {w : World} {N n c : Nat} {a : Option Addr} {l : List Line} (h : w.ownsRow N 9 1 (.slice a n c) n (strs l)) (k : Nat) (hk : k < l.length) :
    ∃ g, a = some ⟨g, 0, none⟩ ∧ n ≤ c ∧ w.cell? ⟨g, k, none⟩ = some (.string (bs l[k])) := by
  rcases own_cases h with ⟨h1, h2⟩ | ⟨g, cap, h1, _, h3, _⟩
  · exfalso
    cases h1
    have := h.1
    simp [strs] at this; subst this; simp at hk
  · cases h1
    exact ⟨g, rfl, h3, own_cell h k _ (by simp [strs, hk])⟩
set_option maxRecDepth 100000 in
set_option maxHeartbeats 4000000 in
theorem readable_calls {N : Nat} (ps : List (Line × Line)) (w : World) (hB : Base N w) (hps : ∀ p ∈ ps, LineP p) (hbens : ∀ p ∈ ps, Bens p.1) (hsz : (textOf ps).length ≤ 8192) :
    Calls Tryz.prog 18 #[.string (bs (textOf ps))] w fun e w' => e = .returned (.bool true) ∧ Below w.heap.size w w' := by
  have HL := Lib.hid (lines_calls ps w hB hps (by omega))
  have hTs : (bs (textOf ps)).size ≤ 8192 := by rw [bs_size]; exact hsz
  generalize hT : bs (textOf ps) = T at *
  obtain ⟨all, hall⟩ : ∃ all, all = ps.map Prod.fst ++ [[]] := ⟨_, rfl⟩
  have hlen : all.length = ps.length + 1 := by rw [hall]; simp
  have hb : ∀ l ∈ all, Bens l := by
    intro l hl
    rw [hall] at hl
    rcases List.mem_append.1 hl with hl | hl
    · obtain ⟨p, hp, rfl⟩ := List.mem_map.1 hl; exact hbens p hp
    · simp at hl; subst hl; exact line_bens (it := .blank) trivial
  have hn : all.length ≤ 8200 := by
    have : ps.length ≤ (textOf ps).length := by
      clear hall hlen hb hT HL hB hps hbens hsz
      induction ps with
      | nil => simp
      | cons p r ih => simp [textOf, unlines] at ih ⊢; omega
    omega
  rw [← hall, ← hlen] at HL
  have HBN := Lib.hid hb
  clear hT hall hlen hb hB hps hbens hsz
  go_enter Tryz.func18, Tryz.ntmps18
  go_wp2_with (go_at_call 27; refine HL.out.mono ?_; rintro e w1 ⟨v, rfl, hrow, hb1⟩; obtain ⟨vA, vC, hv⟩ := own_formS hrow; subst hv)
  have HROW := Lib.hid hrow
  have HB1 := Lib.hid hb1
  clear hrow hb1
  go_loopw [3, 4, 5, 14] (fun v3 v4 v5 v14 wr => v3 = .bool false ∧ v4 = .bool false ∧ v5 = .int .i64 0 ∧ ∃ k : Nat, v14 = .int .i64 k ∧ k ≤ all.length ∧ Drawn0 w1 wr) (fun _ _ _ v _ => all.length - (intOf v).toNat)
  case atStart => exact ⟨rfl, rfl, rfl, 0, rfl, by omega, Drawn0.refl _⟩
  case round =>
    obtain ⟨rfl, rfl, rfl, k, rfl, hk, ⟨q, rfl⟩⟩ := hrel
    by_cases hlt : k < all.length
    · obtain ⟨g, hg, hgc, hc⟩ := strs_at HROW.out k hlt
      subst hg
      obtain ⟨h1, h2, h3⟩ := HBN.out _ (List.getElem_mem hlt)
      generalize hl : all[k] = l at *
      clear hl
      cases hh : Lib.hasPrefix l [35]
      · go_wp2_with (go_at_call 28; refine (begins_lit l _ _).mono ?_; rintro e w2 ⟨rfl, ⟨q2, rfl⟩⟩)
        all_goals
          go_roundw
          case rel => exact ⟨rfl, rfl, rfl, k + 1, by go_num, by omega, ⟨_, rfl⟩⟩
          case measure => simp [intOf]; omega
      · go_wp2_with (go_at_call 28; refine (begins_lit l _ _).mono ?_; rintro e w2 ⟨rfl, ⟨q2, rfl⟩⟩)
        all_goals
          go_roundw
          case rel => exact ⟨rfl, rfl, rfl, k + 1, by go_num, by omega, ⟨_, rfl⟩⟩
          case measure => simp [intOf]; omega
    · go_wp2_with fail
      go_ret
      exact ⟨rfl, below_drewN HB1.out _⟩
end Go.Proofs.YtlghdacdpkaoeaaGreatDoor
end
section
namespace Go.Proofs.YtlghdacdpkaoeaaGreatDoor
open Go.RowKit Go.Proofs.YtlghdacdpkaoeaaGreatDoorW.PrintWords Go.Maps
open Go.Lib hiding intOf
set_option linter.unusedVariables false
set_option linter.unusedSimpArgs false
theorem isBuffer_drewN {B b : Nat} {bs : List Value} {w : World} (h : Lib.IsBuffer 79 5 B b bs w) (n : Nat) : Lib.IsBuffer 79 5 B b bs (w.drewN n) := by
  obtain ⟨hB, v, lr, h1, h2, h3⟩ := h
  exact ⟨hB, v, lr, (show Lies (w.drewN n) b _ _ from (show Lies w b _ _ from h1).below (below_drewN (Below.refl _ _) n)), row_below h2 (below_drewN (Below.refl _ _) n), h3⟩
set_option maxRecDepth 100000 in
set_option maxHeartbeats 4000000 in
theorem grow_calls (B b n : Nat) (bs : List Value) (w : World) (h : Lib.IsBuffer 79 5 B b bs w) (hn : 0 < n) (hBw : B ≤ w.heap.size) (h1 : ∀ v ∈ bs, v.oneCell' = true) (hlim : bs.length + n ≤ 140737488355328) :
    Calls Tryz.prog 34 #[.pointer (some ⟨b, 0, none⟩), .int .i64 n] w fun e w' => e = .returned (.int .i64 bs.length) ∧ ∃ xs, xs.length = n ∧ Lib.IsBuffer 79 5 B b (bs ++ xs) w' ∧ Below B w w' := by
  by_cases hr : Lib.NoRoom b n w
  · exact Tryz.Buffer_grow B b n bs w h hr hBw h1 hlim
  · have hr' : ∀ q, ¬ Lib.NoRoom b n (w.drewN q) := by
      intro q ⟨ao, l, cap, hc, hlt⟩
      exact hr ⟨ao, l, cap, by simpa using hc, hlt⟩
    have HR := Lib.hid hr'
    obtain ⟨hB, v, lr, hb, hown, hne⟩ := id h
    have hlb : Lies w b 79 #[v, .int .i64 0, .int .i8 lr] := hb
    have k1 := hlb.cell 1
    simp only [List.getElem?_toArray, List.getElem?_cons_zero, List.getElem?_cons_succ] at k1
    have HH := Lib.hid h
    clear h hb hown hne hlb hr hr'
    have hlen : bs.length ≤ 140737488355328 := by omega
    have HTG := Lib.hid (fun q => (Tryz.Buffer_tryGrow B b n bs (w.drewN q) (isBuffer_drewN HH.out q)).mono (fun e w' h => h.resolve_right (fun h2 => HR.out q h2.2.2)))
    have HLEN := Lib.hid (Tryz.Buffer_Len B b bs w HH.out)
    by_cases h0 : bs.length = 0
    · rw [h0] at HLEN HTG
      have H0 := Lib.hid h0
      clear h0
      go_enter Tryz.func34, Tryz.ntmps34
      go_wp2_with (first
        | (go_at_call 41; refine HLEN.out.mono ?_; rintro e w1 ⟨rfl, ⟨q, rfl⟩⟩)
        | (go_at_call 43; refine (HTG.out q).mono ?_; rintro e w2 ⟨rfl, xs, hx1, hx2, hx3⟩))
      go_ret
      refine ⟨by rw [H0.out]; rfl, xs, hx1, hx2, (below_drewN (Below.refl B w) q).trans hx3⟩
    · have hz : ((bs.length : Int) == 0) = false := by rw [beq_eq_false_iff_ne]; omega
      go_enter Tryz.func34, Tryz.ntmps34
      go_wp2_with (first
        | (go_at_call 41; refine HLEN.out.mono ?_; rintro e w1 ⟨rfl, ⟨q, rfl⟩⟩)
        | (go_at_call 43; refine (HTG.out q).mono ?_; rintro e w2 ⟨rfl, xs, hx1, hx2, hx3⟩))
      go_ret
      exact ⟨rfl, xs, hx1, hx2, (below_drewN (Below.refl B w) q).trans hx3⟩
theorem NewReader_calls (v : Value) (w : World) (hv : ∃ a n c, v = .slice a n c) : Calls Tryz.prog 21 #[v] w fun e w' => e = .returned (.pointer (some ⟨w.heap.size, 0, none⟩)) ∧ w' = w.alloc (.cells #[v, .int .i64 0, .int .i64 (-1)] 89) := by
  obtain ⟨a, n, c, rfl⟩ := hv
  go_enter Tryz.func21, Tryz.ntmps21
  go_wp2
  go_ret
  exact ⟨rfl, rfl⟩
structure RdrAt (w : World) (R X : Nat) (l : List UInt8) (m : Nat) : Prop where
  rdr : ∃ c pr, Lies w R 89 #[.slice (some ⟨X, 0, none⟩) l.length c, .int .i64 m, .int .i64 pr] ∧ l.length ≤ c
  dat : ∀ (i : Nat) (h : i < l.length), w.cell? ⟨X, i, none⟩ = some (.int .u8 (l[i].toNat : Nat))
  lt : X < R
  le : m ≤ l.length
  len : l.length ≤ 100000
theorem RdrAt.to {w w' : World} {R X : Nat} {l : List UInt8} {m m' c : Nat} {pr : Int} (h : RdrAt w R X l m) (hl : Lies w' R 89 #[.slice (some ⟨X, 0, none⟩) l.length c, .int .i64 m', .int .i64 pr]) (hc : l.length ≤ c) (hm : m' ≤ l.length) (hX : w'.heap[X]? = w.heap[X]?) : RdrAt w' R X l m' :=
  ⟨⟨c, pr, hl, hc⟩, fun i hi => by rw [← h.dat i hi]; simp only [World.cell?, hX], h.lt, hm, h.len⟩
def bytesV (l : List UInt8) : List Value := l.map fun c => .int .u8 (c.toNat : Nat)
theorem info5 : (Tryz.prog.info? 5).map (·.size) = some 1 := by kernel_rfl
set_option maxRecDepth 100000 in
set_option maxHeartbeats 4000000 in
theorem Read_end {w : World} {R X : Nat} {l : List UInt8} (ev d : Value) (h : RdrAt w R X l l.length) (hev : ∃ t a, ev = .iface t (.pointer (some a))) (he : w.cell? ⟨1, 0, none⟩ = some ev) :
    Calls Tryz.prog 183 #[.pointer (some ⟨R, 0, none⟩), d] w fun e w' => e = .returned (.tuple #[.int .i64 0, ev]) ∧ ∃ q, w' = w.drewN q := by
  obtain ⟨et, ea, rfl⟩ := hev
  obtain ⟨⟨c, pr, hl, hc⟩, hd, hlt, hle, hlen⟩ := h
  have k0 := hl.cell 0
  have k1 := hl.cell 1
  simp only [List.getElem?_toArray, List.getElem?_cons_zero, List.getElem?_cons_succ] at k0 k1
  clear hl hd hle
  go_enter Tryz.func183, Tryz.ntmps183
  go_wp2_with fail
  go_quiet (fail)
  go_wp2_with fail
  go_quiet (fail)
  go_wp2_with fail
  go_ret2
  exact ⟨rfl, _, World.drewN_drewN _ _ _⟩
theorem bytesV_len (l : List UInt8) : (bytesV l).length = l.length := by simp [bytesV]
theorem bytesV_one (l : List UInt8) : ∀ v ∈ bytesV l, v.oneCell' = true := by
  intro v hv
  simp only [bytesV, List.mem_map] at hv
  obtain ⟨c, _, rfl⟩ := hv; rfl
theorem RdrAt.src {w : World} {R X : Nat} {l : List UInt8} {m : Nat} (h : RdrAt w R X l m) (k : Nat) : ∀ j v, (bytesV ((l.drop m).take k))[j]? = some v → w.cell? ((⟨X, m, none⟩ : Addr).add j) = some v := by
  intro j v hj
  have hlt := (List.getElem?_eq_some_iff.1 hj).1
  simp [bytesV] at hlt
  have ea : (⟨X, m, none⟩ : Addr).add j = ⟨X, m + j, none⟩ := by
    unfold Addr.add; split <;> simp_all
  rw [ea, h.dat (m + j) (by omega)]
  rw [← hj]
  simp only [bytesV, List.getElem?_map]
  rw [List.getElem?_take_of_lt (by omega), List.getElem?_drop, List.getElem?_eq_getElem (by omega)]; rfl
theorem setRow_lies {w : World} {b g : Nat} {T : TypeId} {cs : Array Value} (h : Lies w b T cs) (hne : b ≠ g) (x : Array Value) : Lies (w.setRow g x) b T cs := (setRow_other w g b x hne).trans h
theorem setRow_but {X : List Nat} {w w' : World} {g : Nat} (h : But X w w') (hg : g ∈ X) (x : Array Value) : But X w (w'.setRow g x) :=
  h.trans ⟨rfl, rfl, rfl, by simp [World.setRow], fun k hk hx => setRow_other w' g k x (fun e => hx (e ▸ hg))⟩
set_option maxRecDepth 100000 in
set_option maxHeartbeats 4000000 in
theorem Read_some {w : World} {R X g o d dc m : Nat} {l : List UInt8} {cu : Array Value} (h : RdrAt w R X l m) (hm : m < l.length) (hg : Lies w g 5 cu) (hgR : R < g) (hfit : o + d ≤ cu.size) (hd : 0 < d) :
    Calls Tryz.prog 183 #[.pointer (some ⟨R, 0, none⟩), .slice (some ⟨g, o, none⟩) d dc] w fun e w' => e = .returned (.tuple #[.int .i64 (Nat.min (l.length - m) d : Nat), .nilIface]) ∧ RdrAt w' R X l (m + Nat.min (l.length - m) d) ∧
      Lies w' g 5 (cu.toList.take o ++ bytesV ((l.drop m).take (Nat.min (l.length - m) d)) ++ cu.toList.drop (o + Nat.min (l.length - m) d)).toArray ∧ But [R, g] w w' := by
  obtain ⟨⟨c, pr, hl, hc⟩, hdat, hlt, hle, hlen⟩ := id h
  have k0 := hl.cell 0
  have k1 := hl.cell 1
  have k2 := hl.cell 2
  have f2 := hl.frozen 2
  simp only [List.getElem?_toArray, List.getElem?_cons_zero, List.getElem?_cons_succ] at k0 k1 k2
  have hk : Nat.min (l.length - m) d ≤ l.length - m := Nat.min_le_left _ _
  have hk2 : Nat.min (l.length - m) d ≤ d := Nat.min_le_right _ _
  generalize hK : Nat.min (l.length - m) d = K at *
  have HK := Lib.hid hK
  have H := Lib.hid h
  have HG := Lib.hid hg
  have HL := Lib.hid hl
  have hgR' : R ≠ g := by omega
  have hmi : (m : Int) < (l.length : Int) := by omega
  clear hl hdat hle h hg hK
  go_enter Tryz.func183, Tryz.ntmps183
  go_wp2_with fail
  go_quiet (fail)
  go_upto_region 3 with (fail)
  go_cut [] from 6 to 38 (fun wx => Lies wx R 89 #[.slice (some ⟨X, 0, none⟩) l.length c, .int .i64 m, .int .i64 (-1)] ∧ Lies wx g 5 cu ∧ But [R] w wx)
  case first =>
    go_wp2_with fail
    go_meet
    have hl' := HL.out.below (below_drewN (Below.refl _ _) nq)
    have hg' := HG.out.below (below_drewN (Below.refl _ _) nq)
    exact ⟨hl'.set 2 _, hg'.other hgR'.symm _, ((But.refl [R] w).drewN nq).set (by simp) _⟩
  case rest =>
    obtain ⟨hl1, hg1, hb1⟩ := hcut
    have h1 := H.out.to hl1 hc (by omega) (hb1.block X (by have := HL.out.lt; omega) (by simp; omega))
    have hsrc := h1.src K
    have s0 := hl1.cell 0
    have s1 := hl1.cell 1
    simp only [List.getElem?_toArray, List.getElem?_cons_zero, List.getElem?_cons_succ] at s0 s1
    have sl := fun W => run_slice_from (P := Tryz.prog) W 68 5 Tryz.underlying68 size5 X 0 l.length c m (by omega) (by omega)
    simp only [Nat.zero_add] at sl
    have HSRC := Lib.hid (fun j v hj => (show wc.drew.cell? ((⟨X, m, none⟩ : Addr).add j) = some v by simpa using hsrc j v hj))
    have HCP := Lib.hid (fun ty => run_copy_row (P := Tryz.prog) wc.drew 68 68 ty 5 g o d dc ⟨X, m, none⟩ (l.length - m) (c - m) cu 5 (bytesV ((l.drop m).take K)) Tryz.underlying68 info5 (show Lies wc.drew g _ cu from hg1.below ((Below.refl _ _).drew)) (by rw [bytesV_len, List.length_take, List.length_drop, HK.out]; omega) HSRC.out (by rw [bytesV_len, List.length_take, List.length_drop]; omega) (bytesV_one _))
    have HL1 := Lib.hid hl1
    have HG1 := Lib.hid hg1
    have HB1 := Lib.hid hb1
    have H1 := Lib.hid h1
    have hz : ∀ (cs : Array Value) (i : Nat), (wc.drew.setRow g cs).cell? ⟨R, i, none⟩ = wc.cell? ⟨R, i, none⟩ := by
      intro cs i
      simp only [World.cell?, setRow_other _ _ _ _ hgR']
      rfl
    clear hl1 hg1 hb1 h1 hsrc HSRC
    go_upto_region 4 with (fail)
    go_region_held3 (fun w' => w'.cell? ⟨R, 0, none⟩ = some (.slice (some ⟨X, 0, none⟩) l.length c) ∧ w'.cell? ⟨R, 1, none⟩ = some (.int .i64 m)) (go_keep)
      ((rw [if_pos (by rfl)]; refine Lib.wp_copy_run _ (.tmp 20) (.tmp 29) 68 68 (by rfl) _ _ (by rfl) (by rfl) (HCP.out _) ?_))
    have hC : (cu.toList.take o ++ bytesV ((l.drop m).take K) ++ cu.toList.drop (o + (bytesV ((l.drop m).take K)).length)).toArray = (cu.toList.take o ++ bytesV ((l.drop m).take K) ++ cu.toList.drop (o + K)).toArray := by
      rw [bytesV_len, List.length_take, List.length_drop, Nat.min_eq_left (by omega)]
    have hlenK : (bytesV ((l.drop m).take K)).length = K := by rw [bytesV_len, List.length_take, List.length_drop]; omega
    have hR5 := setRow_lies (HL1.out.below ((Below.refl wc.heap.size wc).drew)) hgR' (cu.toList.take o ++ bytesV ((l.drop m).take K) ++ cu.toList.drop (o + (bytesV ((l.drop m).take K)).length)).toArray
    have hg5 : Lies (wc.drew.setRow g (cu.toList.take o ++ bytesV ((l.drop m).take K) ++ cu.toList.drop (o + (bytesV ((l.drop m).take K)).length)).toArray) g 5 _ := setRow_heap _ _ _ _ _ _ (show Lies wc.drew g _ cu from HG1.out.below ((Below.refl _ _).drew))
    have hb5 : But [R, g] w (wc.drew.setRow g (cu.toList.take o ++ bytesV ((l.drop m).take K) ++ cu.toList.drop (o + (bytesV ((l.drop m).take K)).length)).toArray) := setRow_but (((HB1.out.mono (by simp)).below ((Below.refl _ _).drew))) (by simp) _
    rw [hlenK] at hR5 hg5 hb5 ⊢
    generalize wc.drew.setRow g (cu.toList.take o ++ bytesV ((l.drop m).take K) ++ cu.toList.drop (o + K)).toArray = w5 at *
    have z0 := hR5.cell 0
    have z1 := hR5.cell 1
    have zf := hR5.frozen 1
    simp only [List.getElem?_toArray, List.getElem?_cons_zero, List.getElem?_cons_succ] at z0 z1
    have HR5 := Lib.hid hR5
    have HG5 := Lib.hid hg5
    have HB5 := Lib.hid hb5
    clear hR5 hg5 hb5 hC hlenK hz
    go_wp2_with fail
    go_ret2
    have hs1 := HR5.out.set 1 (.int .i64 ((m : Int) + (K : Int)))
    refine ⟨rfl, H.out.to (m' := m + K) (c := c) (pr := -1) ?_ hc (by omega) ?_, HG5.out.other (by simp; omega) _, HB5.out.set (by simp) _⟩
    · rw [show ((m + K : Nat) : Int) = (m : Int) + (K : Int) by omega]; exact hs1
    · rw [heap_setCell_other _ _ _ _ (by simp; omega)]
      exact HB5.out.block X (by have := HL.out.lt; omega) (by simp; omega)
end Go.Proofs.YtlghdacdpkaoeaaGreatDoor
end
