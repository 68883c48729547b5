import Derived.Test.YtlghdacdpkaoeaaGreatDoorK14
import Derived.Handy
namespace Go.Proofs.YtlghdacdpkaoeaaGreatDoor
open Go.RowKit Go.Proofs.YtlghdacdpkaoeaaGreatDoorW.PrintWords
open Go.Lib hiding intOf
set_option linter.unusedVariables false
set_option linter.unusedSimpArgs false
theorem HasPrefix_lit (s : List UInt8) (p : Array UInt8) (w : World) :
    Calls Tryz.prog 47 #[.string (bs s), .string ⟨p⟩] w fun e w' => e = .returned (.bool (Lib.hasPrefix s p.toList)) ∧ w' = w := by
  have := Tryz.strings_HasPrefix (bs s) ⟨p⟩ w
  rwa [bs_toList] at this
theorem bs_toL (l : List UInt8) : (bs l).toList = l := by rw [ByteArray.toList_eq, bs_toList]
structure Kind (l : List UInt8) (a b c d e f g : Bool) : Prop where
  a : ((bs l).toList == [35, 69, 88, 84, 77, 51, 85]) = a
  b : Lib.hasPrefix l [35, 69, 88, 84, 45, 88, 45, 86, 69, 82, 83, 73, 79, 78, 58] = b
  c : ((bs l).toList == [35, 69, 88, 84, 45, 88, 45, 73, 78, 68, 69, 80, 69, 78, 68, 69, 78, 84, 45, 83, 69, 71, 77, 69, 78, 84, 83]) = c
  d : Lib.hasPrefix l [35, 69, 88, 84, 45, 88, 45, 77, 69, 68, 73, 65, 58] = d
  e : Lib.hasPrefix l [35, 69, 88, 84, 45, 88, 45, 83, 84, 82, 69, 65, 77, 45, 73, 78, 70, 58] = e
  f : Lib.hasPrefix l [35, 69, 88, 84, 45, 88, 45, 73, 45, 70, 82, 65, 77, 69, 45, 83, 84, 82, 69, 65, 77, 45, 73, 78, 70, 58] = f
  g : Lib.hasPrefix l [35] = g
theorem Kind.of {l : List UInt8} {a b c d e f g : Bool} (h1 : (l == [35, 69, 88, 84, 77, 51, 85]) = a) (h2 : Lib.hasPrefix l [35, 69, 88, 84, 45, 88, 45, 86, 69, 82, 83, 73, 79, 78, 58] = b) (h3 : (l == [35, 69, 88, 84, 45, 88, 45, 73, 78, 68, 69, 80, 69, 78, 68, 69, 78, 84, 45, 83, 69, 71, 77, 69, 78, 84, 83]) = c) (h4 : Lib.hasPrefix l [35, 69, 88, 84, 45, 88, 45, 77, 69, 68, 73, 65, 58] = d) (h5 : Lib.hasPrefix l [35, 69, 88, 84, 45, 88, 45, 83, 84, 82, 69, 65, 77, 45, 73, 78, 70, 58] = e) (h6 : Lib.hasPrefix l [35, 69, 88, 84, 45, 88, 45, 73, 45, 70, 82, 65, 77, 69, 45, 83, 84, 82, 69, 65, 77, 45, 73, 78, 70, 58] = f) (h7 : Lib.hasPrefix l [35] = g) : Kind l a b c d e f g :=
  ⟨by rw [bs_toL]; exact h1, h2, by rw [bs_toL]; exact h3, h4, h5, h6, h7⟩
set_option maxRecDepth 100000 in
set_option maxHeartbeats 4000000 in
theorem line_nothing {N : Nat} (l ws : List UInt8) (P S : Nat) (m3u tag ind : Bool) (v al vs : Value) (ver : Int) (w : World) (hB : Base N w) (h : Trimmed l) (hw : ∀ c ∈ ws, Lib.isSp c = true ∧ c < 128) (hs : l.length + ws.length ≤ 100000)
    (hS : StAt w S m3u tag v al) (hP : PlAt w P vs ver ind) (hl : Kind l false false false false false false true) :
    Calls Tryz.prog 36 #[.pointer (some ⟨P, 0, none⟩), .pointer (some ⟨S, 0, none⟩), .string (bs (l ++ ws)), .bool true] w fun e w' => e = .returned .nilIface ∧ Below w.heap.size w w' := by
  have hT := TrimSpace_calls l ws w hB h hw hs
  have HP := Lib.hid (fun p W => HasPrefix_lit l p W)
  have hSt := Lib.hid hS
  have hPl := Lib.hid hP
  have hne := hS.nePl hP
  obtain ⟨ha, hb, hc, hd, he, hf, hg⟩ := hl
  clear h hw hs hB hS hP
  go_enter Tryz.func36, Tryz.ntmps36
  go_wp2_with (first
    | (go_at_call 46; refine hT.mono ?_; rintro e w1 ⟨rfl, hb1⟩; have hS1 := Lib.hid (hSt.out.below hb1); have hP1 := Lib.hid (hPl.out.below hb1); obtain ⟨⟨x0, c0⟩, c1, c2, c15, c16, f0, f1, f2, f15, f16⟩ := hS1.out.cells; obtain ⟨d0, d1, d6, d7, g0, g1, g6, g7⟩ := hP1.out.cells; clear hT hSt hPl)
    | (go_at_call 47; refine (HP.out _ _).mono ?_; rintro e w2 ⟨rfl, rfl⟩))
  all_goals
    go_ret
    exact ⟨rfl, hb1⟩
set_option maxRecDepth 100000 in
set_option maxHeartbeats 4000000 in
theorem line_m3u {N : Nat} (l ws : List UInt8) (P S : Nat) (m3u tag ind : Bool) (v al vs : Value) (ver : Int) (w : World) (hB : Base N w) (h : Trimmed l) (hw : ∀ c ∈ ws, Lib.isSp c = true ∧ c < 128) (hs : l.length + ws.length ≤ 100000)
    (hS : StAt w S m3u tag v al) (hP : PlAt w P vs ver ind) (hl : Kind l true false false false false false true) :
    Calls Tryz.prog 36 #[.pointer (some ⟨P, 0, none⟩), .pointer (some ⟨S, 0, none⟩), .string (bs (l ++ ws)), .bool true] w fun e w' => e = .returned .nilIface ∧ StAt w' S true tag v al ∧ But [S] w w' := by
  have hT := TrimSpace_calls l ws w hB h hw hs
  have HP := Lib.hid (fun p W => HasPrefix_lit l p W)
  have hSt := Lib.hid hS
  have hPl := Lib.hid hP
  have hne := hS.nePl hP
  obtain ⟨ha, hb, hc, hd, he, hf, hg⟩ := hl
  clear h hw hs hB hS hP
  go_enter Tryz.func36, Tryz.ntmps36
  go_wp2_with (first
    | (go_at_call 46; refine hT.mono ?_; rintro e w1 ⟨rfl, hb1⟩; have hS1 := Lib.hid (hSt.out.below hb1); have hP1 := Lib.hid (hPl.out.below hb1); obtain ⟨⟨x0, c0⟩, c1, c2, c15, c16, f0, f1, f2, f15, f16⟩ := hS1.out.cells; obtain ⟨d0, d1, d6, d7, g0, g1, g6, g7⟩ := hP1.out.cells; clear hT hSt hPl)
    | (go_at_call 47; refine (HP.out _ _).mono ?_; rintro e w2 ⟨rfl, rfl⟩))
  go_ret
  exact ⟨rfl, hS1.out.set1 true, ((But.refl [S] w).below hb1).set (by simp) _⟩
set_option maxRecDepth 100000 in
set_option maxHeartbeats 4000000 in
theorem line_blank {N : Nat} (l ws : List UInt8) (P S : Nat) (m3u  ind : Bool) (v al vs : Value) (ver : Int) (w : World) (hB : Base N w) (h : Trimmed l) (hw : ∀ c ∈ ws, Lib.isSp c = true ∧ c < 128) (hs : l.length + ws.length ≤ 100000)
    (hS : StAt w S m3u false v al) (hP : PlAt w P vs ver ind) (hl : Kind l false false false false false false false) :
    Calls Tryz.prog 36 #[.pointer (some ⟨P, 0, none⟩), .pointer (some ⟨S, 0, none⟩), .string (bs (l ++ ws)), .bool true] w fun e w' => e = .returned .nilIface ∧ Below w.heap.size w w' := by
  have hT := TrimSpace_calls l ws w hB h hw hs
  have HP := Lib.hid (fun p W => HasPrefix_lit l p W)
  have hSt := Lib.hid hS
  have hPl := Lib.hid hP
  have hne := hS.nePl hP
  obtain ⟨ha, hb, hc, hd, he, hf, hg⟩ := hl
  clear h hw hs hB hS hP
  go_enter Tryz.func36, Tryz.ntmps36
  go_wp2_with (first
    | (go_at_call 46; refine hT.mono ?_; rintro e w1 ⟨rfl, hb1⟩; have hS1 := Lib.hid (hSt.out.below hb1); have hP1 := Lib.hid (hPl.out.below hb1); obtain ⟨⟨x0, c0⟩, c1, c2, c15, c16, f0, f1, f2, f15, f16⟩ := hS1.out.cells; obtain ⟨d0, d1, d6, d7, g0, g1, g6, g7⟩ := hP1.out.cells; clear hT hSt hPl)
    | (go_at_call 47; refine (HP.out _ _).mono ?_; rintro e w2 ⟨rfl, rfl⟩))
  go_ret
  exact ⟨rfl, hb1⟩
set_option maxRecDepth 100000 in
set_option maxHeartbeats 4000000 in
theorem SetIndependent_calls (P : Nat) (ind : Bool) (vs : Value) (ver : Int) (w : World) (hP : PlAt w P vs ver ind) :
    Calls Tryz.prog 49 #[.pointer (some ⟨P, 0, none⟩), .bool true] w fun e w' => e = .returned (.tuple #[]) ∧ w' = w.setCell ⟨P, 7, none⟩ (.bool true) := by
  obtain ⟨d0, d1, d6, d7, g0, g1, g6, g7⟩ := hP.cells
  clear hP
  go_enter Tryz.func49, Tryz.ntmps49
  go_wp2
  go_returns
  exact ⟨rfl, rfl⟩
set_option maxRecDepth 100000 in
set_option maxHeartbeats 4000000 in
theorem line_independent {N : Nat} (l ws : List UInt8) (P S : Nat) (m3u tag ind : Bool) (v al vs : Value) (ver : Int) (w : World) (hB : Base N w) (h : Trimmed l) (hw : ∀ c ∈ ws, Lib.isSp c = true ∧ c < 128) (hs : l.length + ws.length ≤ 100000)
    (hS : StAt w S m3u tag v al) (hP : PlAt w P vs ver ind) (hl : Kind l false false true false false false true) :
    Calls Tryz.prog 36 #[.pointer (some ⟨P, 0, none⟩), .pointer (some ⟨S, 0, none⟩), .string (bs (l ++ ws)), .bool true] w fun e w' => e = .returned .nilIface ∧ PlAt w' P vs ver true ∧ But [P] w w' := by
  have hT := TrimSpace_calls l ws w hB h hw hs
  have HP := Lib.hid (fun p W => HasPrefix_lit l p W)
  have hSt := Lib.hid hS
  have hPl := Lib.hid hP
  have hne := hS.nePl hP
  obtain ⟨ha, hb, hc, hd, he, hf, hg⟩ := hl
  clear h hw hs hB hS hP
  go_enter Tryz.func36, Tryz.ntmps36
  go_wp2_with (first
    | (go_at_call 46; refine hT.mono ?_; rintro e w1 ⟨rfl, hb1⟩; have hS1 := Lib.hid (hSt.out.below hb1); have hP1 := Lib.hid (hPl.out.below hb1); obtain ⟨⟨x0, c0⟩, c1, c2, c15, c16, f0, f1, f2, f15, f16⟩ := hS1.out.cells; obtain ⟨d0, d1, d6, d7, g0, g1, g6, g7⟩ := hP1.out.cells; clear hT hSt hPl)
    | (go_at_call 47; refine (HP.out _ _).mono ?_; rintro e w2 ⟨rfl, rfl⟩)
    | (go_at_call 49; refine (SetIndependent_calls P ind vs ver _ hP1.out).mono ?_; rintro e w2 ⟨rfl, rfl⟩))
  go_ret
  exact ⟨rfl, hP1.out.set7 true, ((But.refl [P] w).below hb1).set (by simp) _⟩
set_option maxRecDepth 100000 in
set_option maxHeartbeats 4000000 in
theorem line_uri {N : Nat} (l ws : List UInt8) (P S : Nat) (m3u  ind : Bool) (al vs : Value) (ver : Int) (V : Nat) (cs : Array Value) (x : Value) (w : World) (hB : Base N w) (h : Trimmed l) (hw : ∀ c ∈ ws, Lib.isSp c = true ∧ c < 128) (hs : l.length + ws.length ≤ 100000)
    (hS : StAt w S m3u true (.pointer (some ⟨V, 0, none⟩)) al) (hP : PlAt w P vs ver ind) (hV : Lies w V 98 cs) (hx : Hid (cs[0]? = some x)) (hl : Kind l false false false false false false false) :
    Calls Tryz.prog 36 #[.pointer (some ⟨P, 0, none⟩), .pointer (some ⟨S, 0, none⟩), .string (bs (l ++ ws)), .bool true] w fun e w' => e = .returned .nilIface ∧ StAt w' S m3u false (.pointer (some ⟨V, 0, none⟩)) al ∧ Lies w' V 98 (cs.setIfInBounds 0 (.string (bs l))) ∧ But [V, S] w w' := by
  have hT := TrimSpace_calls l ws w hB h hw hs
  have HP := Lib.hid (fun p W => HasPrefix_lit l p W)
  have hSt := Lib.hid hS
  have hPl := Lib.hid hP
  have hne := hS.nePl hP
  obtain ⟨ha, hb, hc, hd, he, hf, hg⟩ := hl
  have hV0 := Lib.hid hV
  have hVS : V ≠ S := by
    obtain ⟨cs, h, _⟩ := hS; exact hV.ne h (by decide)
  have hSV : S ≠ V := Ne.symm hVS
  clear hV
  clear h hw hs hB hS hP
  go_enter Tryz.func36, Tryz.ntmps36
  go_wp2_with (first
    | (go_at_call 46; refine hT.mono ?_; rintro e w1 ⟨rfl, hb1⟩; have hS1 := Lib.hid (hSt.out.below hb1); have hP1 := Lib.hid (hPl.out.below hb1); obtain ⟨⟨x0, c0⟩, c1, c2, c15, c16, f0, f1, f2, f15, f16⟩ := hS1.out.cells; obtain ⟨d0, d1, d6, d7, g0, g1, g6, g7⟩ := hP1.out.cells; have hV1 := Lib.hid (hV0.out.below hb1); have v0 := (hV1.out.cell 0).trans hx.out; have k0 := hV1.out.frozen 0; clear hT hSt hPl)
    | (go_at_call 47; refine (HP.out _ _).mono ?_; rintro e w2 ⟨rfl, rfl⟩))
  go_ret
  refine ⟨rfl, (hS1.out.set2 false).other hVS.symm _, ?_, ?_⟩
  · exact (hV1.out.other hVS _).set 0 _
  · exact (((But.refl [V, S] w).below hb1).set (by simp) _).set (by simp) _
set_option maxRecDepth 100000 in
set_option maxHeartbeats 4000000 in
theorem line_version {N : Nat} (l ws : List UInt8) (P S : Nat) (m3u tag ind : Bool) (v al vs : Value) (ver : Int) (n : Nat) (w : World) (hB : Base N w) (h : Trimmed l) (hw : ∀ c ∈ ws, Lib.isSp c = true ∧ c < 128) (hs : l.length + ws.length ≤ 100000)
    (hS : StAt w S m3u tag v al) (hP : PlAt w P vs ver ind) (hn : n < 256) (hlz : Hid (15 ≤ (bs l).size)) (hx : Hid ((bs l).extract 15 (bs l).size = bs (decDigits n))) (hl : Kind l false true false false false false true) :
    Calls Tryz.prog 36 #[.pointer (some ⟨P, 0, none⟩), .pointer (some ⟨S, 0, none⟩), .string (bs (l ++ ws)), .bool true] w fun e w' => e = .returned .nilIface ∧ PlAt w' P vs n ind ∧ StAt w' S m3u tag v al ∧ But [P, S] w w' := by
  have hT := TrimSpace_calls l ws w hB h hw hs
  have HP := Lib.hid (fun p W => HasPrefix_lit l p W)
  have hSt := Lib.hid hS
  have hPl := Lib.hid hP
  have hne := hS.nePl hP
  obtain ⟨ha, hb, hc, hd, he, hf, hg⟩ := hl
  have hU := Lib.hid (fun old W => zzUint8_calls n old W hn)
  have hl15 := hlz.out
  have hne' : P ≠ S := Ne.symm hne
  clear h hw hs hB hS hP
  go_enter Tryz.func36, Tryz.ntmps36
  go_upto_region 7 with (first
    | (go_at_call 46; refine hT.mono ?_; rintro e w1 ⟨rfl, hb1⟩; have hS1 := Lib.hid (hSt.out.below hb1); have hP1 := Lib.hid (hPl.out.below hb1); obtain ⟨⟨x0, c0⟩, c1, c2, c15, c16, f0, f1, f2, f15, f16⟩ := hS1.out.cells; obtain ⟨d0, d1, d6, d7, g0, g1, g6, g7⟩ := hP1.out.cells; clear hT hSt hPl)
    | (go_at_call 47; refine (HP.out _ _).mono ?_; rintro e w2 ⟨rfl, rfl⟩))
  go_cut [9] from 37 to 49 (fun e wx => e = .nilIface ∧ PlAt wx P vs n ind ∧ StAt wx S m3u tag v al ∧ But [P, S] w wx)
  case first =>
    go_region_with (first | (go_at_call 48; rw [hx.out]; refine (hU.out _ _).mono ?_; rintro e w3 ⟨rfl, hb3⟩; have hb2 := ((Below.refl _ _).drew).trans hb3; have hP2 := Lib.hid ((hP1.out.other hne' _).below hb2); have hS2 := Lib.hid ((hS1.out.set0 _).below hb2); have hB2 := Lib.hid ((((But.refl [P, S] w).below hb1).set (by simp) _).below hb2); obtain ⟨u0, u1, u6, u7, t0, t1, t6, t7⟩ := hP2.out.cells))
    all_goals
      go_wp2_with fail
      go_meet
      refine ⟨rfl, hP2.out.set6 n, hS2.out.other hne _, hB2.out.set (by simp) _⟩
  case rest =>
    obtain ⟨rfl, hP3, hS3, hB3⟩ := hcut
    go_wp2_with fail
    go_ret
    exact ⟨rfl, hP3, hS3, hB3⟩
end Go.Proofs.YtlghdacdpkaoeaaGreatDoor
