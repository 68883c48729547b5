import Derived.Test.YtlghdacdpkaoeaaGreatDoorK11
namespace Go.Proofs.YtlghdacdpkaoeaaGreatDoor.PFnMasterLoose
open Go.RowKit Go.Proofs.YtlghdacdpkaoeaaGreatDoorW.PrintWords Go.Proofs.YtlghdacdpkaoeaaGreatDoorW.PrintLast Go.Proofs.YtlghdacdpkaoeaaGreatDoorW.PrintMore
attribute [local go_sem] max2_int min2_int max_two min_two max_three min_three max_four min_four
set_option linter.unusedVariables false
set_option linter.unusedSimpArgs false
mutual
def spec_Master_Of.l0 : Nat → List (S55) → List (S55) → Int → Int → ByteArray → Int → Int → Int → ByteArray → Int → Int → ByteArray → ByteArray → ByteArray → ByteArray → ByteArray → Int → Option ((List (S55)))
  | 0, _, _, _, _, _, _, _, _, _, _, _, _, _, _, _, _, _ => none
  | k + 1, x5, x10, x11, x12, x104000, x104001, x104002, x104003, x104004, x104005, x104006, x104007, x104008, x104009, x104010, x104011, x104012 => if x12 < x11 then (if 0 ≤ x12 then (if x12 < (x10.length : Int) then (if ((rd_T55 x10 x12).f0).toList = ([65, 85, 68, 73, 79] : List UInt8) then (spec_Master_Of.j1 k x5 x10 x11 x12 (x104007.toList == ((rd_T55 x10 x12).f1).toList) x104000 x104001 x104002 x104003 x104004 x104005 x104006 x104007 x104008 x104009 x104010 x104011 x104012 ((rd_T55 x10 x12).f0) ((rd_T55 x10 x12).f1) ((rd_T55 x10 x12).f2) ((rd_T55 x10 x12).f3) ((rd_T55 x10 x12).f4) ((rd_T55 x10 x12).f5) ((rd_T55 x10 x12).f6)) else (spec_Master_Of.j1 k x5 x10 x11 x12 false x104000 x104001 x104002 x104003 x104004 x104005 x104006 x104007 x104008 x104009 x104010 x104011 x104012 ((rd_T55 x10 x12).f0) ((rd_T55 x10 x12).f1) ((rd_T55 x10 x12).f2) ((rd_T55 x10 x12).f3) ((rd_T55 x10 x12).f4) ((rd_T55 x10 x12).f5) ((rd_T55 x10 x12).f6))) else (none)) else (none)) else (some x5)
def spec_Master_Of.j1 : Nat → List (S55) → List (S55) → Int → Int → Bool → ByteArray → Int → Int → Int → ByteArray → Int → Int → ByteArray → ByteArray → ByteArray → ByteArray → ByteArray → Int → ByteArray → ByteArray → ByteArray → Bool → ByteArray → ByteArray → ByteArray → Option ((List (S55)))
  | 0, _, _, _, _, _, _, _, _, _, _, _, _, _, _, _, _, _, _, _, _, _, _, _, _, _ => none
  | k + 1, x5, x10, x11, x12, x16, x104000, x104001, x104002, x104003, x104004, x104005, x104006, x104007, x104008, x104009, x104010, x104011, x104012, x109000, x109001, x109002, x109003, x109004, x109005, x109006 => if x16 = true then (if x5.length < 1353245080339 then (spec_Master_Of.l0 k (x5 ++ [(⟨x109000, x109001, x109002, x109003, x109004, x109005, x109006⟩ : S55)]) x10 x11 (wrap64 (x12 + 1)) x104000 x104001 x104002 x104003 x104004 x104005 x104006 x104007 x104008 x104009 x104010 x104011 x104012) else (none)) else (if x109000.toList = ([86, 73, 68, 69, 79] : List UInt8) then (spec_Master_Of.j2 k x5 x10 x11 x12 (x104008.toList == x109001.toList) x104000 x104001 x104002 x104003 x104004 x104005 x104006 x104007 x104008 x104009 x104010 x104011 x104012 x109000 x109001 x109002 x109003 x109004 x109005 x109006) else (spec_Master_Of.j2 k x5 x10 x11 x12 false x104000 x104001 x104002 x104003 x104004 x104005 x104006 x104007 x104008 x104009 x104010 x104011 x104012 x109000 x109001 x109002 x109003 x109004 x109005 x109006))
def spec_Master_Of.j2 : Nat → List (S55) → List (S55) → Int → Int → Bool → ByteArray → Int → Int → Int → ByteArray → Int → Int → ByteArray → ByteArray → ByteArray → ByteArray → ByteArray → Int → ByteArray → ByteArray → ByteArray → Bool → ByteArray → ByteArray → ByteArray → Option ((List (S55)))
  | 0, _, _, _, _, _, _, _, _, _, _, _, _, _, _, _, _, _, _, _, _, _, _, _, _, _ => none
  | k + 1, x5, x10, x11, x12, x16, x104000, x104001, x104002, x104003, x104004, x104005, x104006, x104007, x104008, x104009, x104010, x104011, x104012, x109000, x109001, x109002, x109003, x109004, x109005, x109006 => if x16 = true then (if x5.length < 1353245080339 then (spec_Master_Of.l0 k (x5 ++ [(⟨x109000, x109001, x109002, x109003, x109004, x109005, x109006⟩ : S55)]) x10 x11 (wrap64 (x12 + 1)) x104000 x104001 x104002 x104003 x104004 x104005 x104006 x104007 x104008 x104009 x104010 x104011 x104012) else (none)) else (if x109000.toList = ([83, 85, 66, 84, 73, 84, 76, 69, 83] : List UInt8) then (if x104009.toList = x109001.toList then (if x5.length < 1353245080339 then (spec_Master_Of.l0 k (x5 ++ [(⟨x109000, x109001, x109002, x109003, x109004, x109005, x109006⟩ : S55)]) x10 x11 (wrap64 (x12 + 1)) x104000 x104001 x104002 x104003 x104004 x104005 x104006 x104007 x104008 x104009 x104010 x104011 x104012) else (none)) else (spec_Master_Of.l0 k x5 x10 x11 (wrap64 (x12 + 1)) x104000 x104001 x104002 x104003 x104004 x104005 x104006 x104007 x104008 x104009 x104010 x104011 x104012)) else (spec_Master_Of.l0 k x5 x10 x11 (wrap64 (x12 + 1)) x104000 x104001 x104002 x104003 x104004 x104005 x104006 x104007 x104008 x104009 x104010 x104011 x104012))
end
def spec_Master_Of.f (k : Nat) (a0_0 : Int) (a0_1 : Bool) (l0_2 : List (S55)) (l0_3 : List (S44)) (a1_0 : ByteArray) (a1_1 : Int) (a1_2 : Int) (a1_3 : Int) (a1_4 : ByteArray) (a1_5 : Int) (a1_6 : Int) (a1_7 : ByteArray) (a1_8 : ByteArray) (a1_9 : ByteArray) (a1_10 : ByteArray) (a1_11 : ByteArray) (a1_12 : Int) : Option ((List (S55))) := spec_Master_Of.l0 k (([] : List (S55))) l0_2 (l0_2.length : Int) 0 a1_0 a1_1 a1_2 a1_3 a1_4 a1_5 a1_6 a1_7 a1_8 a1_9 a1_10 a1_11 a1_12
set_option maxHeartbeats 8000000 in
set_option maxRecDepth 100000 in
theorem spec_Master_Of.calls (k : Nat) (a0_0 : Int) (a0_1 : Bool) (A0_2 : Option Addr) (c0_2 : Nat) (l0_2 : List (S55)) (A0_3 : Option Addr) (c0_3 : Nat) (l0_3 : List (S44)) (a1_0 : ByteArray) (a1_1 : Int) (a1_2 : Int) (a1_3 : Int) (a1_4 : ByteArray) (a1_5 : Int) (a1_6 : Int) (a1_7 : ByteArray) (a1_8 : ByteArray) (a1_9 : ByteArray) (a1_10 : ByteArray) (a1_11 : ByteArray) (a1_12 : Int) (r : List (S55)) (w : World) (hr0_2 : Kd.C k55 w A0_2 l0_2.length l0_2) (hc0_2 : l0_2.length ≤ c0_2) (hr0_3 : Kd.C k44 w A0_3 l0_3.length l0_3) (hc0_3 : l0_3.length ≤ c0_3) (h : spec_Master_Of.f k a0_0 a0_1 l0_2 l0_3 a1_0 a1_1 a1_2 a1_3 a1_4 a1_5 a1_6 a1_7 a1_8 a1_9 a1_10 a1_11 a1_12 = some r) :
    Calls Tryz.prog 8 #[.agg #[.int .i64 a0_0, .bool a0_1, .slice A0_2 l0_2.length c0_2, .slice A0_3 l0_3.length c0_3], .agg #[.string a1_0, .int .u32 a1_1, .int .u32 a1_2, .int .u32 a1_3, .string a1_4, .int .u32 a1_5, .int .u32 a1_6, .string a1_7, .string a1_8, .string a1_9, .string a1_10, .string a1_11, .int .i64 a1_12]] w fun e w' => ∃ v0_ : Value, e = .returned (v0_) ∧ Kd.R k55 55 w' w.heap.size (fun _ => True) v0_ r ∧ Below w.heap.size w w' := by
  have hu27 := Tryz.underlying27
  have hu44 := Tryz.underlying44
  have hu55 := Tryz.underlying55
  have HR0_2 := Aside0.mk hr0_2
  have HC0_2 := Aside0.mk hc0_2
  clear hr0_2 hc0_2
  have HR0_3 := Aside0.mk hr0_3
  have HC0_3 := Aside0.mk hc0_3
  clear hr0_3 hc0_3
  have HB := Aside0.mk (Below.refl w.heap.size w)
  have H : (spec_Master_Of.l0 k (([] : List (S55))) l0_2 (l0_2.length : Int) 0 a1_0 a1_1 a1_2 a1_3 a1_4 a1_5 a1_6 a1_7 a1_8 a1_9 a1_10 a1_11 a1_12) = some r := h
  clear h
  obtain ⟨y104, hy104⟩ : ∃ y_ : List (S55), y_ = (([] : List (S55))) := ⟨_, rfl⟩
  replace H : (spec_Master_Of.l0 k y104 l0_2 (l0_2.length : Int) 0 a1_0 a1_1 a1_2 a1_3 a1_4 a1_5 a1_6 a1_7 a1_8 a1_9 a1_10 a1_11 a1_12) = some r := by first | (rw [hy104]; with_reducible exact H) | (have H2_ := (Option.bind_some _ _).symm.trans H; rw [hy104]; with_reducible exact H2_) | (have H2_ := (Option.bind_some _ _).symm.trans H; with_reducible exact H2_) | with_reducible exact H | (rw [hy104]; exact H) | exact H
  have Ny104 := Aside0.mk hy104
  clear hy104
  have H' := Aside0.mk H
  clear H
  go_enter Tryz.func8, Tryz.ntmps8
  go_wp2_with (first | ((with_reducible refine gate_dst (N := 2) rfl ?_); refine box_event ?hg (N := 2) ?hd (cs := #[.int .i64 a0_0, .bool a0_1, .slice A0_2 l0_2.length c0_2, .slice A0_3 l0_3.length c0_3]) (t := 27) ?hr ?_; (case hd => rfl); (case hg => rfl); (case hr => first | (go_simp; done) | (go_simp; rfl)); intro gb102 hg w3 hbox hb; have n0_ := Aside0.mk (below_step (by repeat (first | (with_reducible first | exact HB.out | apply below_alloc | apply pw_below_drewN | apply below_drew1) | exact HB.out)) hb); have n1_ := Aside0.mk (hbox); have n2_ := Aside0.mk ((by rw [hg]; exact (below_size (by repeat (first | (with_reducible first | exact HB.out | apply below_alloc | apply pw_below_drewN | apply below_drew1) | exact HB.out))) : w.heap.size ≤ gb102)); have n3_ := Aside0.mk ((by rw [hg]; exact (below_size (by repeat (first | (with_reducible first | exact HB.out | apply below_alloc | apply pw_below_drewN | apply below_drew1) | exact HB.out))) : w.heap.size ≤ gb102)); clear HB; have HB := n0_; have BK102 := n1_; have GW102 := n2_; have GE102 := n3_; clear n0_ n1_ n2_ n3_; clear hb hbox hg) | ((with_reducible refine gate_dst (N := 3) rfl ?_); refine box_event ?hg (N := 3) ?hd (cs := #[.string a1_0, .int .u32 a1_1, .int .u32 a1_2, .int .u32 a1_3, .string a1_4, .int .u32 a1_5, .int .u32 a1_6, .string a1_7, .string a1_8, .string a1_9, .string a1_10, .string a1_11, .int .i64 a1_12]) (t := 44) ?hr ?_; (case hd => rfl); (case hg => rfl); (case hr => first | (go_simp; done) | (go_simp; rfl)); intro gb103 hg w4 hbox hb; have n0_ := Aside0.mk (blk_below (g := gb102) (o := .cells #[.int .i64 a0_0, .bool a0_1, .slice A0_2 l0_2.length c0_2, .slice A0_3 l0_3.length c0_3] 27 (0, 0)) (by (with_reducible repeat (first | refine blk_drewN ?_ _ | refine blk_drew ?_ | refine blk_alloc ?_ _)); exact BK102.out) hb); have n1_ := Aside0.mk (below_step (by repeat (first | (with_reducible first | exact HB.out | apply below_alloc | apply pw_below_drewN | apply below_drew1 | refine below_set ?_ GE102.out) | exact HB.out)) hb); have n2_ := Aside0.mk (hbox); have n3_ := Aside0.mk ((by rw [hg]; exact (below_size (by repeat (first | (with_reducible first | exact HB.out | apply below_alloc | apply pw_below_drewN | apply below_drew1 | refine below_set ?_ GE102.out) | exact HB.out))) : w.heap.size ≤ gb103)); have n4_ := Aside0.mk ((by rw [hg]; exact (below_size (by repeat (first | (with_reducible first | exact HB.out | apply below_alloc | apply pw_below_drewN | apply below_drew1 | refine below_set ?_ GE102.out) | exact HB.out))) : w.heap.size ≤ gb103)); have n5_ := Aside0.mk ((by rw [hg]; exact Nat.ne_of_lt (blk_lt (g := gb102) (o := .cells #[.int .i64 a0_0, .bool a0_1, .slice A0_2 l0_2.length c0_2, .slice A0_3 l0_3.length c0_3] 27 (0, 0)) (by (with_reducible repeat (first | refine blk_drewN ?_ _ | refine blk_drew ?_ | refine blk_alloc ?_ _)); exact BK102.out)) : gb102 ≠ gb103)); have n6_ := Aside0.mk ((by rw [hg]; exact Nat.ne_of_gt (blk_lt (g := gb102) (o := .cells #[.int .i64 a0_0, .bool a0_1, .slice A0_2 l0_2.length c0_2, .slice A0_3 l0_3.length c0_3] 27 (0, 0)) (by (with_reducible repeat (first | refine blk_drewN ?_ _ | refine blk_drew ?_ | refine blk_alloc ?_ _)); exact BK102.out)) : gb103 ≠ gb102)); clear BK102; clear HB; have BK102 := n0_; have HB := n1_; have BK103 := n2_; have GW103 := n3_; have GE103 := n4_; have NB102_103 := n5_; have NB103_102 := n6_; clear n0_ n1_ n2_ n3_ n4_ n5_ n6_; clear hb hbox hg) | ((with_reducible refine gate_dst (N := 8) rfl ?_); refine Kd.R_lit k55 _ 55 ?hg (N := 8) ?hd (xs := ([] : List (S55))) (inner := []) (ok := fun _ => True) (okp := fun _ => True) ?hr ?hp (fun _ hk => hk) trivial (Below.refl _ _) (Nat.le_refl _) (by simp) ?_; (case hd => rfl); (case hg => rfl); (case hr => first | (go_simp; done) | (go_simp; rfl)); (case hp => exact (Reps.none _ _)); intro v105 w5 ho6 hb hg_ hnew_; clear hg_ hnew_; (first | rw [← Ny104.out] at ho6 | (simp only [Int.reduceToNat] at ho6; rw [← Ny104.out] at ho6)); have n0_ := Aside0.mk (Kd.R_lower ho6 (below_size (by repeat (first | (with_reducible first | exact HB.out | apply below_alloc | apply pw_below_drewN | apply below_drew1 | refine below_set ?_ GE102.out | refine below_set ?_ GE103.out) | exact HB.out)))); have n1_ := Aside0.mk (blk_below (g := gb102) (o := .cells #[.int .i64 a0_0, .bool a0_1, .slice A0_2 l0_2.length c0_2, .slice A0_3 l0_3.length c0_3] 27 (0, 0)) (by (with_reducible repeat (first | refine blk_drewN ?_ _ | refine blk_drew ?_ | refine blk_alloc ?_ _)); exact BK102.out) hb); have n2_ := Aside0.mk (blk_below (g := gb103) (o := .cells #[.string a1_0, .int .u32 a1_1, .int .u32 a1_2, .int .u32 a1_3, .string a1_4, .int .u32 a1_5, .int .u32 a1_6, .string a1_7, .string a1_8, .string a1_9, .string a1_10, .string a1_11, .int .i64 a1_12] 44 (0, 0)) (by (with_reducible repeat (first | refine blk_drewN ?_ _ | refine blk_drew ?_ | refine blk_alloc ?_ _)); exact BK103.out) hb); have n3_ := Aside0.mk (below_step (by repeat (first | (with_reducible first | exact HB.out | apply below_alloc | apply pw_below_drewN | apply below_drew1 | refine below_set ?_ GE102.out | refine below_set ?_ GE103.out) | exact HB.out)) hb); clear BK102; clear BK103; clear HB; have HO106 := n0_; have BK102 := n1_; have BK103 := n2_; have HB := n3_; clear n0_ n1_ n2_ n3_; clear hb ho6; have hnb7 := NB102_103.out; have hnc7 := NB103_102.out; have hcz8_0 : w5.cell? ⟨gb102, 0, none⟩ = some (.int .i64 a0_0) := (blk_cell BK102.out 0).trans rfl; have hcz8_1 : w5.cell? ⟨gb102, 1, none⟩ = some (.bool a0_1) := (blk_cell BK102.out 1).trans rfl; have hcz8_2 : w5.cell? ⟨gb102, 2, none⟩ = some (.slice A0_2 l0_2.length c0_2) := (blk_cell BK102.out 2).trans rfl; have hcz8_3 : w5.cell? ⟨gb102, 3, none⟩ = some (.slice A0_3 l0_3.length c0_3) := (blk_cell BK102.out 3).trans rfl; have hfz8_0 := blk_frozen BK102.out 0; have hfz8_1 := blk_frozen BK102.out 1; have hfz8_2 := blk_frozen BK102.out 2; have hfz8_3 := blk_frozen BK102.out 3))
  go_loopg [5, 12] k (fun kq v5 v12 w' => ∃ (x5_1 : List (S55)) (x12_1 : Int), v12 = .int .i64 x12_1 ∧ Aside0 (spec_Master_Of.l0 kq x5_1 l0_2 (l0_2.length : Int) x12_1 a1_0 a1_1 a1_2 a1_3 a1_4 a1_5 a1_6 a1_7 a1_8 a1_9 a1_10 a1_11 a1_12 = some r) ∧ Aside0 (kq ≤ k) ∧ Aside0 (Kd.R k55 55 w' w.heap.size (fun _ => True) v5 x5_1) ∧ Aside0 (w'.heap[gb102]? = some (.cells #[.int .i64 a0_0, .bool a0_1, (.slice A0_2 l0_2.length c0_2), (.slice A0_3 l0_3.length c0_3)] 27 (0, 0))) ∧ Aside0 (w'.heap[gb103]? = some (.cells #[.string a1_0, .int .u32 a1_1, .int .u32 a1_2, .int .u32 a1_3, .string a1_4, .int .u32 a1_5, .int .u32 a1_6, .string a1_7, .string a1_8, .string a1_9, .string a1_10, .string a1_11, .int .i64 a1_12] 44 (0, 0))) ∧ Aside0 (Below w.heap.size w w'))
  case atStart => exact ⟨(y104), (0), (by first | rfl | (simp; done) | (simp [*]; done)), H', ⟨Nat.le_refl _⟩, ⟨by (with_reducible repeat (first | apply Kd.R_alloc | apply Kd.R_drewN | apply Kd.R_drew)); exact HO106.out⟩, ⟨by (with_reducible repeat (first | refine blk_drewN ?_ _ | refine blk_drew ?_ | refine blk_alloc ?_ _)); exact BK102.out⟩, ⟨by (with_reducible repeat (first | refine blk_drewN ?_ _ | refine blk_drew ?_ | refine blk_alloc ?_ _)); exact BK103.out⟩, ⟨by repeat (first | (with_reducible first | exact HB.out | apply below_alloc | apply pw_below_drewN | apply below_drew1 | refine below_set ?_ GE102.out | refine below_set ?_ GE103.out) | exact HB.out)⟩⟩
  case round =>
    clear H'
    clear hcz8_0 hcz8_1 hcz8_2 hcz8_3 hfz8_0 hfz8_1 hfz8_2 hfz8_3
    obtain ⟨x5_1, x12_1, rfl, HA, HK1, HO_5, BK102, BK103, HB⟩ := hrel
    cases gk with
    | zero => exact absurd HA.out (by simp [spec_Master_Of.l0])
    | succ k1 =>
      have H := HA.out
      clear HA
      simp only [spec_Master_Of.l0] at H
      by_cases c9 : x12_1 < (l0_2.length : Int)
      · rw [if_pos c9] at H
        have c9b0 : decide (x12_1 < (l0_2.length : Int)) = true := decide_eq_true c9
        clear c9
        by_cases c10 : 0 ≤ x12_1
        · rw [if_pos c10] at H
          have c10b0 : decide (0 ≤ x12_1) = true := decide_eq_true c10
          clear c10
          by_cases c11 : x12_1 < (l0_2.length : Int)
          · rw [if_pos c11] at H
            have c11b0 : decide (x12_1 < (l0_2.length : Int)) = true := decide_eq_true c11
            clear c11
            have HC12 := Aside0.mk H
            clear H
            have p107 : 0 ≤ (x12_1 : Int) := of_decide_eq_true (by first | (with_reducible assumption) | assumption)
            have q107 : x12_1 < (l0_2.length : Int) := of_decide_eq_true (by first | (with_reducible assumption) | assumption)
            obtain ⟨ad107, e107, hx107_0, hx107_1, hx107_2, hx107_3, hx107_4, hx107_5, hx107_6⟩ := at_T55 HR0_2.out x12_1 p107 q107
            cases e107
            replace hx107_0 := (HB.out.cell (World.block_lt_of_cell? w _ hx107_0)).trans hx107_0
            replace hx107_1 := (HB.out.cell (World.block_lt_of_cell? w _ hx107_1)).trans hx107_1
            replace hx107_2 := (HB.out.cell (World.block_lt_of_cell? w _ hx107_2)).trans hx107_2
            replace hx107_3 := (HB.out.cell (World.block_lt_of_cell? w _ hx107_3)).trans hx107_3
            replace hx107_4 := (HB.out.cell (World.block_lt_of_cell? w _ hx107_4)).trans hx107_4
            replace hx107_5 := (HB.out.cell (World.block_lt_of_cell? w _ hx107_5)).trans hx107_5
            replace hx107_6 := (HB.out.cell (World.block_lt_of_cell? w _ hx107_6)).trans hx107_6
            replace p107 := eq_true p107
            replace q107 := eq_true q107
            go_upto_region 5 with (first | ((with_reducible refine gate_dst (N := 7) rfl ?_); refine box_event ?hg (N := 7) ?hd (cs := #[.string (⟨#[]⟩ : ByteArray), .string (⟨#[]⟩ : ByteArray), .string (⟨#[]⟩ : ByteArray), .bool false, .string (⟨#[]⟩ : ByteArray), .string (⟨#[]⟩ : ByteArray), .string (⟨#[]⟩ : ByteArray)]) (t := 55) ?hr ?_; (case hd => rfl); (case hg => rfl); (case hr => first | (go_simp; done) | (go_simp; rfl)); intro gb108 hg w13 hbox hb; have n0_ := Aside0.mk (Kd.R_below (Kd.R_elderB (by (with_reducible repeat (first | apply Kd.R_alloc | apply Kd.R_drewN | apply Kd.R_drew)); exact HO_5.out) gb108 (Nat.le_of_eq hg.symm)) hb); have n1_ := Aside0.mk (blk_below (g := gb102) (o := .cells #[.int .i64 a0_0, .bool a0_1, .slice (some ad107) l0_2.length c0_2, .slice A0_3 l0_3.length c0_3] 27 (0, 0)) (by (with_reducible repeat (first | refine blk_drewN ?_ _ | refine blk_drew ?_ | refine blk_alloc ?_ _)); exact BK102.out) hb); have n2_ := Aside0.mk (blk_below (g := gb103) (o := .cells #[.string a1_0, .int .u32 a1_1, .int .u32 a1_2, .int .u32 a1_3, .string a1_4, .int .u32 a1_5, .int .u32 a1_6, .string a1_7, .string a1_8, .string a1_9, .string a1_10, .string a1_11, .int .i64 a1_12] 44 (0, 0)) (by (with_reducible repeat (first | refine blk_drewN ?_ _ | refine blk_drew ?_ | refine blk_alloc ?_ _)); exact BK103.out) hb); have n3_ := Aside0.mk (below_step (by repeat (first | (with_reducible first | exact HB.out | apply below_alloc | apply pw_below_drewN | apply below_drew1 | refine below_set ?_ GE102.out | refine below_set ?_ GE103.out) | exact HB.out)) hb); have n4_ := Aside0.mk (hbox); have n5_ := Aside0.mk ((by rw [hg]; exact (below_size (by repeat (first | (with_reducible first | exact HB.out | apply below_alloc | apply pw_below_drewN | apply below_drew1 | refine below_set ?_ GE102.out | refine below_set ?_ GE103.out) | exact HB.out))) : w.heap.size ≤ gb108)); have n6_ := Aside0.mk ((by rw [hg]; exact (below_size (by repeat (first | (with_reducible first | exact HB.out | apply below_alloc | apply pw_below_drewN | apply below_drew1 | refine below_set ?_ GE102.out | refine below_set ?_ GE103.out) | exact HB.out))) : w.heap.size ≤ gb108)); have n7_ := Aside0.mk ((by rw [hg]; exact Nat.ne_of_lt (blk_lt (g := gb102) (o := .cells #[.int .i64 a0_0, .bool a0_1, .slice (some ad107) l0_2.length c0_2, .slice A0_3 l0_3.length c0_3] 27 (0, 0)) (by (with_reducible repeat (first | refine blk_drewN ?_ _ | refine blk_drew ?_ | refine blk_alloc ?_ _)); exact BK102.out)) : gb102 ≠ gb108)); have n8_ := Aside0.mk ((by rw [hg]; exact Nat.ne_of_gt (blk_lt (g := gb102) (o := .cells #[.int .i64 a0_0, .bool a0_1, .slice (some ad107) l0_2.length c0_2, .slice A0_3 l0_3.length c0_3] 27 (0, 0)) (by (with_reducible repeat (first | refine blk_drewN ?_ _ | refine blk_drew ?_ | refine blk_alloc ?_ _)); exact BK102.out)) : gb108 ≠ gb102)); have n9_ := Aside0.mk ((by rw [hg]; exact Nat.ne_of_lt (blk_lt (g := gb103) (o := .cells #[.string a1_0, .int .u32 a1_1, .int .u32 a1_2, .int .u32 a1_3, .string a1_4, .int .u32 a1_5, .int .u32 a1_6, .string a1_7, .string a1_8, .string a1_9, .string a1_10, .string a1_11, .int .i64 a1_12] 44 (0, 0)) (by (with_reducible repeat (first | refine blk_drewN ?_ _ | refine blk_drew ?_ | refine blk_alloc ?_ _)); exact BK103.out)) : gb103 ≠ gb108)); have n10_ := Aside0.mk ((by rw [hg]; exact Nat.ne_of_gt (blk_lt (g := gb103) (o := .cells #[.string a1_0, .int .u32 a1_1, .int .u32 a1_2, .int .u32 a1_3, .string a1_4, .int .u32 a1_5, .int .u32 a1_6, .string a1_7, .string a1_8, .string a1_9, .string a1_10, .string a1_11, .int .i64 a1_12] 44 (0, 0)) (by (with_reducible repeat (first | refine blk_drewN ?_ _ | refine blk_drew ?_ | refine blk_alloc ?_ _)); exact BK103.out)) : gb108 ≠ gb103)); clear HO_5; clear BK102; clear BK103; clear HB; have HO_5 := n0_; have BK102 := n1_; have BK103 := n2_; have HB := n3_; have BK108 := n4_; have GW108 := n5_; have GE108 := n6_; have NB102_108 := n7_; have NB108_102 := n8_; have NB103_108 := n9_; have NB108_103 := n10_; clear n0_ n1_ n2_ n3_ n4_ n5_ n6_ n7_ n8_ n9_ n10_; clear hb hbox hg; have hnb14 := NB108_102.out; have hnc14 := NB102_108.out; have hnb15 := NB108_103.out; have hnc15 := NB103_108.out; have hcz16_0 : w13.cell? ⟨gb108, 0, none⟩ = some (.string (⟨#[]⟩ : ByteArray)) := (blk_cell BK108.out 0).trans rfl; have hcz16_1 : w13.cell? ⟨gb108, 1, none⟩ = some (.string (⟨#[]⟩ : ByteArray)) := (blk_cell BK108.out 1).trans rfl; have hcz16_2 : w13.cell? ⟨gb108, 2, none⟩ = some (.string (⟨#[]⟩ : ByteArray)) := (blk_cell BK108.out 2).trans rfl; have hcz16_3 : w13.cell? ⟨gb108, 3, none⟩ = some (.bool false) := (blk_cell BK108.out 3).trans rfl; have hcz16_4 : w13.cell? ⟨gb108, 4, none⟩ = some (.string (⟨#[]⟩ : ByteArray)) := (blk_cell BK108.out 4).trans rfl; have hcz16_5 : w13.cell? ⟨gb108, 5, none⟩ = some (.string (⟨#[]⟩ : ByteArray)) := (blk_cell BK108.out 5).trans rfl; have hcz16_6 : w13.cell? ⟨gb108, 6, none⟩ = some (.string (⟨#[]⟩ : ByteArray)) := (blk_cell BK108.out 6).trans rfl; have hfz16_0 := blk_frozen BK108.out 0; have hfz16_1 := blk_frozen BK108.out 1; have hfz16_2 := blk_frozen BK108.out 2; have hfz16_3 := blk_frozen BK108.out 3; have hfz16_4 := blk_frozen BK108.out 4; have hfz16_5 := blk_frozen BK108.out 5; have hfz16_6 := blk_frozen BK108.out 6))
            (try simp only [Act.put, List.setIfInBounds_toArray, List.set_cons_zero, List.set_cons_succ])
            go_cut [16] (fun v16 wc => ∃ (kq : Nat) (x16_11 : Bool), v16 = .bool x16_11 ∧ Aside0 (spec_Master_Of.j1 kq x5_1 l0_2 (l0_2.length : Int) x12_1 x16_11 a1_0 a1_1 a1_2 a1_3 a1_4 a1_5 a1_6 a1_7 a1_8 a1_9 a1_10 a1_11 a1_12 ((rd_T55 l0_2 x12_1).f0) ((rd_T55 l0_2 x12_1).f1) ((rd_T55 l0_2 x12_1).f2) ((rd_T55 l0_2 x12_1).f3) ((rd_T55 l0_2 x12_1).f4) ((rd_T55 l0_2 x12_1).f5) ((rd_T55 l0_2 x12_1).f6) = some r) ∧ Aside0 (kq ≤ k1) ∧ Aside0 (Kd.R k55 55 wc w.heap.size (fun k_ => k_ ≠ gb108) u5 x5_1) ∧ Aside0 (wc.heap[gb102]? = some (.cells #[.int .i64 a0_0, .bool a0_1, (.slice (some ad107) l0_2.length c0_2), (.slice A0_3 l0_3.length c0_3)] 27 (0, 0))) ∧ Aside0 (wc.heap[gb103]? = some (.cells #[.string a1_0, .int .u32 a1_1, .int .u32 a1_2, .int .u32 a1_3, .string a1_4, .int .u32 a1_5, .int .u32 a1_6, .string a1_7, .string a1_8, .string a1_9, .string a1_10, .string a1_11, .int .i64 a1_12] 44 (0, 0))) ∧ Aside0 (wc.heap[gb108]? = some (.cells #[.string ((rd_T55 l0_2 x12_1).f0), .string ((rd_T55 l0_2 x12_1).f1), .string ((rd_T55 l0_2 x12_1).f2), .bool ((rd_T55 l0_2 x12_1).f3), .string ((rd_T55 l0_2 x12_1).f4), .string ((rd_T55 l0_2 x12_1).f5), .string ((rd_T55 l0_2 x12_1).f6)] 55 (0, 0))) ∧ Aside0 (Below w.heap.size w wc))
            case first =>
              have H := HC12.out
              clear HC12
              by_cases c17 : ((rd_T55 l0_2 x12_1).f0).toList = ([65, 85, 68, 73, 79] : List UInt8)
              · rw [if_pos c17] at H
                have c17b0 : (((rd_T55 l0_2 x12_1).f0).toList == ([65, 85, 68, 73, 79] : List UInt8)) = true := beq_iff_eq.mpr c17
                have c17b1 : (((rd_T55 l0_2 x12_1).f0).toList != ([65, 85, 68, 73, 79] : List UInt8)) = false := bne_eq_false_iff_eq.mpr c17
                clear c17
                (first | rw [c17b0] | rw [c17b3] | rw [c17b2] | (simp only [i64_w, i32_w]; rw [c17b0]) | skip)
                have H' := Aside0.mk H
                clear H
                have hnb18 := NB108_102.out
                have hnc18 := NB102_108.out
                have hnb19 := NB108_103.out
                have hnc19 := NB103_108.out
                have hcz20_0 : w13.cell? ⟨gb108, 0, none⟩ = some (.string (⟨#[]⟩ : ByteArray)) := (blk_cell BK108.out 0).trans rfl
                have hcz20_1 : w13.cell? ⟨gb108, 1, none⟩ = some (.string (⟨#[]⟩ : ByteArray)) := (blk_cell BK108.out 1).trans rfl
                have hcz20_2 : w13.cell? ⟨gb108, 2, none⟩ = some (.string (⟨#[]⟩ : ByteArray)) := (blk_cell BK108.out 2).trans rfl
                have hcz20_3 : w13.cell? ⟨gb108, 3, none⟩ = some (.bool false) := (blk_cell BK108.out 3).trans rfl
                have hcz20_4 : w13.cell? ⟨gb108, 4, none⟩ = some (.string (⟨#[]⟩ : ByteArray)) := (blk_cell BK108.out 4).trans rfl
                have hcz20_5 : w13.cell? ⟨gb108, 5, none⟩ = some (.string (⟨#[]⟩ : ByteArray)) := (blk_cell BK108.out 5).trans rfl
                have hcz20_6 : w13.cell? ⟨gb108, 6, none⟩ = some (.string (⟨#[]⟩ : ByteArray)) := (blk_cell BK108.out 6).trans rfl
                have hfz20_0 := blk_frozen BK108.out 0
                have hfz20_1 := blk_frozen BK108.out 1
                have hfz20_2 := blk_frozen BK108.out 2
                have hfz20_3 := blk_frozen BK108.out 3
                have hfz20_4 := blk_frozen BK108.out 4
                have hfz20_5 := blk_frozen BK108.out 5
                have hfz20_6 := blk_frozen BK108.out 6
                have hnb21 := NB103_102.out
                have hnc21 := NB102_103.out
                have hcz22_0 : w13.cell? ⟨gb103, 0, none⟩ = some (.string a1_0) := (blk_cell BK103.out 0).trans rfl
                have hcz22_1 : w13.cell? ⟨gb103, 1, none⟩ = some (.int .u32 a1_1) := (blk_cell BK103.out 1).trans rfl
                have hcz22_2 : w13.cell? ⟨gb103, 2, none⟩ = some (.int .u32 a1_2) := (blk_cell BK103.out 2).trans rfl
                have hcz22_3 : w13.cell? ⟨gb103, 3, none⟩ = some (.int .u32 a1_3) := (blk_cell BK103.out 3).trans rfl
                have hcz22_4 : w13.cell? ⟨gb103, 4, none⟩ = some (.string a1_4) := (blk_cell BK103.out 4).trans rfl
                have hcz22_5 : w13.cell? ⟨gb103, 5, none⟩ = some (.int .u32 a1_5) := (blk_cell BK103.out 5).trans rfl
                have hcz22_6 : w13.cell? ⟨gb103, 6, none⟩ = some (.int .u32 a1_6) := (blk_cell BK103.out 6).trans rfl
                have hcz22_7 : w13.cell? ⟨gb103, 7, none⟩ = some (.string a1_7) := (blk_cell BK103.out 7).trans rfl
                have hcz22_8 : w13.cell? ⟨gb103, 8, none⟩ = some (.string a1_8) := (blk_cell BK103.out 8).trans rfl
                have hcz22_9 : w13.cell? ⟨gb103, 9, none⟩ = some (.string a1_9) := (blk_cell BK103.out 9).trans rfl
                have hcz22_10 : w13.cell? ⟨gb103, 10, none⟩ = some (.string a1_10) := (blk_cell BK103.out 10).trans rfl
                have hcz22_11 : w13.cell? ⟨gb103, 11, none⟩ = some (.string a1_11) := (blk_cell BK103.out 11).trans rfl
                have hcz22_12 : w13.cell? ⟨gb103, 12, none⟩ = some (.int .i64 a1_12) := (blk_cell BK103.out 12).trans rfl
                have hfz22_0 := blk_frozen BK103.out 0
                have hfz22_1 := blk_frozen BK103.out 1
                have hfz22_2 := blk_frozen BK103.out 2
                have hfz22_3 := blk_frozen BK103.out 3
                have hfz22_4 := blk_frozen BK103.out 4
                have hfz22_5 := blk_frozen BK103.out 5
                have hfz22_6 := blk_frozen BK103.out 6
                have hfz22_7 := blk_frozen BK103.out 7
                have hfz22_8 := blk_frozen BK103.out 8
                have hfz22_9 := blk_frozen BK103.out 9
                have hfz22_10 := blk_frozen BK103.out 10
                have hfz22_11 := blk_frozen BK103.out 11
                have hfz22_12 := blk_frozen BK103.out 12
                go_wp2
                go_meet
                case rel => exact ⟨_, ((a1_7.toList == ((rd_T55 l0_2 x12_1).f1).toList)), (by first | rfl | (simp; done) | (simp [*]; done)), H', ⟨by have := HK1.out; first | omega | exact Nat.le_refl _⟩, ⟨by (with_reducible repeat (first | apply Kd.R_alloc | apply Kd.R_drewN | apply Kd.R_drew)); exact Kd.R_mono (Kd.R_far (p := ⟨gb108, 6, none⟩) (Kd.R_far (p := ⟨gb108, 5, none⟩) (Kd.R_far (p := ⟨gb108, 4, none⟩) (Kd.R_far (p := ⟨gb108, 3, none⟩) (Kd.R_far (p := ⟨gb108, 2, none⟩) (Kd.R_far (p := ⟨gb108, 1, none⟩) (Kd.R_far (p := ⟨gb108, 0, none⟩) (Kd.R_mono HO_5.out (fun k_ hk => (⟨hk, hk.2⟩ : _ ∧ k_ ≠ gb108))) (fun _ hk => hk.2) (.string ((rd_T55 l0_2 x12_1).f0))) (fun _ hk => hk.2) (.string ((rd_T55 l0_2 x12_1).f1))) (fun _ hk => hk.2) (.string ((rd_T55 l0_2 x12_1).f2))) (fun _ hk => hk.2) (.bool ((rd_T55 l0_2 x12_1).f3))) (fun _ hk => hk.2) (.string ((rd_T55 l0_2 x12_1).f4))) (fun _ hk => hk.2) (.string ((rd_T55 l0_2 x12_1).f5))) (fun _ hk => hk.2) (.string ((rd_T55 l0_2 x12_1).f6))) (fun _ hk => hk.1.2)⟩, ⟨by (with_reducible repeat (first | refine blk_drewN ?_ _ | refine blk_drew ?_ | refine blk_alloc ?_ _)); refine blk_far ?_ NB102_108.out _; (with_reducible repeat (first | refine blk_drewN ?_ _ | refine blk_drew ?_ | refine blk_alloc ?_ _)); refine blk_far ?_ NB102_108.out _; (with_reducible repeat (first | refine blk_drewN ?_ _ | refine blk_drew ?_ | refine blk_alloc ?_ _)); refine blk_far ?_ NB102_108.out _; (with_reducible repeat (first | refine blk_drewN ?_ _ | refine blk_drew ?_ | refine blk_alloc ?_ _)); refine blk_far ?_ NB102_108.out _; (with_reducible repeat (first | refine blk_drewN ?_ _ | refine blk_drew ?_ | refine blk_alloc ?_ _)); refine blk_far ?_ NB102_108.out _; (with_reducible repeat (first | refine blk_drewN ?_ _ | refine blk_drew ?_ | refine blk_alloc ?_ _)); refine blk_far ?_ NB102_108.out _; (with_reducible repeat (first | refine blk_drewN ?_ _ | refine blk_drew ?_ | refine blk_alloc ?_ _)); refine blk_far ?_ NB102_108.out _; (with_reducible repeat (first | refine blk_drewN ?_ _ | refine blk_drew ?_ | refine blk_alloc ?_ _)); exact BK102.out⟩, ⟨by (with_reducible repeat (first | refine blk_drewN ?_ _ | refine blk_drew ?_ | refine blk_alloc ?_ _)); refine blk_far ?_ NB103_108.out _; (with_reducible repeat (first | refine blk_drewN ?_ _ | refine blk_drew ?_ | refine blk_alloc ?_ _)); refine blk_far ?_ NB103_108.out _; (with_reducible repeat (first | refine blk_drewN ?_ _ | refine blk_drew ?_ | refine blk_alloc ?_ _)); refine blk_far ?_ NB103_108.out _; (with_reducible repeat (first | refine blk_drewN ?_ _ | refine blk_drew ?_ | refine blk_alloc ?_ _)); refine blk_far ?_ NB103_108.out _; (with_reducible repeat (first | refine blk_drewN ?_ _ | refine blk_drew ?_ | refine blk_alloc ?_ _)); refine blk_far ?_ NB103_108.out _; (with_reducible repeat (first | refine blk_drewN ?_ _ | refine blk_drew ?_ | refine blk_alloc ?_ _)); refine blk_far ?_ NB103_108.out _; (with_reducible repeat (first | refine blk_drewN ?_ _ | refine blk_drew ?_ | refine blk_alloc ?_ _)); refine blk_far ?_ NB103_108.out _; (with_reducible repeat (first | refine blk_drewN ?_ _ | refine blk_drew ?_ | refine blk_alloc ?_ _)); exact BK103.out⟩, ⟨by (with_reducible repeat (first | refine blk_drewN ?_ _ | refine blk_drew ?_ | refine blk_alloc ?_ _)); refine blk_put (cs := #[.string ((rd_T55 l0_2 x12_1).f0), .string ((rd_T55 l0_2 x12_1).f1), .string ((rd_T55 l0_2 x12_1).f2), .bool ((rd_T55 l0_2 x12_1).f3), .string ((rd_T55 l0_2 x12_1).f4), .string ((rd_T55 l0_2 x12_1).f5), .string (⟨#[]⟩ : ByteArray)]) ?_ 6 _ rfl; (with_reducible repeat (first | refine blk_drewN ?_ _ | refine blk_drew ?_ | refine blk_alloc ?_ _)); refine blk_put (cs := #[.string ((rd_T55 l0_2 x12_1).f0), .string ((rd_T55 l0_2 x12_1).f1), .string ((rd_T55 l0_2 x12_1).f2), .bool ((rd_T55 l0_2 x12_1).f3), .string ((rd_T55 l0_2 x12_1).f4), .string (⟨#[]⟩ : ByteArray), .string (⟨#[]⟩ : ByteArray)]) ?_ 5 _ rfl; (with_reducible repeat (first | refine blk_drewN ?_ _ | refine blk_drew ?_ | refine blk_alloc ?_ _)); refine blk_put (cs := #[.string ((rd_T55 l0_2 x12_1).f0), .string ((rd_T55 l0_2 x12_1).f1), .string ((rd_T55 l0_2 x12_1).f2), .bool ((rd_T55 l0_2 x12_1).f3), .string (⟨#[]⟩ : ByteArray), .string (⟨#[]⟩ : ByteArray), .string (⟨#[]⟩ : ByteArray)]) ?_ 4 _ rfl; (with_reducible repeat (first | refine blk_drewN ?_ _ | refine blk_drew ?_ | refine blk_alloc ?_ _)); refine blk_put (cs := #[.string ((rd_T55 l0_2 x12_1).f0), .string ((rd_T55 l0_2 x12_1).f1), .string ((rd_T55 l0_2 x12_1).f2), .bool false, .string (⟨#[]⟩ : ByteArray), .string (⟨#[]⟩ : ByteArray), .string (⟨#[]⟩ : ByteArray)]) ?_ 3 _ rfl; (with_reducible repeat (first | refine blk_drewN ?_ _ | refine blk_drew ?_ | refine blk_alloc ?_ _)); refine blk_put (cs := #[.string ((rd_T55 l0_2 x12_1).f0), .string ((rd_T55 l0_2 x12_1).f1), .string (⟨#[]⟩ : ByteArray), .bool false, .string (⟨#[]⟩ : ByteArray), .string (⟨#[]⟩ : ByteArray), .string (⟨#[]⟩ : ByteArray)]) ?_ 2 _ rfl; (with_reducible repeat (first | refine blk_drewN ?_ _ | refine blk_drew ?_ | refine blk_alloc ?_ _)); refine blk_put (cs := #[.string ((rd_T55 l0_2 x12_1).f0), .string (⟨#[]⟩ : ByteArray), .string (⟨#[]⟩ : ByteArray), .bool false, .string (⟨#[]⟩ : ByteArray), .string (⟨#[]⟩ : ByteArray), .string (⟨#[]⟩ : ByteArray)]) ?_ 1 _ rfl; (with_reducible repeat (first | refine blk_drewN ?_ _ | refine blk_drew ?_ | refine blk_alloc ?_ _)); refine blk_put (cs := #[.string (⟨#[]⟩ : ByteArray), .string (⟨#[]⟩ : ByteArray), .string (⟨#[]⟩ : ByteArray), .bool false, .string (⟨#[]⟩ : ByteArray), .string (⟨#[]⟩ : ByteArray), .string (⟨#[]⟩ : ByteArray)]) ?_ 0 _ rfl; (with_reducible repeat (first | refine blk_drewN ?_ _ | refine blk_drew ?_ | refine blk_alloc ?_ _)); exact BK108.out⟩, ⟨by repeat (first | (with_reducible first | exact HB.out | apply below_alloc | apply pw_below_drewN | apply below_drew1 | refine below_set ?_ GE102.out | refine below_set ?_ GE103.out | refine below_set ?_ GE108.out) | exact HB.out)⟩⟩
              · rw [if_neg c17] at H
                have c17b0 : (((rd_T55 l0_2 x12_1).f0).toList == ([65, 85, 68, 73, 79] : List UInt8)) = false := beq_eq_false_iff_ne.mpr c17
                have c17b1 : (((rd_T55 l0_2 x12_1).f0).toList != ([65, 85, 68, 73, 79] : List UInt8)) = true := bne_iff_ne.mpr c17
                (first | rw [c17b0] | rw [c17b3] | rw [c17b2] | (simp only [i64_w, i32_w]; rw [c17b0]) | skip)
                have H' := Aside0.mk H
                clear H
                have hnb23 := NB108_102.out
                have hnc23 := NB102_108.out
                have hnb24 := NB108_103.out
                have hnc24 := NB103_108.out
                have hcz25_0 : w13.cell? ⟨gb108, 0, none⟩ = some (.string (⟨#[]⟩ : ByteArray)) := (blk_cell BK108.out 0).trans rfl
                have hcz25_1 : w13.cell? ⟨gb108, 1, none⟩ = some (.string (⟨#[]⟩ : ByteArray)) := (blk_cell BK108.out 1).trans rfl
                have hcz25_2 : w13.cell? ⟨gb108, 2, none⟩ = some (.string (⟨#[]⟩ : ByteArray)) := (blk_cell BK108.out 2).trans rfl
                have hcz25_3 : w13.cell? ⟨gb108, 3, none⟩ = some (.bool false) := (blk_cell BK108.out 3).trans rfl
                have hcz25_4 : w13.cell? ⟨gb108, 4, none⟩ = some (.string (⟨#[]⟩ : ByteArray)) := (blk_cell BK108.out 4).trans rfl
                have hcz25_5 : w13.cell? ⟨gb108, 5, none⟩ = some (.string (⟨#[]⟩ : ByteArray)) := (blk_cell BK108.out 5).trans rfl
                have hcz25_6 : w13.cell? ⟨gb108, 6, none⟩ = some (.string (⟨#[]⟩ : ByteArray)) := (blk_cell BK108.out 6).trans rfl
                have hfz25_0 := blk_frozen BK108.out 0
                have hfz25_1 := blk_frozen BK108.out 1
                have hfz25_2 := blk_frozen BK108.out 2
                have hfz25_3 := blk_frozen BK108.out 3
                have hfz25_4 := blk_frozen BK108.out 4
                have hfz25_5 := blk_frozen BK108.out 5
                have hfz25_6 := blk_frozen BK108.out 6
                go_wp2
                go_meet
                case rel => exact ⟨_, (false), (by first | rfl | (simp; done) | (simp [*]; done)), H', ⟨by have := HK1.out; first | omega | exact Nat.le_refl _⟩, ⟨by (with_reducible repeat (first | apply Kd.R_alloc | apply Kd.R_drewN | apply Kd.R_drew)); exact Kd.R_mono (Kd.R_far (p := ⟨gb108, 6, none⟩) (Kd.R_far (p := ⟨gb108, 5, none⟩) (Kd.R_far (p := ⟨gb108, 4, none⟩) (Kd.R_far (p := ⟨gb108, 3, none⟩) (Kd.R_far (p := ⟨gb108, 2, none⟩) (Kd.R_far (p := ⟨gb108, 1, none⟩) (Kd.R_far (p := ⟨gb108, 0, none⟩) (Kd.R_mono HO_5.out (fun k_ hk => (⟨hk, hk.2⟩ : _ ∧ k_ ≠ gb108))) (fun _ hk => hk.2) (.string ((rd_T55 l0_2 x12_1).f0))) (fun _ hk => hk.2) (.string ((rd_T55 l0_2 x12_1).f1))) (fun _ hk => hk.2) (.string ((rd_T55 l0_2 x12_1).f2))) (fun _ hk => hk.2) (.bool ((rd_T55 l0_2 x12_1).f3))) (fun _ hk => hk.2) (.string ((rd_T55 l0_2 x12_1).f4))) (fun _ hk => hk.2) (.string ((rd_T55 l0_2 x12_1).f5))) (fun _ hk => hk.2) (.string ((rd_T55 l0_2 x12_1).f6))) (fun _ hk => hk.1.2)⟩, ⟨by (with_reducible repeat (first | refine blk_drewN ?_ _ | refine blk_drew ?_ | refine blk_alloc ?_ _)); refine blk_far ?_ NB102_108.out _; (with_reducible repeat (first | refine blk_drewN ?_ _ | refine blk_drew ?_ | refine blk_alloc ?_ _)); refine blk_far ?_ NB102_108.out _; (with_reducible repeat (first | refine blk_drewN ?_ _ | refine blk_drew ?_ | refine blk_alloc ?_ _)); refine blk_far ?_ NB102_108.out _; (with_reducible repeat (first | refine blk_drewN ?_ _ | refine blk_drew ?_ | refine blk_alloc ?_ _)); refine blk_far ?_ NB102_108.out _; (with_reducible repeat (first | refine blk_drewN ?_ _ | refine blk_drew ?_ | refine blk_alloc ?_ _)); refine blk_far ?_ NB102_108.out _; (with_reducible repeat (first | refine blk_drewN ?_ _ | refine blk_drew ?_ | refine blk_alloc ?_ _)); refine blk_far ?_ NB102_108.out _; (with_reducible repeat (first | refine blk_drewN ?_ _ | refine blk_drew ?_ | refine blk_alloc ?_ _)); refine blk_far ?_ NB102_108.out _; (with_reducible repeat (first | refine blk_drewN ?_ _ | refine blk_drew ?_ | refine blk_alloc ?_ _)); exact BK102.out⟩, ⟨by (with_reducible repeat (first | refine blk_drewN ?_ _ | refine blk_drew ?_ | refine blk_alloc ?_ _)); refine blk_far ?_ NB103_108.out _; (with_reducible repeat (first | refine blk_drewN ?_ _ | refine blk_drew ?_ | refine blk_alloc ?_ _)); refine blk_far ?_ NB103_108.out _; (with_reducible repeat (first | refine blk_drewN ?_ _ | refine blk_drew ?_ | refine blk_alloc ?_ _)); refine blk_far ?_ NB103_108.out _; (with_reducible repeat (first | refine blk_drewN ?_ _ | refine blk_drew ?_ | refine blk_alloc ?_ _)); refine blk_far ?_ NB103_108.out _; (with_reducible repeat (first | refine blk_drewN ?_ _ | refine blk_drew ?_ | refine blk_alloc ?_ _)); refine blk_far ?_ NB103_108.out _; (with_reducible repeat (first | refine blk_drewN ?_ _ | refine blk_drew ?_ | refine blk_alloc ?_ _)); refine blk_far ?_ NB103_108.out _; (with_reducible repeat (first | refine blk_drewN ?_ _ | refine blk_drew ?_ | refine blk_alloc ?_ _)); refine blk_far ?_ NB103_108.out _; (with_reducible repeat (first | refine blk_drewN ?_ _ | refine blk_drew ?_ | refine blk_alloc ?_ _)); exact BK103.out⟩, ⟨by (with_reducible repeat (first | refine blk_drewN ?_ _ | refine blk_drew ?_ | refine blk_alloc ?_ _)); refine blk_put (cs := #[.string ((rd_T55 l0_2 x12_1).f0), .string ((rd_T55 l0_2 x12_1).f1), .string ((rd_T55 l0_2 x12_1).f2), .bool ((rd_T55 l0_2 x12_1).f3), .string ((rd_T55 l0_2 x12_1).f4), .string ((rd_T55 l0_2 x12_1).f5), .string (⟨#[]⟩ : ByteArray)]) ?_ 6 _ rfl; (with_reducible repeat (first | refine blk_drewN ?_ _ | refine blk_drew ?_ | refine blk_alloc ?_ _)); refine blk_put (cs := #[.string ((rd_T55 l0_2 x12_1).f0), .string ((rd_T55 l0_2 x12_1).f1), .string ((rd_T55 l0_2 x12_1).f2), .bool ((rd_T55 l0_2 x12_1).f3), .string ((rd_T55 l0_2 x12_1).f4), .string (⟨#[]⟩ : ByteArray), .string (⟨#[]⟩ : ByteArray)]) ?_ 5 _ rfl; (with_reducible repeat (first | refine blk_drewN ?_ _ | refine blk_drew ?_ | refine blk_alloc ?_ _)); refine blk_put (cs := #[.string ((rd_T55 l0_2 x12_1).f0), .string ((rd_T55 l0_2 x12_1).f1), .string ((rd_T55 l0_2 x12_1).f2), .bool ((rd_T55 l0_2 x12_1).f3), .string (⟨#[]⟩ : ByteArray), .string (⟨#[]⟩ : ByteArray), .string (⟨#[]⟩ : ByteArray)]) ?_ 4 _ rfl; (with_reducible repeat (first | refine blk_drewN ?_ _ | refine blk_drew ?_ | refine blk_alloc ?_ _)); refine blk_put (cs := #[.string ((rd_T55 l0_2 x12_1).f0), .string ((rd_T55 l0_2 x12_1).f1), .string ((rd_T55 l0_2 x12_1).f2), .bool false, .string (⟨#[]⟩ : ByteArray), .string (⟨#[]⟩ : ByteArray), .string (⟨#[]⟩ : ByteArray)]) ?_ 3 _ rfl; (with_reducible repeat (first | refine blk_drewN ?_ _ | refine blk_drew ?_ | refine blk_alloc ?_ _)); refine blk_put (cs := #[.string ((rd_T55 l0_2 x12_1).f0), .string ((rd_T55 l0_2 x12_1).f1), .string (⟨#[]⟩ : ByteArray), .bool false, .string (⟨#[]⟩ : ByteArray), .string (⟨#[]⟩ : ByteArray), .string (⟨#[]⟩ : ByteArray)]) ?_ 2 _ rfl; (with_reducible repeat (first | refine blk_drewN ?_ _ | refine blk_drew ?_ | refine blk_alloc ?_ _)); refine blk_put (cs := #[.string ((rd_T55 l0_2 x12_1).f0), .string (⟨#[]⟩ : ByteArray), .string (⟨#[]⟩ : ByteArray), .bool false, .string (⟨#[]⟩ : ByteArray), .string (⟨#[]⟩ : ByteArray), .string (⟨#[]⟩ : ByteArray)]) ?_ 1 _ rfl; (with_reducible repeat (first | refine blk_drewN ?_ _ | refine blk_drew ?_ | refine blk_alloc ?_ _)); refine blk_put (cs := #[.string (⟨#[]⟩ : ByteArray), .string (⟨#[]⟩ : ByteArray), .string (⟨#[]⟩ : ByteArray), .bool false, .string (⟨#[]⟩ : ByteArray), .string (⟨#[]⟩ : ByteArray), .string (⟨#[]⟩ : ByteArray)]) ?_ 0 _ rfl; (with_reducible repeat (first | refine blk_drewN ?_ _ | refine blk_drew ?_ | refine blk_alloc ?_ _)); exact BK108.out⟩, ⟨by repeat (first | (with_reducible first | exact HB.out | apply below_alloc | apply pw_below_drewN | apply below_drew1 | refine below_set ?_ GE102.out | refine below_set ?_ GE103.out | refine below_set ?_ GE108.out) | exact HB.out)⟩⟩
            case rest =>
              clear HC12
              clear c9b0 c10b0 c11b0 hcz16_0 hcz16_1 hcz16_2 hcz16_3 hcz16_4 hcz16_5 hcz16_6 hfz16_0 hfz16_1 hfz16_2 hfz16_3 hfz16_4 hfz16_5 hfz16_6 hx107_0 hx107_1 hx107_2 hx107_3 hx107_4 hx107_5 hx107_6 p107 q107
              obtain ⟨kq, x16_11, rfl, HA, HJ11, HO_5, BK102, BK103, BK108, HB⟩ := hcut
              cases kq with
              | zero => exact absurd HA.out (by simp [spec_Master_Of.j1])
              | succ kj11 =>
                have H := HA.out
                clear HA
                simp only [spec_Master_Of.j1] at H
                by_cases c26 : x16_11 = true
                · subst c26
                  have H1 : (if x5_1.length < 1353245080339 then (spec_Master_Of.l0 kj11 (x5_1 ++ [(⟨((rd_T55 l0_2 x12_1).f0), ((rd_T55 l0_2 x12_1).f1), ((rd_T55 l0_2 x12_1).f2), ((rd_T55 l0_2 x12_1).f3), ((rd_T55 l0_2 x12_1).f4), ((rd_T55 l0_2 x12_1).f5), ((rd_T55 l0_2 x12_1).f6)⟩ : S55)]) l0_2 (l0_2.length : Int) (wrap64 (x12_1 + 1)) a1_0 a1_1 a1_2 a1_3 a1_4 a1_5 a1_6 a1_7 a1_8 a1_9 a1_10 a1_11 a1_12) else (none)) = some r := by rw [if_pos rfl] at H; exact H
                  clear H
                  have H := H1
                  clear H1
                  by_cases c27 : x5_1.length < 1353245080339
                  · rw [if_pos c27] at H
                    have LMc27 := Aside0.mk c27
                    clear c27
                    obtain ⟨y109, hy109⟩ : ∃ y_ : List (S55), y_ = (x5_1 ++ [(⟨((rd_T55 l0_2 x12_1).f0), ((rd_T55 l0_2 x12_1).f1), ((rd_T55 l0_2 x12_1).f2), ((rd_T55 l0_2 x12_1).f3), ((rd_T55 l0_2 x12_1).f4), ((rd_T55 l0_2 x12_1).f5), ((rd_T55 l0_2 x12_1).f6)⟩ : S55)]) := ⟨_, rfl⟩
                    replace H : (spec_Master_Of.l0 kj11 y109 l0_2 (l0_2.length : Int) (wrap64 (x12_1 + 1)) a1_0 a1_1 a1_2 a1_3 a1_4 a1_5 a1_6 a1_7 a1_8 a1_9 a1_10 a1_11 a1_12) = some r := by first | (rw [hy109]; with_reducible exact H) | (have H2_ := (Option.bind_some _ _).symm.trans H; rw [hy109]; with_reducible exact H2_) | (have H2_ := (Option.bind_some _ _).symm.trans H; with_reducible exact H2_) | with_reducible exact H | (rw [hy109]; exact H) | exact H
                    have Ny109 := Aside0.mk hy109
                    clear hy109
                    have H' := Aside0.mk H
                    clear H
                    have hnb28 := NB108_102.out
                    have hnc28 := NB102_108.out
                    have hnb29 := NB108_103.out
                    have hnc29 := NB103_108.out
                    have hcz30_0 : wc.cell? ⟨gb108, 0, none⟩ = some (.string ((rd_T55 l0_2 x12_1).f0)) := (blk_cell BK108.out 0).trans rfl
                    have hcz30_1 : wc.cell? ⟨gb108, 1, none⟩ = some (.string ((rd_T55 l0_2 x12_1).f1)) := (blk_cell BK108.out 1).trans rfl
                    have hcz30_2 : wc.cell? ⟨gb108, 2, none⟩ = some (.string ((rd_T55 l0_2 x12_1).f2)) := (blk_cell BK108.out 2).trans rfl
                    have hcz30_3 : wc.cell? ⟨gb108, 3, none⟩ = some (.bool ((rd_T55 l0_2 x12_1).f3)) := (blk_cell BK108.out 3).trans rfl
                    have hcz30_4 : wc.cell? ⟨gb108, 4, none⟩ = some (.string ((rd_T55 l0_2 x12_1).f4)) := (blk_cell BK108.out 4).trans rfl
                    have hcz30_5 : wc.cell? ⟨gb108, 5, none⟩ = some (.string ((rd_T55 l0_2 x12_1).f5)) := (blk_cell BK108.out 5).trans rfl
                    have hcz30_6 : wc.cell? ⟨gb108, 6, none⟩ = some (.string ((rd_T55 l0_2 x12_1).f6)) := (blk_cell BK108.out 6).trans rfl
                    have hfz30_0 := blk_frozen BK108.out 0
                    have hfz30_1 := blk_frozen BK108.out 1
                    have hfz30_2 := blk_frozen BK108.out 2
                    have hfz30_3 := blk_frozen BK108.out 3
                    have hfz30_4 := blk_frozen BK108.out 4
                    have hfz30_5 := blk_frozen BK108.out 5
                    have hfz30_6 := blk_frozen BK108.out 6
                    go_wp2_with (first | ((with_reducible refine gate_builtin (b := .append) (xs := #[.tmp 47, .tmp 49]) rfl ?_); at_builtin; refine Kd.R_append k55 (w0 := w) w.heap.size rfl (.tmp 47) (.tmp 49) 24 55 (.agg #[(.string ⟨#[]⟩), (.string ⟨#[]⟩), (.string ⟨#[]⟩), (.bool false), (.string ⟨#[]⟩), (.string ⟨#[]⟩), (.string ⟨#[]⟩)]) 104 rfl Tryz.underlying24 info55 rfl (by decide) (by omega) u5 x5_1 (⟨((rd_T55 l0_2 x12_1).f0), ((rd_T55 l0_2 x12_1).f1), ((rd_T55 l0_2 x12_1).f2), ((rd_T55 l0_2 x12_1).f3), ((rd_T55 l0_2 x12_1).f4), ((rd_T55 l0_2 x12_1).f5), ((rd_T55 l0_2 x12_1).f6)⟩ : S55) [.string ((rd_T55 l0_2 x12_1).f0), .string ((rd_T55 l0_2 x12_1).f1), .string ((rd_T55 l0_2 x12_1).f2), .bool ((rd_T55 l0_2 x12_1).f3), .string ((rd_T55 l0_2 x12_1).f4), .string ((rd_T55 l0_2 x12_1).f5), .string ((rd_T55 l0_2 x12_1).f6)] (fun k_ => k_ ≠ gb108) (fun _ => False) rfl rfl ?aP (fun _ hk => hk.elim) ?aF ?aO ?aB ?aS ?aL ?_; (case aP => exact k55_mkM _ _ _ (⟨((rd_T55 l0_2 x12_1).f0), ((rd_T55 l0_2 x12_1).f1), ((rd_T55 l0_2 x12_1).f2), ((rd_T55 l0_2 x12_1).f3), ((rd_T55 l0_2 x12_1).f4), ((rd_T55 l0_2 x12_1).f5), ((rd_T55 l0_2 x12_1).f6)⟩ : S55)); (case aB => exact (by repeat (first | (with_reducible first | exact HB.out | apply below_alloc | apply pw_below_drewN | apply below_drew1 | refine below_set ?_ GE102.out | refine below_set ?_ GE103.out | refine below_set ?_ GE108.out) | exact HB.out))); (case aF => exact (fun k_ hk => Kd.freshB (g := gb108) (o := .cells #[.string ((rd_T55 l0_2 x12_1).f0), .string ((rd_T55 l0_2 x12_1).f1), .string ((rd_T55 l0_2 x12_1).f2), .bool ((rd_T55 l0_2 x12_1).f3), .string ((rd_T55 l0_2 x12_1).f4), .string ((rd_T55 l0_2 x12_1).f5), .string ((rd_T55 l0_2 x12_1).f6)] 55 (0, 0)) (by (with_reducible repeat (first | refine blk_drewN ?_ _ | refine blk_drew ?_ | refine blk_alloc ?_ _)); exact BK108.out) k_ hk)); (case aO => exact (by (with_reducible repeat (first | apply Kd.R_alloc | apply Kd.R_drewN | apply Kd.R_drew)); exact HO_5.out)); (case aS => exact (below_size (by repeat (first | (with_reducible first | exact HB.out | apply below_alloc | apply pw_below_drewN | apply below_drew1 | refine below_set ?_ GE102.out | refine below_set ?_ GE103.out | refine below_set ?_ GE108.out) | exact HB.out)))); (case aL => have := LMc27.out; omega); intro v110 w31 ho hb hg hat; rw [← Ny109.out] at ho; have n0_ := Aside0.mk (blk_grown (g := gb102) (o := .cells #[.int .i64 a0_0, .bool a0_1, .slice (some ad107) l0_2.length c0_2, .slice A0_3 l0_3.length c0_3] 27 (0, 0)) (by (with_reducible repeat (first | refine blk_drewN ?_ _ | refine blk_drew ?_ | refine blk_alloc ?_ _)); exact BK102.out) hg (Kd.R_ne HO_5.out BK102.out (by decide))); have n1_ := Aside0.mk (blk_grown (g := gb103) (o := .cells #[.string a1_0, .int .u32 a1_1, .int .u32 a1_2, .int .u32 a1_3, .string a1_4, .int .u32 a1_5, .int .u32 a1_6, .string a1_7, .string a1_8, .string a1_9, .string a1_10, .string a1_11, .int .i64 a1_12] 44 (0, 0)) (by (with_reducible repeat (first | refine blk_drewN ?_ _ | refine blk_drew ?_ | refine blk_alloc ?_ _)); exact BK103.out) hg (Kd.R_ne HO_5.out BK103.out (by decide))); have n2_ := Aside0.mk (blk_grown (g := gb108) (o := .cells #[.string ((rd_T55 l0_2 x12_1).f0), .string ((rd_T55 l0_2 x12_1).f1), .string ((rd_T55 l0_2 x12_1).f2), .bool ((rd_T55 l0_2 x12_1).f3), .string ((rd_T55 l0_2 x12_1).f4), .string ((rd_T55 l0_2 x12_1).f5), .string ((rd_T55 l0_2 x12_1).f6)] 55 (0, 0)) (by (with_reducible repeat (first | refine blk_drewN ?_ _ | refine blk_drew ?_ | refine blk_alloc ?_ _)); exact BK108.out) hg (Kd.R_away HO_5.out (fun _ hk => hk))); have n3_ := Aside0.mk (hb); have n4_ := Aside0.mk (ho); clear BK102; clear BK103; clear BK108; clear HB; clear HO_5; have BK102 := n0_; have BK103 := n1_; have BK108 := n2_; have HB := n3_; have HO111 := n4_; clear n0_ n1_ n2_ n3_ n4_; clear ho hb hg hat))
                    go_roundg kj11
                    case measure => have := HK1.out; have := HJ11.out; omega
                    case rel => exact ⟨(y109), (wrap64 (x12_1 + 1)), (by first | rfl | (simp; done) | (simp [*]; done)), H', ⟨by have := HK1.out; have := HJ11.out; omega⟩, ⟨by (with_reducible repeat (first | apply Kd.R_alloc | apply Kd.R_drewN | apply Kd.R_drew)); exact Kd.R_mono HO111.out (fun _ hk => trivial)⟩, ⟨by (with_reducible repeat (first | refine blk_drewN ?_ _ | refine blk_drew ?_ | refine blk_alloc ?_ _)); exact BK102.out⟩, ⟨by (with_reducible repeat (first | refine blk_drewN ?_ _ | refine blk_drew ?_ | refine blk_alloc ?_ _)); exact BK103.out⟩, ⟨by repeat (first | (with_reducible first | exact HB.out | apply below_alloc | apply pw_below_drewN | apply below_drew1 | refine below_set ?_ GE102.out | refine below_set ?_ GE103.out | refine below_set ?_ GE108.out) | exact HB.out)⟩⟩
                  · rw [if_neg c27] at H
                    exact absurd H (by simp)
                · replace c26 := Bool.eq_false_iff.mpr c26
                  subst c26
                  have H1 : (if ((rd_T55 l0_2 x12_1).f0).toList = ([86, 73, 68, 69, 79] : List UInt8) then (spec_Master_Of.j2 kj11 x5_1 l0_2 (l0_2.length : Int) x12_1 (a1_8.toList == ((rd_T55 l0_2 x12_1).f1).toList) a1_0 a1_1 a1_2 a1_3 a1_4 a1_5 a1_6 a1_7 a1_8 a1_9 a1_10 a1_11 a1_12 ((rd_T55 l0_2 x12_1).f0) ((rd_T55 l0_2 x12_1).f1) ((rd_T55 l0_2 x12_1).f2) ((rd_T55 l0_2 x12_1).f3) ((rd_T55 l0_2 x12_1).f4) ((rd_T55 l0_2 x12_1).f5) ((rd_T55 l0_2 x12_1).f6)) else (spec_Master_Of.j2 kj11 x5_1 l0_2 (l0_2.length : Int) x12_1 false a1_0 a1_1 a1_2 a1_3 a1_4 a1_5 a1_6 a1_7 a1_8 a1_9 a1_10 a1_11 a1_12 ((rd_T55 l0_2 x12_1).f0) ((rd_T55 l0_2 x12_1).f1) ((rd_T55 l0_2 x12_1).f2) ((rd_T55 l0_2 x12_1).f3) ((rd_T55 l0_2 x12_1).f4) ((rd_T55 l0_2 x12_1).f5) ((rd_T55 l0_2 x12_1).f6))) = some r := by rw [if_neg (show ¬ (false = true) by decide)] at H; exact H
                  clear H
                  have H := H1
                  clear H1
                  have HC32 := Aside0.mk H
                  clear H
                  go_upto_region 6 with (fail)
                  go_cut [16] (fun v16 wc => ∃ (kq : Nat) (x16_31 : Bool), v16 = .bool x16_31 ∧ Aside0 (spec_Master_Of.j2 kq x5_1 l0_2 (l0_2.length : Int) x12_1 x16_31 a1_0 a1_1 a1_2 a1_3 a1_4 a1_5 a1_6 a1_7 a1_8 a1_9 a1_10 a1_11 a1_12 ((rd_T55 l0_2 x12_1).f0) ((rd_T55 l0_2 x12_1).f1) ((rd_T55 l0_2 x12_1).f2) ((rd_T55 l0_2 x12_1).f3) ((rd_T55 l0_2 x12_1).f4) ((rd_T55 l0_2 x12_1).f5) ((rd_T55 l0_2 x12_1).f6) = some r) ∧ Aside0 (kq ≤ kj11) ∧ Aside0 (Kd.R k55 55 wc w.heap.size (fun k_ => k_ ≠ gb108) u5 x5_1) ∧ Aside0 (wc.heap[gb102]? = some (.cells #[.int .i64 a0_0, .bool a0_1, (.slice (some ad107) l0_2.length c0_2), (.slice A0_3 l0_3.length c0_3)] 27 (0, 0))) ∧ Aside0 (wc.heap[gb103]? = some (.cells #[.string a1_0, .int .u32 a1_1, .int .u32 a1_2, .int .u32 a1_3, .string a1_4, .int .u32 a1_5, .int .u32 a1_6, .string a1_7, .string a1_8, .string a1_9, .string a1_10, .string a1_11, .int .i64 a1_12] 44 (0, 0))) ∧ Aside0 (wc.heap[gb108]? = some (.cells #[.string ((rd_T55 l0_2 x12_1).f0), .string ((rd_T55 l0_2 x12_1).f1), .string ((rd_T55 l0_2 x12_1).f2), .bool ((rd_T55 l0_2 x12_1).f3), .string ((rd_T55 l0_2 x12_1).f4), .string ((rd_T55 l0_2 x12_1).f5), .string ((rd_T55 l0_2 x12_1).f6)] 55 (0, 0))) ∧ Aside0 (Below w.heap.size w wc))
                  case first =>
                    have H := HC32.out
                    clear HC32
                    by_cases c33 : ((rd_T55 l0_2 x12_1).f0).toList = ([86, 73, 68, 69, 79] : List UInt8)
                    · rw [if_pos c33] at H
                      have c33b0 : (((rd_T55 l0_2 x12_1).f0).toList == ([86, 73, 68, 69, 79] : List UInt8)) = true := beq_iff_eq.mpr c33
                      have c33b1 : (((rd_T55 l0_2 x12_1).f0).toList != ([86, 73, 68, 69, 79] : List UInt8)) = false := bne_eq_false_iff_eq.mpr c33
                      clear c33
                      (first | rw [c33b0] | rw [c33b3] | rw [c33b2] | (simp only [i64_w, i32_w]; rw [c33b0]) | skip)
                      have H' := Aside0.mk H
                      clear H
                      have hnb34 := NB108_102.out
                      have hnc34 := NB102_108.out
                      have hnb35 := NB108_103.out
                      have hnc35 := NB103_108.out
                      have hcz36_0 : wc.cell? ⟨gb108, 0, none⟩ = some (.string ((rd_T55 l0_2 x12_1).f0)) := (blk_cell BK108.out 0).trans rfl
                      have hcz36_1 : wc.cell? ⟨gb108, 1, none⟩ = some (.string ((rd_T55 l0_2 x12_1).f1)) := (blk_cell BK108.out 1).trans rfl
                      have hcz36_2 : wc.cell? ⟨gb108, 2, none⟩ = some (.string ((rd_T55 l0_2 x12_1).f2)) := (blk_cell BK108.out 2).trans rfl
                      have hcz36_3 : wc.cell? ⟨gb108, 3, none⟩ = some (.bool ((rd_T55 l0_2 x12_1).f3)) := (blk_cell BK108.out 3).trans rfl
                      have hcz36_4 : wc.cell? ⟨gb108, 4, none⟩ = some (.string ((rd_T55 l0_2 x12_1).f4)) := (blk_cell BK108.out 4).trans rfl
                      have hcz36_5 : wc.cell? ⟨gb108, 5, none⟩ = some (.string ((rd_T55 l0_2 x12_1).f5)) := (blk_cell BK108.out 5).trans rfl
                      have hcz36_6 : wc.cell? ⟨gb108, 6, none⟩ = some (.string ((rd_T55 l0_2 x12_1).f6)) := (blk_cell BK108.out 6).trans rfl
                      have hfz36_0 := blk_frozen BK108.out 0
                      have hfz36_1 := blk_frozen BK108.out 1
                      have hfz36_2 := blk_frozen BK108.out 2
                      have hfz36_3 := blk_frozen BK108.out 3
                      have hfz36_4 := blk_frozen BK108.out 4
                      have hfz36_5 := blk_frozen BK108.out 5
                      have hfz36_6 := blk_frozen BK108.out 6
                      have hnb37 := NB103_102.out
                      have hnc37 := NB102_103.out
                      have hcz38_0 : wc.cell? ⟨gb103, 0, none⟩ = some (.string a1_0) := (blk_cell BK103.out 0).trans rfl
                      have hcz38_1 : wc.cell? ⟨gb103, 1, none⟩ = some (.int .u32 a1_1) := (blk_cell BK103.out 1).trans rfl
                      have hcz38_2 : wc.cell? ⟨gb103, 2, none⟩ = some (.int .u32 a1_2) := (blk_cell BK103.out 2).trans rfl
                      have hcz38_3 : wc.cell? ⟨gb103, 3, none⟩ = some (.int .u32 a1_3) := (blk_cell BK103.out 3).trans rfl
                      have hcz38_4 : wc.cell? ⟨gb103, 4, none⟩ = some (.string a1_4) := (blk_cell BK103.out 4).trans rfl
                      have hcz38_5 : wc.cell? ⟨gb103, 5, none⟩ = some (.int .u32 a1_5) := (blk_cell BK103.out 5).trans rfl
                      have hcz38_6 : wc.cell? ⟨gb103, 6, none⟩ = some (.int .u32 a1_6) := (blk_cell BK103.out 6).trans rfl
                      have hcz38_7 : wc.cell? ⟨gb103, 7, none⟩ = some (.string a1_7) := (blk_cell BK103.out 7).trans rfl
                      have hcz38_8 : wc.cell? ⟨gb103, 8, none⟩ = some (.string a1_8) := (blk_cell BK103.out 8).trans rfl
                      have hcz38_9 : wc.cell? ⟨gb103, 9, none⟩ = some (.string a1_9) := (blk_cell BK103.out 9).trans rfl
                      have hcz38_10 : wc.cell? ⟨gb103, 10, none⟩ = some (.string a1_10) := (blk_cell BK103.out 10).trans rfl
                      have hcz38_11 : wc.cell? ⟨gb103, 11, none⟩ = some (.string a1_11) := (blk_cell BK103.out 11).trans rfl
                      have hcz38_12 : wc.cell? ⟨gb103, 12, none⟩ = some (.int .i64 a1_12) := (blk_cell BK103.out 12).trans rfl
                      have hfz38_0 := blk_frozen BK103.out 0
                      have hfz38_1 := blk_frozen BK103.out 1
                      have hfz38_2 := blk_frozen BK103.out 2
                      have hfz38_3 := blk_frozen BK103.out 3
                      have hfz38_4 := blk_frozen BK103.out 4
                      have hfz38_5 := blk_frozen BK103.out 5
                      have hfz38_6 := blk_frozen BK103.out 6
                      have hfz38_7 := blk_frozen BK103.out 7
                      have hfz38_8 := blk_frozen BK103.out 8
                      have hfz38_9 := blk_frozen BK103.out 9
                      have hfz38_10 := blk_frozen BK103.out 10
                      have hfz38_11 := blk_frozen BK103.out 11
                      have hfz38_12 := blk_frozen BK103.out 12
                      go_wp2
                      go_meet
                      case rel => exact ⟨_, ((a1_8.toList == ((rd_T55 l0_2 x12_1).f1).toList)), (by first | rfl | (simp; done) | (simp [*]; done)), H', ⟨by have := HK1.out; have := HJ11.out; first | omega | exact Nat.le_refl _⟩, ⟨by (with_reducible repeat (first | apply Kd.R_alloc | apply Kd.R_drewN | apply Kd.R_drew)); exact HO_5.out⟩, ⟨by (with_reducible repeat (first | refine blk_drewN ?_ _ | refine blk_drew ?_ | refine blk_alloc ?_ _)); exact BK102.out⟩, ⟨by (with_reducible repeat (first | refine blk_drewN ?_ _ | refine blk_drew ?_ | refine blk_alloc ?_ _)); exact BK103.out⟩, ⟨by (with_reducible repeat (first | refine blk_drewN ?_ _ | refine blk_drew ?_ | refine blk_alloc ?_ _)); exact BK108.out⟩, ⟨by repeat (first | (with_reducible first | exact HB.out | apply below_alloc | apply pw_below_drewN | apply below_drew1 | refine below_set ?_ GE102.out | refine below_set ?_ GE103.out | refine below_set ?_ GE108.out) | exact HB.out)⟩⟩
                    · rw [if_neg c33] at H
                      have c33b0 : (((rd_T55 l0_2 x12_1).f0).toList == ([86, 73, 68, 69, 79] : List UInt8)) = false := beq_eq_false_iff_ne.mpr c33
                      have c33b1 : (((rd_T55 l0_2 x12_1).f0).toList != ([86, 73, 68, 69, 79] : List UInt8)) = true := bne_iff_ne.mpr c33
                      (first | rw [c33b0] | rw [c33b3] | rw [c33b2] | (simp only [i64_w, i32_w]; rw [c33b0]) | skip)
                      have H' := Aside0.mk H
                      clear H
                      have hnb39 := NB108_102.out
                      have hnc39 := NB102_108.out
                      have hnb40 := NB108_103.out
                      have hnc40 := NB103_108.out
                      have hcz41_0 : wc.cell? ⟨gb108, 0, none⟩ = some (.string ((rd_T55 l0_2 x12_1).f0)) := (blk_cell BK108.out 0).trans rfl
                      have hcz41_1 : wc.cell? ⟨gb108, 1, none⟩ = some (.string ((rd_T55 l0_2 x12_1).f1)) := (blk_cell BK108.out 1).trans rfl
                      have hcz41_2 : wc.cell? ⟨gb108, 2, none⟩ = some (.string ((rd_T55 l0_2 x12_1).f2)) := (blk_cell BK108.out 2).trans rfl
                      have hcz41_3 : wc.cell? ⟨gb108, 3, none⟩ = some (.bool ((rd_T55 l0_2 x12_1).f3)) := (blk_cell BK108.out 3).trans rfl
                      have hcz41_4 : wc.cell? ⟨gb108, 4, none⟩ = some (.string ((rd_T55 l0_2 x12_1).f4)) := (blk_cell BK108.out 4).trans rfl
                      have hcz41_5 : wc.cell? ⟨gb108, 5, none⟩ = some (.string ((rd_T55 l0_2 x12_1).f5)) := (blk_cell BK108.out 5).trans rfl
                      have hcz41_6 : wc.cell? ⟨gb108, 6, none⟩ = some (.string ((rd_T55 l0_2 x12_1).f6)) := (blk_cell BK108.out 6).trans rfl
                      have hfz41_0 := blk_frozen BK108.out 0
                      have hfz41_1 := blk_frozen BK108.out 1
                      have hfz41_2 := blk_frozen BK108.out 2
                      have hfz41_3 := blk_frozen BK108.out 3
                      have hfz41_4 := blk_frozen BK108.out 4
                      have hfz41_5 := blk_frozen BK108.out 5
                      have hfz41_6 := blk_frozen BK108.out 6
                      go_wp2
                      go_meet
                      case rel => exact ⟨_, (false), (by first | rfl | (simp; done) | (simp [*]; done)), H', ⟨by have := HK1.out; have := HJ11.out; first | omega | exact Nat.le_refl _⟩, ⟨by (with_reducible repeat (first | apply Kd.R_alloc | apply Kd.R_drewN | apply Kd.R_drew)); exact HO_5.out⟩, ⟨by (with_reducible repeat (first | refine blk_drewN ?_ _ | refine blk_drew ?_ | refine blk_alloc ?_ _)); exact BK102.out⟩, ⟨by (with_reducible repeat (first | refine blk_drewN ?_ _ | refine blk_drew ?_ | refine blk_alloc ?_ _)); exact BK103.out⟩, ⟨by (with_reducible repeat (first | refine blk_drewN ?_ _ | refine blk_drew ?_ | refine blk_alloc ?_ _)); exact BK108.out⟩, ⟨by repeat (first | (with_reducible first | exact HB.out | apply below_alloc | apply pw_below_drewN | apply below_drew1 | refine below_set ?_ GE102.out | refine below_set ?_ GE103.out | refine below_set ?_ GE108.out) | exact HB.out)⟩⟩
                  case rest =>
                    clear HC32
                    obtain ⟨kq, x16_31, rfl, HA, HJ31, HO_5, BK102, BK103, BK108, HB⟩ := hcut
                    cases kq with
                    | zero => exact absurd HA.out (by simp [spec_Master_Of.j2])
                    | succ kj31 =>
                      have H := HA.out
                      clear HA
                      simp only [spec_Master_Of.j2] at H
                      by_cases c42 : x16_31 = true
                      · subst c42
                        have H1 : (if x5_1.length < 1353245080339 then (spec_Master_Of.l0 kj31 (x5_1 ++ [(⟨((rd_T55 l0_2 x12_1).f0), ((rd_T55 l0_2 x12_1).f1), ((rd_T55 l0_2 x12_1).f2), ((rd_T55 l0_2 x12_1).f3), ((rd_T55 l0_2 x12_1).f4), ((rd_T55 l0_2 x12_1).f5), ((rd_T55 l0_2 x12_1).f6)⟩ : S55)]) l0_2 (l0_2.length : Int) (wrap64 (x12_1 + 1)) a1_0 a1_1 a1_2 a1_3 a1_4 a1_5 a1_6 a1_7 a1_8 a1_9 a1_10 a1_11 a1_12) else (none)) = some r := by rw [if_pos rfl] at H; exact H
                        clear H
                        have H := H1
                        clear H1
                        by_cases c43 : x5_1.length < 1353245080339
                        · rw [if_pos c43] at H
                          have LMc43 := Aside0.mk c43
                          clear c43
                          obtain ⟨y112, hy112⟩ : ∃ y_ : List (S55), y_ = (x5_1 ++ [(⟨((rd_T55 l0_2 x12_1).f0), ((rd_T55 l0_2 x12_1).f1), ((rd_T55 l0_2 x12_1).f2), ((rd_T55 l0_2 x12_1).f3), ((rd_T55 l0_2 x12_1).f4), ((rd_T55 l0_2 x12_1).f5), ((rd_T55 l0_2 x12_1).f6)⟩ : S55)]) := ⟨_, rfl⟩
                          replace H : (spec_Master_Of.l0 kj31 y112 l0_2 (l0_2.length : Int) (wrap64 (x12_1 + 1)) a1_0 a1_1 a1_2 a1_3 a1_4 a1_5 a1_6 a1_7 a1_8 a1_9 a1_10 a1_11 a1_12) = some r := by first | (rw [hy112]; with_reducible exact H) | (have H2_ := (Option.bind_some _ _).symm.trans H; rw [hy112]; with_reducible exact H2_) | (have H2_ := (Option.bind_some _ _).symm.trans H; with_reducible exact H2_) | with_reducible exact H | (rw [hy112]; exact H) | exact H
                          have Ny112 := Aside0.mk hy112
                          clear hy112
                          have H' := Aside0.mk H
                          clear H
                          have hnb44 := NB108_102.out
                          have hnc44 := NB102_108.out
                          have hnb45 := NB108_103.out
                          have hnc45 := NB103_108.out
                          have hcz46_0 : wc.cell? ⟨gb108, 0, none⟩ = some (.string ((rd_T55 l0_2 x12_1).f0)) := (blk_cell BK108.out 0).trans rfl
                          have hcz46_1 : wc.cell? ⟨gb108, 1, none⟩ = some (.string ((rd_T55 l0_2 x12_1).f1)) := (blk_cell BK108.out 1).trans rfl
                          have hcz46_2 : wc.cell? ⟨gb108, 2, none⟩ = some (.string ((rd_T55 l0_2 x12_1).f2)) := (blk_cell BK108.out 2).trans rfl
                          have hcz46_3 : wc.cell? ⟨gb108, 3, none⟩ = some (.bool ((rd_T55 l0_2 x12_1).f3)) := (blk_cell BK108.out 3).trans rfl
                          have hcz46_4 : wc.cell? ⟨gb108, 4, none⟩ = some (.string ((rd_T55 l0_2 x12_1).f4)) := (blk_cell BK108.out 4).trans rfl
                          have hcz46_5 : wc.cell? ⟨gb108, 5, none⟩ = some (.string ((rd_T55 l0_2 x12_1).f5)) := (blk_cell BK108.out 5).trans rfl
                          have hcz46_6 : wc.cell? ⟨gb108, 6, none⟩ = some (.string ((rd_T55 l0_2 x12_1).f6)) := (blk_cell BK108.out 6).trans rfl
                          have hfz46_0 := blk_frozen BK108.out 0
                          have hfz46_1 := blk_frozen BK108.out 1
                          have hfz46_2 := blk_frozen BK108.out 2
                          have hfz46_3 := blk_frozen BK108.out 3
                          have hfz46_4 := blk_frozen BK108.out 4
                          have hfz46_5 := blk_frozen BK108.out 5
                          have hfz46_6 := blk_frozen BK108.out 6
                          go_wp2_with (first | ((with_reducible refine gate_builtin (b := .append) (xs := #[.tmp 47, .tmp 49]) rfl ?_); at_builtin; refine Kd.R_append k55 (w0 := w) w.heap.size rfl (.tmp 47) (.tmp 49) 24 55 (.agg #[(.string ⟨#[]⟩), (.string ⟨#[]⟩), (.string ⟨#[]⟩), (.bool false), (.string ⟨#[]⟩), (.string ⟨#[]⟩), (.string ⟨#[]⟩)]) 104 rfl Tryz.underlying24 info55 rfl (by decide) (by omega) u5 x5_1 (⟨((rd_T55 l0_2 x12_1).f0), ((rd_T55 l0_2 x12_1).f1), ((rd_T55 l0_2 x12_1).f2), ((rd_T55 l0_2 x12_1).f3), ((rd_T55 l0_2 x12_1).f4), ((rd_T55 l0_2 x12_1).f5), ((rd_T55 l0_2 x12_1).f6)⟩ : S55) [.string ((rd_T55 l0_2 x12_1).f0), .string ((rd_T55 l0_2 x12_1).f1), .string ((rd_T55 l0_2 x12_1).f2), .bool ((rd_T55 l0_2 x12_1).f3), .string ((rd_T55 l0_2 x12_1).f4), .string ((rd_T55 l0_2 x12_1).f5), .string ((rd_T55 l0_2 x12_1).f6)] (fun k_ => k_ ≠ gb108) (fun _ => False) rfl rfl ?aP (fun _ hk => hk.elim) ?aF ?aO ?aB ?aS ?aL ?_; (case aP => exact k55_mkM _ _ _ (⟨((rd_T55 l0_2 x12_1).f0), ((rd_T55 l0_2 x12_1).f1), ((rd_T55 l0_2 x12_1).f2), ((rd_T55 l0_2 x12_1).f3), ((rd_T55 l0_2 x12_1).f4), ((rd_T55 l0_2 x12_1).f5), ((rd_T55 l0_2 x12_1).f6)⟩ : S55)); (case aB => exact (by repeat (first | (with_reducible first | exact HB.out | apply below_alloc | apply pw_below_drewN | apply below_drew1 | refine below_set ?_ GE102.out | refine below_set ?_ GE103.out | refine below_set ?_ GE108.out) | exact HB.out))); (case aF => exact (fun k_ hk => Kd.freshB (g := gb108) (o := .cells #[.string ((rd_T55 l0_2 x12_1).f0), .string ((rd_T55 l0_2 x12_1).f1), .string ((rd_T55 l0_2 x12_1).f2), .bool ((rd_T55 l0_2 x12_1).f3), .string ((rd_T55 l0_2 x12_1).f4), .string ((rd_T55 l0_2 x12_1).f5), .string ((rd_T55 l0_2 x12_1).f6)] 55 (0, 0)) (by (with_reducible repeat (first | refine blk_drewN ?_ _ | refine blk_drew ?_ | refine blk_alloc ?_ _)); exact BK108.out) k_ hk)); (case aO => exact (by (with_reducible repeat (first | apply Kd.R_alloc | apply Kd.R_drewN | apply Kd.R_drew)); exact HO_5.out)); (case aS => exact (below_size (by repeat (first | (with_reducible first | exact HB.out | apply below_alloc | apply pw_below_drewN | apply below_drew1 | refine below_set ?_ GE102.out | refine below_set ?_ GE103.out | refine below_set ?_ GE108.out) | exact HB.out)))); (case aL => have := LMc43.out; omega); intro v113 w47 ho hb hg hat; rw [← Ny112.out] at ho; have n0_ := Aside0.mk (blk_grown (g := gb102) (o := .cells #[.int .i64 a0_0, .bool a0_1, .slice (some ad107) l0_2.length c0_2, .slice A0_3 l0_3.length c0_3] 27 (0, 0)) (by (with_reducible repeat (first | refine blk_drewN ?_ _ | refine blk_drew ?_ | refine blk_alloc ?_ _)); exact BK102.out) hg (Kd.R_ne HO_5.out BK102.out (by decide))); have n1_ := Aside0.mk (blk_grown (g := gb103) (o := .cells #[.string a1_0, .int .u32 a1_1, .int .u32 a1_2, .int .u32 a1_3, .string a1_4, .int .u32 a1_5, .int .u32 a1_6, .string a1_7, .string a1_8, .string a1_9, .string a1_10, .string a1_11, .int .i64 a1_12] 44 (0, 0)) (by (with_reducible repeat (first | refine blk_drewN ?_ _ | refine blk_drew ?_ | refine blk_alloc ?_ _)); exact BK103.out) hg (Kd.R_ne HO_5.out BK103.out (by decide))); have n2_ := Aside0.mk (blk_grown (g := gb108) (o := .cells #[.string ((rd_T55 l0_2 x12_1).f0), .string ((rd_T55 l0_2 x12_1).f1), .string ((rd_T55 l0_2 x12_1).f2), .bool ((rd_T55 l0_2 x12_1).f3), .string ((rd_T55 l0_2 x12_1).f4), .string ((rd_T55 l0_2 x12_1).f5), .string ((rd_T55 l0_2 x12_1).f6)] 55 (0, 0)) (by (with_reducible repeat (first | refine blk_drewN ?_ _ | refine blk_drew ?_ | refine blk_alloc ?_ _)); exact BK108.out) hg (Kd.R_away HO_5.out (fun _ hk => hk))); have n3_ := Aside0.mk (hb); have n4_ := Aside0.mk (ho); clear BK102; clear BK103; clear BK108; clear HB; clear HO_5; have BK102 := n0_; have BK103 := n1_; have BK108 := n2_; have HB := n3_; have HO114 := n4_; clear n0_ n1_ n2_ n3_ n4_; clear ho hb hg hat))
                          go_roundg kj31
                          case measure => have := HK1.out; have := HJ11.out; have := HJ31.out; omega
                          case rel => exact ⟨(y112), (wrap64 (x12_1 + 1)), (by first | rfl | (simp; done) | (simp [*]; done)), H', ⟨by have := HK1.out; have := HJ11.out; have := HJ31.out; omega⟩, ⟨by (with_reducible repeat (first | apply Kd.R_alloc | apply Kd.R_drewN | apply Kd.R_drew)); exact Kd.R_mono HO114.out (fun _ hk => trivial)⟩, ⟨by (with_reducible repeat (first | refine blk_drewN ?_ _ | refine blk_drew ?_ | refine blk_alloc ?_ _)); exact BK102.out⟩, ⟨by (with_reducible repeat (first | refine blk_drewN ?_ _ | refine blk_drew ?_ | refine blk_alloc ?_ _)); exact BK103.out⟩, ⟨by repeat (first | (with_reducible first | exact HB.out | apply below_alloc | apply pw_below_drewN | apply below_drew1 | refine below_set ?_ GE102.out | refine below_set ?_ GE103.out | refine below_set ?_ GE108.out) | exact HB.out)⟩⟩
                        · rw [if_neg c43] at H
                          exact absurd H (by simp)
                      · replace c42 := Bool.eq_false_iff.mpr c42
                        subst c42
                        have H1 : (if ((rd_T55 l0_2 x12_1).f0).toList = ([83, 85, 66, 84, 73, 84, 76, 69, 83] : List UInt8) then (if a1_9.toList = ((rd_T55 l0_2 x12_1).f1).toList then (if x5_1.length < 1353245080339 then (spec_Master_Of.l0 kj31 (x5_1 ++ [(⟨((rd_T55 l0_2 x12_1).f0), ((rd_T55 l0_2 x12_1).f1), ((rd_T55 l0_2 x12_1).f2), ((rd_T55 l0_2 x12_1).f3), ((rd_T55 l0_2 x12_1).f4), ((rd_T55 l0_2 x12_1).f5), ((rd_T55 l0_2 x12_1).f6)⟩ : S55)]) l0_2 (l0_2.length : Int) (wrap64 (x12_1 + 1)) a1_0 a1_1 a1_2 a1_3 a1_4 a1_5 a1_6 a1_7 a1_8 a1_9 a1_10 a1_11 a1_12) else (none)) else (spec_Master_Of.l0 kj31 x5_1 l0_2 (l0_2.length : Int) (wrap64 (x12_1 + 1)) a1_0 a1_1 a1_2 a1_3 a1_4 a1_5 a1_6 a1_7 a1_8 a1_9 a1_10 a1_11 a1_12)) else (spec_Master_Of.l0 kj31 x5_1 l0_2 (l0_2.length : Int) (wrap64 (x12_1 + 1)) a1_0 a1_1 a1_2 a1_3 a1_4 a1_5 a1_6 a1_7 a1_8 a1_9 a1_10 a1_11 a1_12)) = some r := by rw [if_neg (show ¬ (false = true) by decide)] at H; exact H
                        clear H
                        have H := H1
                        clear H1
                        by_cases c48 : ((rd_T55 l0_2 x12_1).f0).toList = ([83, 85, 66, 84, 73, 84, 76, 69, 83] : List UInt8)
                        · rw [if_pos c48] at H
                          have c48b0 : (((rd_T55 l0_2 x12_1).f0).toList == ([83, 85, 66, 84, 73, 84, 76, 69, 83] : List UInt8)) = true := beq_iff_eq.mpr c48
                          have c48b1 : (((rd_T55 l0_2 x12_1).f0).toList != ([83, 85, 66, 84, 73, 84, 76, 69, 83] : List UInt8)) = false := bne_eq_false_iff_eq.mpr c48
                          clear c48
                          by_cases c49 : a1_9.toList = ((rd_T55 l0_2 x12_1).f1).toList
                          · rw [if_pos c49] at H
                            have c49b0 : (a1_9.toList == ((rd_T55 l0_2 x12_1).f1).toList) = true := beq_iff_eq.mpr c49
                            have c49b1 : (a1_9.toList != ((rd_T55 l0_2 x12_1).f1).toList) = false := bne_eq_false_iff_eq.mpr c49
                            clear c49
                            by_cases c50 : x5_1.length < 1353245080339
                            · rw [if_pos c50] at H
                              have LMc50 := Aside0.mk c50
                              clear c50
                              obtain ⟨y115, hy115⟩ : ∃ y_ : List (S55), y_ = (x5_1 ++ [(⟨((rd_T55 l0_2 x12_1).f0), ((rd_T55 l0_2 x12_1).f1), ((rd_T55 l0_2 x12_1).f2), ((rd_T55 l0_2 x12_1).f3), ((rd_T55 l0_2 x12_1).f4), ((rd_T55 l0_2 x12_1).f5), ((rd_T55 l0_2 x12_1).f6)⟩ : S55)]) := ⟨_, rfl⟩
                              replace H : (spec_Master_Of.l0 kj31 y115 l0_2 (l0_2.length : Int) (wrap64 (x12_1 + 1)) a1_0 a1_1 a1_2 a1_3 a1_4 a1_5 a1_6 a1_7 a1_8 a1_9 a1_10 a1_11 a1_12) = some r := by first | (rw [hy115]; with_reducible exact H) | (have H2_ := (Option.bind_some _ _).symm.trans H; rw [hy115]; with_reducible exact H2_) | (have H2_ := (Option.bind_some _ _).symm.trans H; with_reducible exact H2_) | with_reducible exact H | (rw [hy115]; exact H) | exact H
                              have Ny115 := Aside0.mk hy115
                              clear hy115
                              have H' := Aside0.mk H
                              clear H
                              have hnb51 := NB108_102.out
                              have hnc51 := NB102_108.out
                              have hnb52 := NB108_103.out
                              have hnc52 := NB103_108.out
                              have hcz53_0 : wc.cell? ⟨gb108, 0, none⟩ = some (.string ((rd_T55 l0_2 x12_1).f0)) := (blk_cell BK108.out 0).trans rfl
                              have hcz53_1 : wc.cell? ⟨gb108, 1, none⟩ = some (.string ((rd_T55 l0_2 x12_1).f1)) := (blk_cell BK108.out 1).trans rfl
                              have hcz53_2 : wc.cell? ⟨gb108, 2, none⟩ = some (.string ((rd_T55 l0_2 x12_1).f2)) := (blk_cell BK108.out 2).trans rfl
                              have hcz53_3 : wc.cell? ⟨gb108, 3, none⟩ = some (.bool ((rd_T55 l0_2 x12_1).f3)) := (blk_cell BK108.out 3).trans rfl
                              have hcz53_4 : wc.cell? ⟨gb108, 4, none⟩ = some (.string ((rd_T55 l0_2 x12_1).f4)) := (blk_cell BK108.out 4).trans rfl
                              have hcz53_5 : wc.cell? ⟨gb108, 5, none⟩ = some (.string ((rd_T55 l0_2 x12_1).f5)) := (blk_cell BK108.out 5).trans rfl
                              have hcz53_6 : wc.cell? ⟨gb108, 6, none⟩ = some (.string ((rd_T55 l0_2 x12_1).f6)) := (blk_cell BK108.out 6).trans rfl
                              have hfz53_0 := blk_frozen BK108.out 0
                              have hfz53_1 := blk_frozen BK108.out 1
                              have hfz53_2 := blk_frozen BK108.out 2
                              have hfz53_3 := blk_frozen BK108.out 3
                              have hfz53_4 := blk_frozen BK108.out 4
                              have hfz53_5 := blk_frozen BK108.out 5
                              have hfz53_6 := blk_frozen BK108.out 6
                              have hnb54 := NB103_102.out
                              have hnc54 := NB102_103.out
                              have hcz55_0 : wc.cell? ⟨gb103, 0, none⟩ = some (.string a1_0) := (blk_cell BK103.out 0).trans rfl
                              have hcz55_1 : wc.cell? ⟨gb103, 1, none⟩ = some (.int .u32 a1_1) := (blk_cell BK103.out 1).trans rfl
                              have hcz55_2 : wc.cell? ⟨gb103, 2, none⟩ = some (.int .u32 a1_2) := (blk_cell BK103.out 2).trans rfl
                              have hcz55_3 : wc.cell? ⟨gb103, 3, none⟩ = some (.int .u32 a1_3) := (blk_cell BK103.out 3).trans rfl
                              have hcz55_4 : wc.cell? ⟨gb103, 4, none⟩ = some (.string a1_4) := (blk_cell BK103.out 4).trans rfl
                              have hcz55_5 : wc.cell? ⟨gb103, 5, none⟩ = some (.int .u32 a1_5) := (blk_cell BK103.out 5).trans rfl
                              have hcz55_6 : wc.cell? ⟨gb103, 6, none⟩ = some (.int .u32 a1_6) := (blk_cell BK103.out 6).trans rfl
                              have hcz55_7 : wc.cell? ⟨gb103, 7, none⟩ = some (.string a1_7) := (blk_cell BK103.out 7).trans rfl
                              have hcz55_8 : wc.cell? ⟨gb103, 8, none⟩ = some (.string a1_8) := (blk_cell BK103.out 8).trans rfl
                              have hcz55_9 : wc.cell? ⟨gb103, 9, none⟩ = some (.string a1_9) := (blk_cell BK103.out 9).trans rfl
                              have hcz55_10 : wc.cell? ⟨gb103, 10, none⟩ = some (.string a1_10) := (blk_cell BK103.out 10).trans rfl
                              have hcz55_11 : wc.cell? ⟨gb103, 11, none⟩ = some (.string a1_11) := (blk_cell BK103.out 11).trans rfl
                              have hcz55_12 : wc.cell? ⟨gb103, 12, none⟩ = some (.int .i64 a1_12) := (blk_cell BK103.out 12).trans rfl
                              have hfz55_0 := blk_frozen BK103.out 0
                              have hfz55_1 := blk_frozen BK103.out 1
                              have hfz55_2 := blk_frozen BK103.out 2
                              have hfz55_3 := blk_frozen BK103.out 3
                              have hfz55_4 := blk_frozen BK103.out 4
                              have hfz55_5 := blk_frozen BK103.out 5
                              have hfz55_6 := blk_frozen BK103.out 6
                              have hfz55_7 := blk_frozen BK103.out 7
                              have hfz55_8 := blk_frozen BK103.out 8
                              have hfz55_9 := blk_frozen BK103.out 9
                              have hfz55_10 := blk_frozen BK103.out 10
                              have hfz55_11 := blk_frozen BK103.out 11
                              have hfz55_12 := blk_frozen BK103.out 12
                              go_wp2_with (first | ((with_reducible refine gate_builtin (b := .append) (xs := #[.tmp 47, .tmp 49]) rfl ?_); at_builtin; refine Kd.R_append k55 (w0 := w) w.heap.size rfl (.tmp 47) (.tmp 49) 24 55 (.agg #[(.string ⟨#[]⟩), (.string ⟨#[]⟩), (.string ⟨#[]⟩), (.bool false), (.string ⟨#[]⟩), (.string ⟨#[]⟩), (.string ⟨#[]⟩)]) 104 rfl Tryz.underlying24 info55 rfl (by decide) (by omega) u5 x5_1 (⟨((rd_T55 l0_2 x12_1).f0), ((rd_T55 l0_2 x12_1).f1), ((rd_T55 l0_2 x12_1).f2), ((rd_T55 l0_2 x12_1).f3), ((rd_T55 l0_2 x12_1).f4), ((rd_T55 l0_2 x12_1).f5), ((rd_T55 l0_2 x12_1).f6)⟩ : S55) [.string ((rd_T55 l0_2 x12_1).f0), .string ((rd_T55 l0_2 x12_1).f1), .string ((rd_T55 l0_2 x12_1).f2), .bool ((rd_T55 l0_2 x12_1).f3), .string ((rd_T55 l0_2 x12_1).f4), .string ((rd_T55 l0_2 x12_1).f5), .string ((rd_T55 l0_2 x12_1).f6)] (fun k_ => k_ ≠ gb108) (fun _ => False) rfl rfl ?aP (fun _ hk => hk.elim) ?aF ?aO ?aB ?aS ?aL ?_; (case aP => exact k55_mkM _ _ _ (⟨((rd_T55 l0_2 x12_1).f0), ((rd_T55 l0_2 x12_1).f1), ((rd_T55 l0_2 x12_1).f2), ((rd_T55 l0_2 x12_1).f3), ((rd_T55 l0_2 x12_1).f4), ((rd_T55 l0_2 x12_1).f5), ((rd_T55 l0_2 x12_1).f6)⟩ : S55)); (case aB => exact (by repeat (first | (with_reducible first | exact HB.out | apply below_alloc | apply pw_below_drewN | apply below_drew1 | refine below_set ?_ GE102.out | refine below_set ?_ GE103.out | refine below_set ?_ GE108.out) | exact HB.out))); (case aF => exact (fun k_ hk => Kd.freshB (g := gb108) (o := .cells #[.string ((rd_T55 l0_2 x12_1).f0), .string ((rd_T55 l0_2 x12_1).f1), .string ((rd_T55 l0_2 x12_1).f2), .bool ((rd_T55 l0_2 x12_1).f3), .string ((rd_T55 l0_2 x12_1).f4), .string ((rd_T55 l0_2 x12_1).f5), .string ((rd_T55 l0_2 x12_1).f6)] 55 (0, 0)) (by (with_reducible repeat (first | refine blk_drewN ?_ _ | refine blk_drew ?_ | refine blk_alloc ?_ _)); exact BK108.out) k_ hk)); (case aO => exact (by (with_reducible repeat (first | apply Kd.R_alloc | apply Kd.R_drewN | apply Kd.R_drew)); exact HO_5.out)); (case aS => exact (below_size (by repeat (first | (with_reducible first | exact HB.out | apply below_alloc | apply pw_below_drewN | apply below_drew1 | refine below_set ?_ GE102.out | refine below_set ?_ GE103.out | refine below_set ?_ GE108.out) | exact HB.out)))); (case aL => have := LMc50.out; omega); intro v116 w56 ho hb hg hat; rw [← Ny115.out] at ho; have n0_ := Aside0.mk (blk_grown (g := gb102) (o := .cells #[.int .i64 a0_0, .bool a0_1, .slice (some ad107) l0_2.length c0_2, .slice A0_3 l0_3.length c0_3] 27 (0, 0)) (by (with_reducible repeat (first | refine blk_drewN ?_ _ | refine blk_drew ?_ | refine blk_alloc ?_ _)); exact BK102.out) hg (Kd.R_ne HO_5.out BK102.out (by decide))); have n1_ := Aside0.mk (blk_grown (g := gb103) (o := .cells #[.string a1_0, .int .u32 a1_1, .int .u32 a1_2, .int .u32 a1_3, .string a1_4, .int .u32 a1_5, .int .u32 a1_6, .string a1_7, .string a1_8, .string a1_9, .string a1_10, .string a1_11, .int .i64 a1_12] 44 (0, 0)) (by (with_reducible repeat (first | refine blk_drewN ?_ _ | refine blk_drew ?_ | refine blk_alloc ?_ _)); exact BK103.out) hg (Kd.R_ne HO_5.out BK103.out (by decide))); have n2_ := Aside0.mk (blk_grown (g := gb108) (o := .cells #[.string ((rd_T55 l0_2 x12_1).f0), .string ((rd_T55 l0_2 x12_1).f1), .string ((rd_T55 l0_2 x12_1).f2), .bool ((rd_T55 l0_2 x12_1).f3), .string ((rd_T55 l0_2 x12_1).f4), .string ((rd_T55 l0_2 x12_1).f5), .string ((rd_T55 l0_2 x12_1).f6)] 55 (0, 0)) (by (with_reducible repeat (first | refine blk_drewN ?_ _ | refine blk_drew ?_ | refine blk_alloc ?_ _)); exact BK108.out) hg (Kd.R_away HO_5.out (fun _ hk => hk))); have n3_ := Aside0.mk (hb); have n4_ := Aside0.mk (ho); clear BK102; clear BK103; clear BK108; clear HB; clear HO_5; have BK102 := n0_; have BK103 := n1_; have BK108 := n2_; have HB := n3_; have HO117 := n4_; clear n0_ n1_ n2_ n3_ n4_; clear ho hb hg hat))
                              go_roundg kj31
                              case measure => have := HK1.out; have := HJ11.out; have := HJ31.out; omega
                              case rel => exact ⟨(y115), (wrap64 (x12_1 + 1)), (by first | rfl | (simp; done) | (simp [*]; done)), H', ⟨by have := HK1.out; have := HJ11.out; have := HJ31.out; omega⟩, ⟨by (with_reducible repeat (first | apply Kd.R_alloc | apply Kd.R_drewN | apply Kd.R_drew)); exact Kd.R_mono HO117.out (fun _ hk => trivial)⟩, ⟨by (with_reducible repeat (first | refine blk_drewN ?_ _ | refine blk_drew ?_ | refine blk_alloc ?_ _)); exact BK102.out⟩, ⟨by (with_reducible repeat (first | refine blk_drewN ?_ _ | refine blk_drew ?_ | refine blk_alloc ?_ _)); exact BK103.out⟩, ⟨by repeat (first | (with_reducible first | exact HB.out | apply below_alloc | apply pw_below_drewN | apply below_drew1 | refine below_set ?_ GE102.out | refine below_set ?_ GE103.out | refine below_set ?_ GE108.out) | exact HB.out)⟩⟩
                            · rw [if_neg c50] at H
                              exact absurd H (by simp)
                          · rw [if_neg c49] at H
                            have c49b0 : (a1_9.toList == ((rd_T55 l0_2 x12_1).f1).toList) = false := beq_eq_false_iff_ne.mpr c49
                            have c49b1 : (a1_9.toList != ((rd_T55 l0_2 x12_1).f1).toList) = true := bne_iff_ne.mpr c49
                            have H' := Aside0.mk H
                            clear H
                            have hnb57 := NB108_102.out
                            have hnc57 := NB102_108.out
                            have hnb58 := NB108_103.out
                            have hnc58 := NB103_108.out
                            have hcz59_0 : wc.cell? ⟨gb108, 0, none⟩ = some (.string ((rd_T55 l0_2 x12_1).f0)) := (blk_cell BK108.out 0).trans rfl
                            have hcz59_1 : wc.cell? ⟨gb108, 1, none⟩ = some (.string ((rd_T55 l0_2 x12_1).f1)) := (blk_cell BK108.out 1).trans rfl
                            have hcz59_2 : wc.cell? ⟨gb108, 2, none⟩ = some (.string ((rd_T55 l0_2 x12_1).f2)) := (blk_cell BK108.out 2).trans rfl
                            have hcz59_3 : wc.cell? ⟨gb108, 3, none⟩ = some (.bool ((rd_T55 l0_2 x12_1).f3)) := (blk_cell BK108.out 3).trans rfl
                            have hcz59_4 : wc.cell? ⟨gb108, 4, none⟩ = some (.string ((rd_T55 l0_2 x12_1).f4)) := (blk_cell BK108.out 4).trans rfl
                            have hcz59_5 : wc.cell? ⟨gb108, 5, none⟩ = some (.string ((rd_T55 l0_2 x12_1).f5)) := (blk_cell BK108.out 5).trans rfl
                            have hcz59_6 : wc.cell? ⟨gb108, 6, none⟩ = some (.string ((rd_T55 l0_2 x12_1).f6)) := (blk_cell BK108.out 6).trans rfl
                            have hfz59_0 := blk_frozen BK108.out 0
                            have hfz59_1 := blk_frozen BK108.out 1
                            have hfz59_2 := blk_frozen BK108.out 2
                            have hfz59_3 := blk_frozen BK108.out 3
                            have hfz59_4 := blk_frozen BK108.out 4
                            have hfz59_5 := blk_frozen BK108.out 5
                            have hfz59_6 := blk_frozen BK108.out 6
                            have hnb60 := NB103_102.out
                            have hnc60 := NB102_103.out
                            have hcz61_0 : wc.cell? ⟨gb103, 0, none⟩ = some (.string a1_0) := (blk_cell BK103.out 0).trans rfl
                            have hcz61_1 : wc.cell? ⟨gb103, 1, none⟩ = some (.int .u32 a1_1) := (blk_cell BK103.out 1).trans rfl
                            have hcz61_2 : wc.cell? ⟨gb103, 2, none⟩ = some (.int .u32 a1_2) := (blk_cell BK103.out 2).trans rfl
                            have hcz61_3 : wc.cell? ⟨gb103, 3, none⟩ = some (.int .u32 a1_3) := (blk_cell BK103.out 3).trans rfl
                            have hcz61_4 : wc.cell? ⟨gb103, 4, none⟩ = some (.string a1_4) := (blk_cell BK103.out 4).trans rfl
                            have hcz61_5 : wc.cell? ⟨gb103, 5, none⟩ = some (.int .u32 a1_5) := (blk_cell BK103.out 5).trans rfl
                            have hcz61_6 : wc.cell? ⟨gb103, 6, none⟩ = some (.int .u32 a1_6) := (blk_cell BK103.out 6).trans rfl
                            have hcz61_7 : wc.cell? ⟨gb103, 7, none⟩ = some (.string a1_7) := (blk_cell BK103.out 7).trans rfl
                            have hcz61_8 : wc.cell? ⟨gb103, 8, none⟩ = some (.string a1_8) := (blk_cell BK103.out 8).trans rfl
                            have hcz61_9 : wc.cell? ⟨gb103, 9, none⟩ = some (.string a1_9) := (blk_cell BK103.out 9).trans rfl
                            have hcz61_10 : wc.cell? ⟨gb103, 10, none⟩ = some (.string a1_10) := (blk_cell BK103.out 10).trans rfl
                            have hcz61_11 : wc.cell? ⟨gb103, 11, none⟩ = some (.string a1_11) := (blk_cell BK103.out 11).trans rfl
                            have hcz61_12 : wc.cell? ⟨gb103, 12, none⟩ = some (.int .i64 a1_12) := (blk_cell BK103.out 12).trans rfl
                            have hfz61_0 := blk_frozen BK103.out 0
                            have hfz61_1 := blk_frozen BK103.out 1
                            have hfz61_2 := blk_frozen BK103.out 2
                            have hfz61_3 := blk_frozen BK103.out 3
                            have hfz61_4 := blk_frozen BK103.out 4
                            have hfz61_5 := blk_frozen BK103.out 5
                            have hfz61_6 := blk_frozen BK103.out 6
                            have hfz61_7 := blk_frozen BK103.out 7
                            have hfz61_8 := blk_frozen BK103.out 8
                            have hfz61_9 := blk_frozen BK103.out 9
                            have hfz61_10 := blk_frozen BK103.out 10
                            have hfz61_11 := blk_frozen BK103.out 11
                            have hfz61_12 := blk_frozen BK103.out 12
                            go_wp2
                            go_roundg kj31
                            case measure => have := HK1.out; have := HJ11.out; have := HJ31.out; omega
                            case rel => exact ⟨(x5_1), (wrap64 (x12_1 + 1)), (by first | rfl | (simp; done) | (simp [*]; done)), H', ⟨by have := HK1.out; have := HJ11.out; have := HJ31.out; omega⟩, ⟨by (with_reducible repeat (first | apply Kd.R_alloc | apply Kd.R_drewN | apply Kd.R_drew)); exact Kd.R_mono HO_5.out (fun _ hk => trivial)⟩, ⟨by (with_reducible repeat (first | refine blk_drewN ?_ _ | refine blk_drew ?_ | refine blk_alloc ?_ _)); exact BK102.out⟩, ⟨by (with_reducible repeat (first | refine blk_drewN ?_ _ | refine blk_drew ?_ | refine blk_alloc ?_ _)); exact BK103.out⟩, ⟨by repeat (first | (with_reducible first | exact HB.out | apply below_alloc | apply pw_below_drewN | apply below_drew1 | refine below_set ?_ GE102.out | refine below_set ?_ GE103.out | refine below_set ?_ GE108.out) | exact HB.out)⟩⟩
                        · rw [if_neg c48] at H
                          have c48b0 : (((rd_T55 l0_2 x12_1).f0).toList == ([83, 85, 66, 84, 73, 84, 76, 69, 83] : List UInt8)) = false := beq_eq_false_iff_ne.mpr c48
                          have c48b1 : (((rd_T55 l0_2 x12_1).f0).toList != ([83, 85, 66, 84, 73, 84, 76, 69, 83] : List UInt8)) = true := bne_iff_ne.mpr c48
                          have H' := Aside0.mk H
                          clear H
                          have hnb62 := NB108_102.out
                          have hnc62 := NB102_108.out
                          have hnb63 := NB108_103.out
                          have hnc63 := NB103_108.out
                          have hcz64_0 : wc.cell? ⟨gb108, 0, none⟩ = some (.string ((rd_T55 l0_2 x12_1).f0)) := (blk_cell BK108.out 0).trans rfl
                          have hcz64_1 : wc.cell? ⟨gb108, 1, none⟩ = some (.string ((rd_T55 l0_2 x12_1).f1)) := (blk_cell BK108.out 1).trans rfl
                          have hcz64_2 : wc.cell? ⟨gb108, 2, none⟩ = some (.string ((rd_T55 l0_2 x12_1).f2)) := (blk_cell BK108.out 2).trans rfl
                          have hcz64_3 : wc.cell? ⟨gb108, 3, none⟩ = some (.bool ((rd_T55 l0_2 x12_1).f3)) := (blk_cell BK108.out 3).trans rfl
                          have hcz64_4 : wc.cell? ⟨gb108, 4, none⟩ = some (.string ((rd_T55 l0_2 x12_1).f4)) := (blk_cell BK108.out 4).trans rfl
                          have hcz64_5 : wc.cell? ⟨gb108, 5, none⟩ = some (.string ((rd_T55 l0_2 x12_1).f5)) := (blk_cell BK108.out 5).trans rfl
                          have hcz64_6 : wc.cell? ⟨gb108, 6, none⟩ = some (.string ((rd_T55 l0_2 x12_1).f6)) := (blk_cell BK108.out 6).trans rfl
                          have hfz64_0 := blk_frozen BK108.out 0
                          have hfz64_1 := blk_frozen BK108.out 1
                          have hfz64_2 := blk_frozen BK108.out 2
                          have hfz64_3 := blk_frozen BK108.out 3
                          have hfz64_4 := blk_frozen BK108.out 4
                          have hfz64_5 := blk_frozen BK108.out 5
                          have hfz64_6 := blk_frozen BK108.out 6
                          go_wp2
                          go_roundg kj31
                          case measure => have := HK1.out; have := HJ11.out; have := HJ31.out; omega
                          case rel => exact ⟨(x5_1), (wrap64 (x12_1 + 1)), (by first | rfl | (simp; done) | (simp [*]; done)), H', ⟨by have := HK1.out; have := HJ11.out; have := HJ31.out; omega⟩, ⟨by (with_reducible repeat (first | apply Kd.R_alloc | apply Kd.R_drewN | apply Kd.R_drew)); exact Kd.R_mono HO_5.out (fun _ hk => trivial)⟩, ⟨by (with_reducible repeat (first | refine blk_drewN ?_ _ | refine blk_drew ?_ | refine blk_alloc ?_ _)); exact BK102.out⟩, ⟨by (with_reducible repeat (first | refine blk_drewN ?_ _ | refine blk_drew ?_ | refine blk_alloc ?_ _)); exact BK103.out⟩, ⟨by repeat (first | (with_reducible first | exact HB.out | apply below_alloc | apply pw_below_drewN | apply below_drew1 | refine below_set ?_ GE102.out | refine below_set ?_ GE103.out | refine below_set ?_ GE108.out) | exact HB.out)⟩⟩
          · rw [if_neg c11] at H
            exact absurd H (by simp)
        · rw [if_neg c10] at H
          exact absurd H (by simp)
      · rw [if_neg c9] at H
        have c9b0 : decide (x12_1 < (l0_2.length : Int)) = false := decide_eq_false c9
        clear c9
        obtain rfl := Option.some.inj H
        go_wp2
        go_ret
        exact ⟨_, by first | rfl | (simp [errW_none, errW_some] <;> rfl) | (simp [*, errW_none, errW_some] <;> rfl), by (with_reducible repeat (first | apply Kd.R_alloc | apply Kd.R_drewN | apply Kd.R_drew)); exact HO_5.out, by repeat (first | (with_reducible first | exact HB.out | apply below_alloc | apply pw_below_drewN | apply below_drew1 | refine below_set ?_ GE102.out | refine below_set ?_ GE103.out) | exact HB.out)⟩
end Go.Proofs.YtlghdacdpkaoeaaGreatDoor.PFnMasterLoose
