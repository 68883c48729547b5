import Derived.Test.YtlghdacdpkaoeaaGreatDoorK46
namespace Go.Proofs.YtlghdacdpkaoeaaGreatDoor
open Go.RowKit Go.Proofs.YtlghdacdpkaoeaaGreatDoorW.PrintWords Go.Maps Go.Proofs.YtlghdacdpkaoeaaGreatDoor.PFnMasterLoose
open Go.Lib hiding intOf
set_option linter.unusedVariables false
set_option linter.unusedSimpArgs false
def v2of (b : Bool) (A2 : Option Addr) (n c2 : Nat) : Value := bif b then .slice none 0 0 else .slice A2 n c2
theorem nilC {α : Type} (d : Kd α) (w : World) : d.C w none 0 [] := by
  obtain ⟨A, c, e, _, h⟩ := Kd.R_reads (Kd.R_nil d 55 w 0 (fun _ => True))
  injection e with e1 e2 e3
  subst e1
  exact h
theorem told {ver : Nat} {alts : List AltR} {vars : List VarR} {fs : List Bool} {A2 : Option Addr} {c2 : Nat} {w : World} {b : Bool} (hb : b = decide (true ∈ fs)) (hver : ver < 8) (hna : alts.length ≤ 4) (hnv : vars.length ≤ 4) (hga : ∀ a ∈ alts, a.Good) (hnd : alts.Nodup) (hgv : ∀ v ∈ vars, v.Good) (hc2 : alts.length ≤ c2) (q2 : Kd.C k55 w A2 alts.length (alts.map AltR.s)) :
    ∃ (alts' : List AltR) (A2' : Option Addr) (c2' : Nat), v2of b A2 alts.length c2 = .slice A2' alts'.length c2' ∧ alts'.length ≤ c2' ∧ Fit ver alts' vars fs ∧ Kd.C k55 w A2' alts'.length (alts'.map AltR.s) := by
  cases b
  · have hf : ∀ f ∈ fs, f = false := by
      intro f hf
      cases f with
      | false => rfl
      | true => simp [hf] at hb
    exact ⟨alts, A2, c2, rfl, hc2, ⟨by omega, hga, hgv, hna, hnv, hnd, .inr hf⟩, q2⟩
  · exact ⟨[], none, 0, rfl, by simp, ⟨by omega, by simp, hgv, by simp, hnv, by simp, .inl rfl⟩, nilC k55 w⟩
theorem frStep {fs : List Bool} {i : Nat} {b c : Bool} (h : b = decide (true ∈ fs.take i)) (hi : i < fs.length) (hc : fs[i] = c) : (b || c) = decide (true ∈ fs.take (i + 1)) := by
  rw [List.take_succ_eq_append_getElem hi, hc, h, Bool.eq_iff_iff]
  simp
def plain (l : List Item) : List (Item × Bool) := l.map fun it => (it, false)
theorem restT_plain (l : List Item) : restT (plain l) = itemsText l := by
  unfold restT plain itemsText
  rw [List.map_map]
  congr 1
  apply List.map_congr_left
  intro it _
  simp [lineOf, crOf]
theorem plain_fst (l : List Item) : (plain l).map Prod.fst = l := by
  unfold plain
  rw [List.map_map]
  exact List.map_id _
theorem bs_drop8 (a b : List UInt8) (h : a.length = 8) : (bs (a ++ b)).extract 8 (bs (a ++ b)).size = bs b := bs_rest (by rw [List.drop_left' h])
def Read1 (S : RS) (n ver : Nat) (ind : Bool) (W : World) (e : Ending) (W' : World) : Prop :=
  Below W.heap.size W W' ∧ ∃ A c, e = .returned (.tuple #[.agg #[.slice A n c, .string ⟨#[]⟩, .int .i64 ver, .bool ind], .bool true]) ∧ ResAt W.heap.size W' S (.slice A n c)
theorem read_whole {N ver : Nat} {ind : Bool} {alts : List AltR} {vars : List VarR} {fs : List Bool} (its : List (Item × Bool)) (W : World) (hE : BaseE N W) (hf : Fit ver alts vars fs) (hok : RS.start.okay (its.map Prod.fst)) (hrun : RS.start.run (its.map Prod.fst) = endRS true ver ind alts vars fs) (hsz : (restT its).length ≤ 8192) :
    Calls Tryz.prog 6 #[.string (bs (restT its)), .bool true] W (Read1 (endRS true ver ind alts vars fs) vars.length ver ind W) := by
  have hfr : (endRS true ver ind alts vars fs).alts = [] ∨ ∀ x ∈ (endRS true ver ind alts vars fs).vars, x.fr = false := by
    rcases hf.fr with h | h
    · left
      show wrtAll alts [] vars = []
      rw [h]; exact wrtAll_nil vars
    · right
      exact varsS_fr vars fs h
  refine (ReadMaster_calls its W hE hok (by rw [hrun]; rfl) (by rw [hrun]; exact hfr) hsz).mono ?_
  rintro e W' ⟨hb, h⟩
  rw [hrun] at h
  obtain ⟨sl, he, hr⟩ : ∃ sl, e = .returned (.tuple #[MasterV sl (endRS true ver ind alts vars fs), .bool true]) ∧ ResAt W.heap.size W' (endRS true ver ind alts vars fs) sl := h
  obtain ⟨A, c, hsl⟩ := res_form hr
  have hn : (endRS true ver ind alts vars fs).vars.length = vars.length := varsS_length vars fs
  rw [hn] at hsl
  subst hsl
  exact ⟨hb, A, c, he, hr⟩
theorem read_tail {N ver : Nat} {ind : Bool} {alts : List AltR} {vars : List VarR} {fs : List Bool} (its : List (Item × Bool)) (W : World) (hE : BaseE N W) (hf : Fit ver alts vars fs) (hok : RS.start.okay (its.map Prod.fst)) (hrun : RS.start.run (its.map Prod.fst) = endRS false ver ind alts vars fs) (hsz : (restT its).length ≤ 8192) :
    Calls Tryz.prog 6 #[.string (bs (restT its)), .bool true] W fun e W' => Below W.heap.size W W' ∧ e = .returned (.tuple #[.agg #[.slice none 0 0, .string ⟨#[]⟩, .int .i64 0, .bool false], .bool false]) := by
  have hfr : (endRS false ver ind alts vars fs).alts = [] ∨ ∀ x ∈ (endRS false ver ind alts vars fs).vars, x.fr = false := by
    rcases hf.fr with h | h
    · left
      show wrtAll alts [] vars = []
      rw [h]; exact wrtAll_nil vars
    · right
      exact varsS_fr vars fs h
  refine (ReadMaster_calls its W hE hok (by rw [hrun]; rfl) (by rw [hrun]; exact hfr) hsz).mono ?_
  rintro e W' ⟨hb, h⟩
  rw [hrun] at h
  exact ⟨hb, h⟩
def XCells (w : World) (g o : Nat) (y : XV) (u : Value) : Prop :=
  w.cell? ⟨g, o, none⟩ = some (.string y.a0) ∧ w.cell? ⟨g, o + 1, none⟩ = some (.int .u32 y.n2) ∧ w.cell? ⟨g, o + 2, none⟩ = some (.int .u32 y.n3) ∧ w.cell? ⟨g, o + 3, none⟩ = some (.int .u32 y.n4) ∧ w.cell? ⟨g, o + 4, none⟩ = some (.string y.a5) ∧ w.cell? ⟨g, o + 5, none⟩ = some (.string y.a6) ∧ w.cell? ⟨g, o + 6, none⟩ = some (.string y.a7) ∧ w.cell? ⟨g, o + 7, none⟩ = some (.string y.a8) ∧ w.cell? ⟨g, o + 8, none⟩ = some (.string y.a9) ∧ w.cell? ⟨g, o + 9, none⟩ = some (.string y.a10) ∧ w.cell? ⟨g, o + 10, none⟩ = some (.string y.a11) ∧ w.cell? ⟨g, o + 11, none⟩ = some (.bool y.b12) ∧ w.cell? ⟨g, o + 12, none⟩ = some (.string y.a13) ∧ w.cell? ⟨g, o + 13, none⟩ = some (.string y.a14) ∧ w.cell? ⟨g, o + 14, none⟩ = some (.float .f64 y.r15) ∧ w.cell? ⟨g, o + 15, none⟩ = some u
theorem xcells {w W : World} {g o : Nat} {X : VarS} {y : XV} {u : Value} (hc : ∀ i v, (varVals X u)[i]? = some v → W.cell? ⟨g, o + i, none⟩ = some v) (hy : varVals X u = (y.vals u).toList) (hb : Below W.heap.size W w) : XCells w g o y u := by
  rw [hy] at hc
  have k : ∀ i v, (y.vals u).toList[i]? = some v → w.cell? ⟨g, o + i, none⟩ = some v := fun i v h => (hb.cell (World.block_lt_of_cell? W _ (hc i v h))).trans (hc i v h)
  exact ⟨k 0 _ rfl, k 1 _ rfl, k 2 _ rfl, k 3 _ rfl, k 4 _ rfl, k 5 _ rfl, k 6 _ rfl, k 7 _ rfl, k 8 _ rfl, k 9 _ rfl, k 10 _ rfl, k 11 _ rfl, k 12 _ rfl, k 13 _ rfl, k 14 _ rfl, k 15 _ rfl⟩
def ACells (w : World) (g o : Nat) (y : XA) : Prop :=
  w.cell? ⟨g, o, none⟩ = some (.string y.b0) ∧ w.cell? ⟨g, o + 1, none⟩ = some (.string y.b1) ∧ w.cell? ⟨g, o + 2, none⟩ = some (.string y.b2) ∧ w.cell? ⟨g, o + 3, none⟩ = some (.string y.b3) ∧ w.cell? ⟨g, o + 4, none⟩ = some (.string y.b4) ∧ w.cell? ⟨g, o + 5, none⟩ = some (.bool y.b5) ∧ w.cell? ⟨g, o + 6, none⟩ = some (.string y.b6) ∧ w.cell? ⟨g, o + 7, none⟩ = some (.string ⟨#[]⟩) ∧ w.cell? ⟨g, o + 8, none⟩ = some (.string ⟨#[]⟩) ∧ w.cell? ⟨g, o + 9, none⟩ = some (.string ⟨#[]⟩)
theorem acells {w W : World} {g o : Nat} {a : AltR} {y : XA} (hc : ∀ i v, (altVals a)[i]? = some v → W.cell? ⟨g, o + i, none⟩ = some v) (hy : altVals a = y.vals.toList) (hb : Below W.heap.size W w) : ACells w g o y := by
  rw [hy] at hc
  have k : ∀ i v, y.vals.toList[i]? = some v → w.cell? ⟨g, o + i, none⟩ = some v := fun i v h => (hb.cell (World.block_lt_of_cell? W _ (hc i v h))).trans (hc i v h)
  exact ⟨k 0 _ rfl, k 1 _ rfl, k 2 _ rfl, k 3 _ rfl, k 4 _ rfl, k 5 _ rfl, k 6 _ rfl, k 7 _ rfl, k 8 _ rfl, k 9 _ rfl⟩
theorem keepC {W w : World} (hb : Below W.heap.size W w) {p : Addr} {u : Value} (h : W.cell? p = some u) : w.cell? p = some u := (hb.cell (World.block_lt_of_cell? W _ h)).trans h
attribute [local go_sem high] run_neq_same
attribute [local go_sem] run_store_float
set_option maxRecDepth 100000 in
set_option maxHeartbeats 4000000 in
theorem Fn_calls (A : Option Addr) (ln lc nn : Nat) (odd : Bool) (xs : List Int) (w : World) (hE : BaseE w.heap.size w) (hC : (Kd.int .u32).C w A ln xs) (hln : ln ≤ lc) (hxs : ∀ x ∈ xs, 0 ≤ x ∧ x < 4294967296) (hn : xs.length = ln) (hnn : nn < 4294967296) :
    Calls Tryz.prog 3 #[.slice A ln lc, .int .u32 nn, .bool odd] w fun e w' => e = .returned (.bool true) ∧ Below w.heap.size w w' := by
  by_cases h1 : 2147483647 < ln
  · clear hE hC hxs hn
    go_enter Tryz.func3, Tryz.ntmps3
    go_wp2_with fail
    go_ret
    exact ⟨rfl, Below.refl _ _⟩
  by_cases h2 : 100 < ln
  · clear hE hC hxs hn
    go_enter Tryz.func3, Tryz.ntmps3
    go_wp2_with fail
    go_ret
    exact ⟨rfl, Below.refl _ _⟩
  have HMO := Lib.hid (masterOf_law A ln lc nn xs w hC hln hxs hn (by omega) hnn)
  have HE := Lib.hid hE
  clear hE hC hxs hn
  go_enter Tryz.func3, Tryz.ntmps3
  go_upto_region 6 with (first | (go_at_call 4; refine (HMO.out).mono ?_; rintro e w1 ⟨ver, ind, alts, vars, fs, A2, A3, A4, c2, c3, c4, rfl, hver, hna, hnv, hfl, hga, hnd, hgv, hc2, hc3, hc4, q2, q3, q4, hb⟩; have HFL := Lib.hid hfl; have HGA := Lib.hid hga; have HND := Lib.hid hnd; have HGV := Lib.hid hgv; have Q2 := Lib.hid q2; have Q3 := Lib.hid q3; have Q4 := Lib.hid q4; have HB := Lib.hid hb; clear hfl hga hnd hgv q2 q3 q4 hb))
  have hs1 : w.heap.size ≤ w1.heap.size := HB.out.size
  have hfs4 : fs.length ≤ 4 := by have := HFL.out; omega
  have HM : Hid (Lies (w1.alloc (.cells #[.int .i64 ver, .bool ind, .slice A2 alts.length c2, .slice A3 vars.length c3] 27)) w1.heap.size 27 #[.int .i64 ver, .bool ind, v2of false A2 alts.length c2, .slice A3 vars.length c3]) := Lib.hid (heap_alloc_new w1 _)
  have HB1 : Hid (Below w1.heap.size w1 (w1.alloc (.cells #[.int .i64 ver, .bool ind, .slice A2 alts.length c2, .slice A3 vars.length c3] 27))) := Lib.hid ((Below.refl _ _).alloc (Nat.le_refl _) _)
  have hA4 : A4 = none → fs.length = 0 := by
    intro e
    rcases Nat.eq_zero_or_pos fs.length with h | h
    · exact h
    · obtain ⟨ad, e2, _⟩ := frames_at Q4.out 0 h h
      rw [e] at e2
      cases e2
  have HA4 := Lib.hid hA4
  clear hA4
  go_wp2_with fail
  go_loopw [36] (fun v36 wx => ∃ (i : Nat) (b : Bool), v36 = .int .i64 i ∧ i ≤ fs.length ∧ Hid (b = decide (true ∈ fs.take i)) ∧ Hid (Lies wx w1.heap.size 27 #[.int .i64 ver, .bool ind, v2of b A2 alts.length c2, .slice A3 vars.length c3]) ∧ Hid (Below w1.heap.size w1 wx)) (fun v36 _ => fs.length - (intOf v36).toNat)
  case atStart => exact ⟨0, false, rfl, by omega, Lib.hid (by simp), HM, HB1⟩
  case round =>
    clear HM HB1
    obtain ⟨i, b, rfl, hi, HBB, HM, HB1⟩ := hrel
    by_cases hil : i < fs.length
    · as_aux_lemma =>
      obtain ⟨ad4, rfl, hx4⟩ := frames_at Q4.out i hil hil
      have hfk : wr.cell? (ad4.add i) = some (.bool fs[i]) := (HB1.out.cell (World.block_lt_of_cell? w1 _ hx4)).trans hx4
      have hilt : (i : Int) < fs.length := by omega
      generalize hfe : fs[i] = c at *
      have HFE := Lib.hid hfe
      clear hfe hx4
      have hm2 : wr.cell? ⟨w1.heap.size, 2, none⟩ = some (v2of b A2 alts.length c2) := HM.out.cell 2
      have hmf := HM.out.frozen 2
      obtain ⟨u2, hu2⟩ : ∃ u, u = v2of b A2 alts.length c2 := ⟨_, rfl⟩
      rw [← hu2] at hm2
      have HU2 := Lib.hid hu2
      clear hu2
      cases c
      · go_wp2_with fail
        go_roundw
        case measure => simp [intOf]; omega
        case rel => exact ⟨i + 1, b, by go_num, by omega, Lib.hid (by have := frStep HBB.out hil HFE.out; simpa using this), HM, HB1⟩
      · go_wp2_with fail
        go_roundw
        case measure => simp [intOf]; omega
        case rel => exact ⟨i + 1, true, by go_num, by omega, Lib.hid (by have := frStep HBB.out hil HFE.out; simpa using this), Lib.hid (HM.out.set 2 _), Lib.hid (HB1.out.setCell (Nat.le_refl _) _)⟩
    · as_aux_lemma =>
      obtain rfl : i = fs.length := by omega
      rw [List.take_length] at HBB
      obtain ⟨alts', A2', c2', hv2, hc2', hfit, hq2⟩ := told HBB.out hver hna hnv HGA.out HND.out HGV.out hc2 Q2.out
      have hm := HM.out
      rw [hv2] at hm
      have HMX := Lib.hid hm
      have HFIT := Lib.hid hfit
      have HQ2 := Lib.hid hq2
      have hna' := hfit.na
      obtain ⟨T, hT⟩ : ∃ T, T = itemsText (allItems ver ind alts' vars fs) := ⟨_, rfl⟩
      have hTl : T.length ≤ 5000 := by rw [hT]; exact (all_len hfit).1
      have HTX := Lib.hid (show Calls Tryz.prog 5 #[.agg (masA ver ind A2' alts'.length c2' A3 vars.length c3), .string ⟨#[]⟩, .slice A4 fs.length c4] wr fun e w' => e = .returned (.string (bs T)) ∧ Below wr.heap.size wr w' by
        rw [hT]
        exact Text_calls ver ind alts' vars fs A2' A3 A4 c2' c3 c4 wr (Kd.C_below hq2 HB1.out) hc2' (Kd.C_below Q3.out HB1.out) hc3 (Kd.C_below Q4.out HB1.out) hc4 HFL.out hfit.ga hfit.gv (by omega) (by omega) (by omega) (by have := (all_len (ind := ind) hfit).1; show (itemsText (allItems ver ind alts' vars fs)).length ≤ _; omega))
      have HT := Lib.hid hT
      clear hm hv2 hfit hq2 hT HM HBB
      have o0 := HMX.out.cell 0
      have o1 := HMX.out.cell 1
      have o2 := HMX.out.cell 2
      have o3 := HMX.out.cell 3
      simp only [List.getElem?_toArray, List.getElem?_cons_zero, List.getElem?_cons_succ] at o0 o1 o2 o3
      go_upto_region 13 with (first | (go_at_call 5; refine HTX.out.mono ?_; rintro e w2 ⟨rfl, hb⟩; have HB2 := Lib.hid hb; clear hb))
      have hTs : (bs T).size ≤ 5000 := by rw [bs_size]; exact hTl
      have hT8 : 8 ≤ (bs T).size := by rw [bs_size, HT.out, all_head]; simp
      have hsl : (bs T).extract 8 (bs T).size = bs (restT (plain (allItems ver ind alts' vars fs).tail)) := by
        rw [restT_plain, HT.out, all_head]
        exact bs_drop8 _ _ rfl
      have HSL := Lib.hid hsl
      clear hsl
      have hok := all_okay (ind := ind) HFIT.out
      have HW2 : Hid (Below w.heap.size w w2) := Lib.hid (below_step (below_step HB.out HB1.out) HB2.out)
      have HR0 := Lib.hid (fun (W : World) (hW : Below w.heap.size w W) => read_tail (ind := ind) (plain (allItems ver ind alts' vars fs).tail) W (HE.out.below hW) HFIT.out (by rw [plain_fst]; exact hok.2) (by rw [plain_fst, tail_run]) (by
        rw [restT_plain]
        have h1 := all_head ver ind alts' vars fs
        rw [← HT.out] at h1
        have h2 := congrArg List.length h1
        rw [List.length_append] at h2
        omega))
      rw [← HSL.out] at HR0
      have HR1 := Lib.hid (fun (W : World) (hW : Below w.heap.size w W) => read_whole (ind := ind) (plain (allItems ver ind alts' vars fs)) W (HE.out.below hW) HFIT.out (by rw [plain_fst]; exact hok.1) (by rw [plain_fst, all_run]) (by rw [restT_plain, ← HT.out]; omega))
      rw [restT_plain, ← HT.out] at HR1
      have HLS := Lib.hid (fun (W : World) => Loosened_walk (bs T) ((allItems ver ind alts' vars fs).map Item.line) nn odd W (by rw [HT.out]; rfl) (fun l hl => by
        obtain ⟨it, hit, rfl⟩ := List.mem_map.1 hl
        exact ⟨all_ne HFIT.out it hit, (line_no10 (okay_good hok.1 it hit)).1⟩) (by omega) (by omega))
      have HR2 := Lib.hid (fun (W : World) (hW : Below w.heap.size w W) (out : List Line) (hout : LooseTo odd ((allItems ver ind alts' vars fs).map Item.line) out) => show Calls Tryz.prog 6 #[.string (bs (unlines out)), .bool true] W (Read1 (endRS true ver ind alts' vars fs) vars.length ver ind W) by
        obtain ⟨its, e1, e2, e3⟩ := loose_items hout _ rfl hok.1 (all_ne HFIT.out)
        have hlen := hout.len
        have e4 : unlines out = restT its := by rw [e1]; rfl
        have e5 : (unlines ((allItems ver ind alts' vars fs).map Item.line)).length ≤ 5000 := by
          have : unlines ((allItems ver ind alts' vars fs).map Item.line) = T := by rw [HT.out]; rfl
          rw [this]; exact hTl
        have e6 := (all_len (ind := ind) HFIT.out).2
        rw [List.length_map] at hlen
        rw [e4] at hlen ⊢
        exact read_whole its W (HE.out.below hW) HFIT.out e2 (by rw [e3, all_run]) (by omega))
      clear hok
      go_upto_region 16 with (first | (go_at_call 6; refine (HR0.out _ HW2.out).mono ?_; rintro e w3 ⟨hb, rfl⟩; have HB3 := Lib.hid hb; clear hb))
      have HW3 : Hid (Below w.heap.size w (w3.alloc (.cells #[.slice none 0 0, .string ⟨#[]⟩, .int .i64 0, .bool false] 34))) := Lib.hid (below_step (below_step HW2.out HB3.out) ((Below.refl _ _).alloc (Nat.le_refl _) _))
      go_upto_region 17 with (first | (go_at_call 6; refine (HR1.out _ HW3.out).mono ?_; rintro e w4 ⟨hb, Aa, ca, rfl, hres⟩; have HB4 := Lib.hid hb; have HRA := Lib.hid hres; clear hb hres))
      have HW4 : Hid (Below w.heap.size w (w4.alloc (.cells #[.slice Aa vars.length ca, .string ⟨#[]⟩, .int .i64 ver, .bool ind] 34))) := Lib.hid (below_step (below_step HW3.out HB4.out) ((Below.refl _ _).alloc (Nat.le_refl _) _))
      go_upto_region 18 with (first
        | (go_at_call 7; refine (HLS.out _).mono ?_; rintro e w5 ⟨out, rfl, hlo, nd, rfl⟩; have HLO := Lib.hid hlo; clear hlo)
        | (go_at_call 6; refine (HR2.out _ (below_step HW4.out (pw_below_drewN (Below.refl _ _) nd)) out HLO.out).mono ?_; rintro e w6 ⟨hb, Ab, cb, rfl, hres⟩; have HB6 := Lib.hid hb; have HRB := Lib.hid hres; clear hb hres))
      have ba : Below (w4.alloc (.cells #[.slice Aa vars.length ca, .string ⟨#[]⟩, .int .i64 ver, .bool ind] 34)).heap.size (w4.alloc (.cells #[.slice Aa vars.length ca, .string ⟨#[]⟩, .int .i64 ver, .bool ind] 34)) (w6.alloc (.cells #[.slice Ab vars.length cb, .string ⟨#[]⟩, .int .i64 ver, .bool ind] 34)) :=
        below_step (below_step (pw_below_drewN (Below.refl _ _) nd) HB6.out) ((Below.refl _ _).alloc (Nat.le_refl _) _)
      have bm : Below wr.heap.size wr (w4.alloc (.cells #[.slice Aa vars.length ca, .string ⟨#[]⟩, .int .i64 ver, .bool ind] 34)) :=
        below_step (below_step (below_step (below_step HB2.out HB3.out) ((Below.refl _ _).alloc (Nat.le_refl _) _)) HB4.out) ((Below.refl _ _).alloc (Nat.le_refl _) _)
      have bw := below_step bm ba
      have HM7 := Lib.hid (HMX.out.below bw)
      have HA7 := Lib.hid ((show Lies (w4.alloc (.cells #[.slice Aa vars.length ca, .string ⟨#[]⟩, .int .i64 ver, .bool ind] 34)) w4.heap.size 34 _ from heap_alloc_new w4 _).below ba)
      have HB7 := Lib.hid (show Lies (w6.alloc (.cells #[.slice Ab vars.length cb, .string ⟨#[]⟩, .int .i64 ver, .bool ind] 34)) w6.heap.size 34 _ from heap_alloc_new w6 _)
      have RA7 := Lib.hid ((HRA.out.below ((Below.refl _ _).alloc (Nat.le_refl _) _)).below ba)
      have RB7 := Lib.hid (HRB.out.below ((Below.refl _ _).alloc (Nat.le_refl _) (.cells #[.slice Ab vars.length cb, .string ⟨#[]⟩, .int .i64 ver, .bool ind] 34)))
      have C27 := Lib.hid (Kd.C_below (Kd.C_below HQ2.out HB1.out) bw)
      have C37 := Lib.hid (Kd.C_below (Kd.C_below Q3.out HB1.out) bw)
      have HW7 := Lib.hid (below_step (below_step (HB.out) HB1.out) bw)
      clear ba bm bw HMX HRA HRB HR0 HR1 HR2 HLS HTX HW2 HW3 HW4 HB2 HB3 HB4 HB6 HLO HSL o0 o1 o2 o3 HMO HB1
      obtain ⟨Ba, hBa⟩ : ∃ b, b = (w3.alloc (.cells #[.slice none 0 0, .string ⟨#[]⟩, .int .i64 0, .bool false] 34)).heap.size := ⟨_, rfl⟩
      generalize hW7 : World.alloc w6 _ = W7 at *
      clear hW7
      have m0 := HM7.out.cell 0
      have m1 := HM7.out.cell 1
      have m2 := HM7.out.cell 2
      have m3 := HM7.out.cell 3
      have a0 := HA7.out.cell 0
      have a2 := HA7.out.cell 2
      have a3 := HA7.out.cell 3
      have b0 := HB7.out.cell 0
      have b2 := HB7.out.cell 2
      have b3 := HB7.out.cell 3
      simp only [List.getElem?_toArray, List.getElem?_cons_zero, List.getElem?_cons_succ] at m0 m1 m2 m3 a0 a2 a3 b0 b2 b3
      go_upto_region 20 with (fail)
      go_wp2_with fail
      go_loopw [107] (fun v107 wx => ∃ k : Nat, v107 = .int .i64 k ∧ k ≤ vars.length ∧ Hid (Below W7.heap.size W7 wx)) (fun v107 _ => vars.length - (intOf v107).toNat)
      case atStart => exact ⟨0, rfl, by omega, Lib.hid (Below.refl _ _)⟩
      case round =>
        clear m0 m1 m2 m3 a0 a2 a3 b0 b2 b3
        rename World => wz
        obtain ⟨k, rfl, hk, HBK⟩ := hrel
        rename World => wo
        by_cases hkl : k < vars.length
        · as_aux_lemma =>
          have hkS : k < (endRS true ver ind alts' vars fs).vars.length := by
            have : (endRS true ver ind alts' vars fs).vars.length = vars.length := varsS_length vars fs
            omega
          obtain ⟨gA, capA, asla, eA, _, hcA, hoA⟩ := res_at RA7.out k hkS
          obtain ⟨gB, capB, aslb, eB, _, hcB, hoB⟩ := res_at RB7.out k hkS
          have hlS : (endRS true ver ind alts' vars fs).vars.length = vars.length := varsS_length vars fs
          rw [hlS] at eA eB
          injection eA with eA1 _ eA3
          injection eB with eB1 _ eB3
          subst eA1 eA3 eB1 eB3
          have hXv : (endRS true ver ind alts' vars fs).vars[k].v.Good := by
            have h1 : (endRS true ver ind alts' vars fs).vars.map VarS.v = vars := varsS_v vars fs
            have h2 : (endRS true ver ind alts' vars fs).vars[k].v ∈ (endRS true ver ind alts' vars fs).vars.map VarS.v := List.mem_map_of_mem (List.getElem_mem hkS)
            rw [h1] at h2
            exact HFIT.out.gv _ h2
          have hnl := att_len HFIT.out true ind k hkl hkS
          have HK : Hid ((endRS true ver ind alts' vars fs).vars[k]? = some (endRS true ver ind alts' vars fs).vars[k]) := Lib.hid (List.getElem?_eq_getElem hkS)
          obtain ⟨L, hL⟩ : ∃ L, L = attL (endRS true ver ind alts' vars fs).alts (endRS true ver ind alts' vars fs).vars[k] := ⟨_, rfl⟩
          rw [← hL] at hoA hoB hnl
          clear hL HK
          generalize hX : (endRS true ver ind alts' vars fs).vars[k] = X at *
          clear hX hlS hkS
          obtain ⟨y, hy, hro⟩ := VarS.xv X hXv.nums.2.2.2.2.2
          obtain ⟨Al, cl, hal⟩ := row_form hoA
          subst hal
          obtain ⟨Am, cm, hbl⟩ := row_form hoB
          subst hbl
          have hxa := xcells hcA (hy _) HBK.out
          have hxb := xcells hcB (hy _) HBK.out
          have HOA := Lib.hid hoA
          have HOB := Lib.hid hoB
          have HNL := Lib.hid hnl
          obtain ⟨ad3, rfl, hx3⟩ := var_at C37.out k hkl
          have HX3 := Lib.hid (row_below13 hx3 HBK.out)
          have hgA : gA < wo.heap.size := World.block_lt_of_cell? wo _ hxa.1
          have hgB : gB < wo.heap.size := World.block_lt_of_cell? wo _ hxb.1
          have hz6 : w6.heap.size < wo.heap.size := Nat.lt_of_lt_of_le HB7.out.lt HBK.out.size
          have hz4 : w4.heap.size < wo.heap.size := Nat.lt_of_lt_of_le HA7.out.lt HBK.out.size
          have hz1 : w1.heap.size < wo.heap.size := Nat.lt_of_lt_of_le HM7.out.lt HBK.out.size
          have b0 : wo.cell? ⟨w6.heap.size, 0, none⟩ = some (.slice (some ⟨gB, 0, none⟩) vars.length cb) := (HB7.out.below HBK.out).cell 0
          clear hcA hcB hoA hoB hnl hy hx3 hXv
          have HXB := Lib.hid hxb
          obtain ⟨x0, x1, x2, x3, x4, x5, x6, x7, x8, x9, x10, x11, x12, x13, x14, x15⟩ := hxa
          obtain ⟨y0, y1, y2, y3, y4, y5, y6, y7, y8, y9, y10, y11, y12, y13, y14, y15⟩ := hxb
          go_upto_region 24 with (fail)
          generalize hvk : vars[k] = v at *
          have HVK := Lib.hid hvk
          clear hvk
          have HX8 : Hid (Lies ((wo.alloc (.cells (y.vals (.slice Al L.length cl)) 41)).alloc (.cells (y.vals (.slice Am L.length cm)) 41)) wo.heap.size 41 (y.vals (.slice Al L.length cl))) := Lib.hid (blk_alloc (heap_alloc_new wo _) _)
          have HY8 : Hid (Lies ((wo.alloc (.cells (y.vals (.slice Al L.length cl)) 41)).alloc (.cells (y.vals (.slice Am L.length cm)) 41)) (wo.heap.size + 1) 41 (y.vals (.slice Am L.length cm))) := Lib.hid (by
            have h1 := heap_alloc_new (wo.alloc (.cells (y.vals (.slice Al L.length cl)) 41)) (.cells (y.vals (.slice Am L.length cm)) 41)
            rw [show (wo.alloc (.cells (y.vals (.slice Al L.length cl)) 41)).heap.size = wo.heap.size + 1 by simp] at h1
            exact h1)
          have HB8 : Hid (Below wo.heap.size wo ((wo.alloc (.cells (y.vals (.slice Al L.length cl)) 41)).alloc (.cells (y.vals (.slice Am L.length cm)) 41))) := Lib.hid (((Below.refl _ _).alloc (Nat.le_refl _) _).alloc (by simp) _)
          generalize hW8 : World.alloc (World.alloc wo _) _ = W8 at *
          clear hW8 x0 x1 x2 x3 x4 x5 x6 x7 x8 x9 x10 x11 x12 x13 x14 x15 y0 y1 y2 y3 y4 y5 y6 y7 y8 y9 y10 y11 y12 y13 y14 y15 b0
          have HB9 := Lib.hid (below_step HBK.out HB8.out)
          have hM8 := HM7.out.below HB9.out
          have M0 := hM8.cell 0
          have M1 := hM8.cell 1
          have M2 := hM8.cell 2
          have M3 := hM8.cell 3
          simp only [List.getElem?_toArray, List.getElem?_cons_zero, List.getElem?_cons_succ] at M0 M1 M2 M3
          have X15 : W8.cell? ⟨wo.heap.size, 15, none⟩ = some (.slice Al L.length cl) := HX8.out.cell 15
          have Y15 : W8.cell? ⟨wo.heap.size + 1, 15, none⟩ = some (.slice Am L.length cm) := HY8.out.cell 15
          obtain ⟨V0, V1, V2, V3, V4, V5, V6, V7, V8, V9, V10, V11, V12⟩ := row_below13 HX3.out HB8.out
          have HOF := Lib.hid (fun (W : World) (hW : Below W8.heap.size W8 W) => Of_calls ver ind alts' vars A2' (some ad3) c2' c3 v W (Kd.C_below C27.out (below_step HB9.out hW)) hc2' (Kd.C_below C37.out (below_step HB9.out hW)) hc3 (by omega))
          rw [← HNL.out] at HOF
          clear hM8
          go_cut [137] from 108 to 212 (fun v137 wx => v137 = .bool false ∧ Below W8.heap.size W8 wx)
          case first => as_aux_lemma =>
            go_region_held3 (fun w' => w'.cell? ⟨wo.heap.size, 15, none⟩ = some (.slice Al L.length cl) ∧ w'.cell? ⟨wo.heap.size + 1, 15, none⟩ = some (.slice Am L.length cm) ∧ w'.cell? ⟨w1.heap.size, 0, none⟩ = some (.int .i64 ver) ∧ w'.cell? ⟨w1.heap.size, 1, none⟩ = some (.bool ind) ∧ w'.cell? ⟨w1.heap.size, 2, none⟩ = some (.slice A2' alts'.length c2') ∧ w'.cell? ⟨w1.heap.size, 3, none⟩ = some (.slice (some ad3) vars.length c3) ∧ w'.cell? (ad3.add (k * 13)) = some (.string (bs v.uri)) ∧ w'.cell? ⟨(ad3.add (k * 13)).block, (ad3.add (k * 13)).off + 1, none⟩ = some (.int .u32 v.program) ∧ w'.cell? ⟨(ad3.add (k * 13)).block, (ad3.add (k * 13)).off + 2, none⟩ = some (.int .u32 v.bandwidth) ∧ w'.cell? ⟨(ad3.add (k * 13)).block, (ad3.add (k * 13)).off + 3, none⟩ = some (.int .u32 v.average) ∧ w'.cell? ⟨(ad3.add (k * 13)).block, (ad3.add (k * 13)).off + 4, none⟩ = some (.string (bs v.codecs)) ∧ w'.cell? ⟨(ad3.add (k * 13)).block, (ad3.add (k * 13)).off + 5, none⟩ = some (.int .u32 v.width) ∧ w'.cell? ⟨(ad3.add (k * 13)).block, (ad3.add (k * 13)).off + 6, none⟩ = some (.int .u32 v.height) ∧ w'.cell? ⟨(ad3.add (k * 13)).block, (ad3.add (k * 13)).off + 7, none⟩ = some (.string (bs v.audio)) ∧ w'.cell? ⟨(ad3.add (k * 13)).block, (ad3.add (k * 13)).off + 8, none⟩ = some (.string (bs v.video)) ∧ w'.cell? ⟨(ad3.add (k * 13)).block, (ad3.add (k * 13)).off + 9, none⟩ = some (.string (bs v.subtitles)) ∧ w'.cell? ⟨(ad3.add (k * 13)).block, (ad3.add (k * 13)).off + 10, none⟩ = some (.string (bs v.captions)) ∧ w'.cell? ⟨(ad3.add (k * 13)).block, (ad3.add (k * 13)).off + 11, none⟩ = some (.string (bs v.name)) ∧ w'.cell? ⟨(ad3.add (k * 13)).block, (ad3.add (k * 13)).off + 12, none⟩ = some (.int .i64 v.rate)) (go_keep) (first | (go_at_call 8; refine (HOF.out _ ((Below.refl _ _).drew)).mono ?_; rintro e w9 ⟨Ao, co, rfl, hl, hR, hb⟩; have HB10 := Lib.hid (below_step ((Below.refl _ W8).drew) hb); have hS : w9.cell? ⟨wo.heap.size, 15, none⟩ = some (.slice Al L.length cl) ∧ w9.cell? ⟨wo.heap.size + 1, 15, none⟩ = some (.slice Am L.length cm) ∧ w9.cell? ⟨w1.heap.size, 0, none⟩ = some (.int .i64 ver) ∧ w9.cell? ⟨w1.heap.size, 1, none⟩ = some (.bool ind) ∧ w9.cell? ⟨w1.heap.size, 2, none⟩ = some (.slice A2' alts'.length c2') ∧ w9.cell? ⟨w1.heap.size, 3, none⟩ = some (.slice (some ad3) vars.length c3) ∧ w9.cell? (ad3.add (k * 13)) = some (.string (bs v.uri)) ∧ w9.cell? ⟨(ad3.add (k * 13)).block, (ad3.add (k * 13)).off + 1, none⟩ = some (.int .u32 v.program) ∧ w9.cell? ⟨(ad3.add (k * 13)).block, (ad3.add (k * 13)).off + 2, none⟩ = some (.int .u32 v.bandwidth) ∧ w9.cell? ⟨(ad3.add (k * 13)).block, (ad3.add (k * 13)).off + 3, none⟩ = some (.int .u32 v.average) ∧ w9.cell? ⟨(ad3.add (k * 13)).block, (ad3.add (k * 13)).off + 4, none⟩ = some (.string (bs v.codecs)) ∧ w9.cell? ⟨(ad3.add (k * 13)).block, (ad3.add (k * 13)).off + 5, none⟩ = some (.int .u32 v.width) ∧ w9.cell? ⟨(ad3.add (k * 13)).block, (ad3.add (k * 13)).off + 6, none⟩ = some (.int .u32 v.height) ∧ w9.cell? ⟨(ad3.add (k * 13)).block, (ad3.add (k * 13)).off + 7, none⟩ = some (.string (bs v.audio)) ∧ w9.cell? ⟨(ad3.add (k * 13)).block, (ad3.add (k * 13)).off + 8, none⟩ = some (.string (bs v.video)) ∧ w9.cell? ⟨(ad3.add (k * 13)).block, (ad3.add (k * 13)).off + 9, none⟩ = some (.string (bs v.subtitles)) ∧ w9.cell? ⟨(ad3.add (k * 13)).block, (ad3.add (k * 13)).off + 10, none⟩ = some (.string (bs v.captions)) ∧ w9.cell? ⟨(ad3.add (k * 13)).block, (ad3.add (k * 13)).off + 11, none⟩ = some (.string (bs v.name)) ∧ w9.cell? ⟨(ad3.add (k * 13)).block, (ad3.add (k * 13)).off + 12, none⟩ = some (.int .i64 v.rate) := ⟨keepC (W := W8) HB10.out X15, keepC (W := W8) HB10.out Y15, keepC (W := W8) HB10.out M0, keepC (W := W8) HB10.out M1, keepC (W := W8) HB10.out M2, keepC (W := W8) HB10.out M3, keepC (W := W8) HB10.out V0, keepC (W := W8) HB10.out V1, keepC (W := W8) HB10.out V2, keepC (W := W8) HB10.out V3, keepC (W := W8) HB10.out V4, keepC (W := W8) HB10.out V5, keepC (W := W8) HB10.out V6, keepC (W := W8) HB10.out V7, keepC (W := W8) HB10.out V8, keepC (W := W8) HB10.out V9, keepC (W := W8) HB10.out V10, keepC (W := W8) HB10.out V11, keepC (W := W8) HB10.out V12⟩; obtain ⟨qX15, qY15, qM0, qM1, qM2, qM3, qV0, qV1, qV2, qV3, qV4, qV5, qV6, qV7, qV8, qV9, qV10, qV11, qV12⟩ := hS; clear hl hR hb))
            all_goals
              go_wp2_with fail
              go_meet
              exact ⟨rfl, HB10.out⟩
          obtain ⟨rfl, hbc⟩ := hcut
          have HBC := Lib.hid hbc
          clear hbc X15 Y15 M0 M1 M2 M3 V0 V1 V2 V3 V4 V5 V6 V7 V8 V9 V10 V11 V12 HOF
          have x15 : wc.cell? ⟨wo.heap.size, 15, none⟩ = some (.slice Al L.length cl) := (HX8.out.below HBC.out).cell 15
          have hLl : L.length ≤ 100 := by
            have := HNL.out
            have h2 := List.length_filter_le v.has alts'
            omega
          go_wp2_with fail
          go_loopw [141] (fun v141 wx => ∃ i : Nat, v141 = .int .i64 i ∧ i ≤ L.length ∧ Hid (Below W8.heap.size W8 wx)) (fun v141 _ => L.length - (intOf v141).toNat)
          case atStart => exact ⟨0, rfl, by omega, HBC⟩
          case round =>
            clear x15
            obtain ⟨i, rfl, hi, HBI⟩ := hrel
            by_cases hil : i < L.length
            · as_aux_lemma =>
              obtain ⟨gl, cap1, e1, hgl, hc1⟩ := row_cell HOA.out (fun a _ => altVals_len a) i hil
              obtain ⟨gm, cap2, e2, hgm, hc2⟩ := row_cell HOB.out (fun a _ => altVals_len a) i hil
              injection e1 with e11 _ _
              injection e2 with e21 _ _
              subst e11 e21
              obtain ⟨z, hz⟩ := AltR.xa L[i]
              have hza := acells hc1 hz (below_step HB9.out HBI.out)
              have hzb := acells hc2 hz (below_step HB9.out HBI.out)
              obtain ⟨p0, p1, p2, p3, p4, p5, p6, p7, p8, p9⟩ := hza
              obtain ⟨q0, q1, q2, q3, q4, q5, q6, q7, q8, q9⟩ := hzb
              have x15 : wr.cell? ⟨wo.heap.size, 15, none⟩ = some (.slice (some ⟨gl, 0, none⟩) L.length cl) := (HX8.out.below HBI.out).cell 15
              have y15 : wr.cell? ⟨wo.heap.size + 1, 15, none⟩ = some (.slice (some ⟨gm, 0, none⟩) L.length cm) := (HY8.out.below HBI.out).cell 15
              have hilt : (i : Int) < L.length := by omega
              clear hc1 hc2 hz
              go_upto_region 29 with (fail)
              go_quiet (fail)
              go_wp2_with fail
              go_roundw
              case measure => simp [intOf]; omega
              case rel => exact ⟨i + 1, by go_num, by omega, Lib.hid (below_step HBI.out (pw_below_drewN (Below.refl _ _) _))⟩
            · as_aux_lemma =>
              obtain rfl : i = L.length := by omega
              have hx := HX8.out.below HBI.out
              have hy := HY8.out.below HBI.out
              have x15 : wr.cell? ⟨wo.heap.size, 15, none⟩ = some (.slice Al L.length cl) := hx.cell 15
              have y15 : wr.cell? ⟨wo.heap.size + 1, 15, none⟩ = some (.slice Am L.length cm) := hy.cell 15
              have xf := hx.frozen 15
              have yf := hy.frozen 15
              have hx2 := blk_far (hx.set 15 (.slice none 0 0)) (p := ⟨wo.heap.size + 1, 15, none⟩) (by show wo.heap.size ≠ wo.heap.size + 1; omega) (.slice none 0 0)
              have hy2 := blk_set (blk_far hy (p := ⟨wo.heap.size, 15, none⟩) (by show wo.heap.size + 1 ≠ wo.heap.size; omega) (.slice none 0 0)) 15 (.slice none 0 0)
              have HX9 : Hid (Lies ((wr.setCell ⟨wo.heap.size, 15, none⟩ (.slice none 0 0)).setCell ⟨wo.heap.size + 1, 15, none⟩ (.slice none 0 0)) wo.heap.size 41 (y.vals (.slice none 0 0))) := Lib.hid hx2
              have HY9 : Hid (Lies ((wr.setCell ⟨wo.heap.size, 15, none⟩ (.slice none 0 0)).setCell ⟨wo.heap.size + 1, 15, none⟩ (.slice none 0 0)) (wo.heap.size + 1) 41 (y.vals (.slice none 0 0))) := Lib.hid hy2
              have hzw : W7.heap.size ≤ wo.heap.size := HBK.out.size
              have HBF := Lib.hid (((below_step HB9.out HBI.out).setCell (p := ⟨wo.heap.size, 15, none⟩) hzw (.slice none 0 0)).setCell (p := ⟨wo.heap.size + 1, 15, none⟩) (by show W7.heap.size ≤ wo.heap.size + 1; omega) (.slice none 0 0))
              clear hx hy hx2 hy2
              go_upto_region 33 with (fail)
              generalize hW9 : World.setCell (World.setCell wr _ _) _ _ = W9 at *
              clear hW9
              have X0 : W9.cell? ⟨wo.heap.size, 0, none⟩ = some (.string y.a0) := HX9.out.cell 0
              have Y0 : W9.cell? ⟨wo.heap.size + 1, 0, none⟩ = some (.string y.a0) := HY9.out.cell 0
              have X2 : W9.cell? ⟨wo.heap.size, 2, none⟩ = some (.int .u32 y.n3) := HX9.out.cell 2
              have Y2 : W9.cell? ⟨wo.heap.size + 1, 2, none⟩ = some (.int .u32 y.n3) := HY9.out.cell 2
              have X4 : W9.cell? ⟨wo.heap.size, 4, none⟩ = some (.string y.a5) := HX9.out.cell 4
              have Y4 : W9.cell? ⟨wo.heap.size + 1, 4, none⟩ = some (.string y.a5) := HY9.out.cell 4
              have X6 : W9.cell? ⟨wo.heap.size, 6, none⟩ = some (.string y.a7) := HX9.out.cell 6
              have Y6 : W9.cell? ⟨wo.heap.size + 1, 6, none⟩ = some (.string y.a7) := HY9.out.cell 6
              have X9 : W9.cell? ⟨wo.heap.size, 9, none⟩ = some (.string y.a10) := HX9.out.cell 9
              have Y9 : W9.cell? ⟨wo.heap.size + 1, 9, none⟩ = some (.string y.a10) := HY9.out.cell 9
              have X10 : W9.cell? ⟨wo.heap.size, 10, none⟩ = some (.string y.a11) := HX9.out.cell 10
              have Y10 : W9.cell? ⟨wo.heap.size + 1, 10, none⟩ = some (.string y.a11) := HY9.out.cell 10
              have X11 : W9.cell? ⟨wo.heap.size, 11, none⟩ = some (.bool y.b12) := HX9.out.cell 11
              have Y11 : W9.cell? ⟨wo.heap.size + 1, 11, none⟩ = some (.bool y.b12) := HY9.out.cell 11
              have X14 : W9.cell? ⟨wo.heap.size, 14, none⟩ = some (.float .f64 y.r15) := HX9.out.cell 14
              have Y14 : W9.cell? ⟨wo.heap.size + 1, 14, none⟩ = some (.float .f64 y.r15) := HY9.out.cell 14
              have hro2 : (FloatKind.f64.format.order y.r15 y.r15 != some Ordering.eq) = false := by
                have h0 : (FloatKind.f64.format.order y.r15 y.r15 == some Ordering.eq) = true := hro
                simp only [bne, h0, Bool.not_true]
              go_wp2_with fail
              go_roundw
              case measure => simp [intOf]; omega
              case rel => exact ⟨k + 1, by go_num, by omega, HBF⟩
        · obtain rfl : k = vars.length := by omega
          go_wp2_with fail
          go_ret
          exact ⟨rfl, below_step HW7.out HBK.out⟩
end Go.Proofs.YtlghdacdpkaoeaaGreatDoor
