import Derived.Test.YtlghdacdpkaoeaaGreatDoorK44
namespace Go.Proofs.YtlghdacdpkaoeaaGreatDoor
open Go.RowKit Go.Proofs.YtlghdacdpkaoeaaGreatDoorW.PrintWords Go.Maps Go.Proofs.YtlghdacdpkaoeaaGreatDoor.PFnMasterLoose
open Go.Lib hiding intOf
set_option linter.unusedVariables false
set_option linter.unusedSimpArgs false
theorem row_empty {α : Type} (d : Kd α) {e g base : Nat} {w : World} (hg : w.heap[g]? = some (.cells #[] e (0, 0))) (hb : base ≤ g) : d.R e w base (fun _ => True) (.slice (some ⟨g, 0, none⟩) 0 0) [] :=
  ⟨fun _ _ => trivial, [], ⟨by simp, .inr ⟨g, 0, #[], rfl, hb, hg, Nat.le_refl _, by unfold maxLen; omega, by simp, by simp⟩⟩, Reps.none _ _⟩
abbrev zM : Array Value := #[.int .i64 0, .bool false, .slice none 0 0, .slice none 0 0]
abbrev fixOf (w : World) (A : Option Addr) (ln lc ver : Nat) (ind : Bool) : MoFix := ⟨w.heap.size + 2, w.heap.size, w.heap.size + 1, ver, ind, #[.slice A ln lc], zM⟩
theorem mo_start (w : World) (A : Option Addr) (ln lc ver : Nat) (ind : Bool) :
    MoW w ((((w.alloc (.cells #[.slice A ln lc] 22)).alloc (.cells zM 27)).alloc (.cells #[.int .i64 ver, .bool ind, .slice none 0 0, .slice none 0 0] 27)).alloc (.cells #[] 4)) (fixOf w A ln lc ver ind) (.slice none 0 0) [] (.slice none 0 0) [] (.slice (some ⟨w.heap.size + 1 + 1 + 1, 0, none⟩) 0 0) [] := by
  have s1 : (w.alloc (.cells #[.slice A ln lc] 22)).heap.size = w.heap.size + 1 := by simp
  have s2 : ((w.alloc (.cells #[.slice A ln lc] 22)).alloc (.cells zM 27)).heap.size = w.heap.size + 2 := by simp
  have s3 : (((w.alloc (.cells #[.slice A ln lc] 22)).alloc (.cells zM 27)).alloc (.cells #[.int .i64 ver, .bool ind, .slice none 0 0, .slice none 0 0] 27)).heap.size = w.heap.size + 3 := by simp
  have b1 := heap_alloc_new w (.cells #[.slice A ln lc] 22)
  have b2 := heap_alloc_new (w.alloc (.cells #[.slice A ln lc] 22)) (.cells zM 27)
  have b3 := heap_alloc_new ((w.alloc (.cells #[.slice A ln lc] 22)).alloc (.cells zM 27)) (.cells #[.int .i64 ver, .bool ind, .slice none 0 0, .slice none 0 0] 27)
  have b4 := heap_alloc_new (((w.alloc (.cells #[.slice A ln lc] 22)).alloc (.cells zM 27)).alloc (.cells #[.int .i64 ver, .bool ind, .slice none 0 0, .slice none 0 0] 27)) (.cells #[] 4)
  rw [s1] at b2
  rw [s2] at b3
  rw [s3] at b4
  refine ⟨Kd.R_nil _ _ _ _ _, Kd.R_nil _ _ _ _ _, row_empty _ b4 (by omega), blk_alloc b3 _, blk_alloc (blk_alloc (blk_alloc b1 _) _) _, blk_alloc (blk_alloc b2 _) _, ?_, by show w.heap.size ≤ w.heap.size + 2; omega, by show w.heap.size + 1 ≠ w.heap.size + 2; omega⟩
  exact ((((Below.refl _ w).alloc (Nat.le_refl _) _).alloc (by omega) _).alloc (by omega) _).alloc (by omega) _
theorem dec_small_ne {i k : Nat} (h : i < k) (hk : k ≤ 9) : decDigits i ≠ decDigits k := by
  have e : ∀ n : Nat, n ≤ 9 → decDigits n = [UInt8.ofNat (48 + n)] := by
    intro n hn
    have : n = 0 ∨ n = 1 ∨ n = 2 ∨ n = 3 ∨ n = 4 ∨ n = 5 ∨ n = 6 ∨ n = 7 ∨ n = 8 ∨ n = 9 := by omega
    rcases this with rfl | rfl | rfl | rfl | rfl | rfl | rfl | rfl | rfl | rfl <;> (rw [decDigits]; rfl)
  rw [e i (by omega), e k hk]
  intro e1
  have e2 : UInt8.ofNat (48 + i) = UInt8.ofNat (48 + k) := by simpa using e1
  have e3 := congrArg UInt8.toNat e2
  simp at e3
  omega
structure Named (alts : List AltR) (k : Nat) : Prop where
  len : alts.length = k
  good : ∀ a ∈ alts, a.Good
  name : ∀ a ∈ alts, ∃ i, i < k ∧ a.name = 110 :: decDigits i
  nd : alts.Nodup
theorem Named.snoc {alts : List AltR} {k : Nat} {a : AltR} (h : Named alts k) (hk : k ≤ 9) (hg : a.Good) (hn : a.name = 110 :: decDigits k) : Named (alts ++ [a]) (k + 1) := by
  refine ⟨by simp [h.len], fun b hb => ?_, fun b hb => ?_, ?_⟩
  · rcases List.mem_append.1 hb with hb | hb
    · exact h.good b hb
    · rw [List.mem_singleton.1 hb]; exact hg
  · rcases List.mem_append.1 hb with hb | hb
    · obtain ⟨i, hi, e⟩ := h.name b hb
      exact ⟨i, by omega, e⟩
    · rw [List.mem_singleton.1 hb]; exact ⟨k, by omega, hn⟩
  · rw [List.nodup_append]
    refine ⟨h.nd, by simp, fun b hb c hc e => ?_⟩
    rw [List.mem_singleton.1 hc] at e
    subst e
    obtain ⟨i, hi, e⟩ := h.name b hb
    rw [hn] at e
    exact dec_small_ne hi hk (by simpa using e.symm)
theorem info44v : (Tryz.prog.info? 44).map (fun i => (i.zero, i.size, i.bytes)) = some (some (.agg zVarB), 13, 144) := by kernel_rfl
theorem info4b : (Tryz.prog.info? 4).map (fun i => (i.zero, i.size, i.bytes)) = some (some (.bool false), 1, 1) := by kernel_rfl
def VAt (wr : World) (g n : Nat) (wx : World) : Prop := ∃ v : VarR, v.Good ∧ v.uri.length ≤ n ∧ Lies wx g 44 (varA v) ∧ Below wr.heap.size wr wx
theorem nat_int (x : Int) (h : 0 ≤ x) : ∃ n : Nat, x = n := ⟨x.toNat, by omega⟩
section
variable {wr wx : World} {g n : Nat} {v : VarR}
theorem vat3 (hg : v.Good) (hu : v.uri.length ≤ n) (hl : Lies wx g 44 (varA v)) (hb : Below wr.heap.size wr wx) (hge : wr.heap.size ≤ g) (x : Int) (hx : 0 ≤ x ∧ x < 4294967296) : VAt wr g n (wx.setCell ⟨g, 3, none⟩ (.int .u32 x)) := by
  obtain ⟨m, rfl⟩ := nat_int x hx.1
  exact ⟨{ v with average := m }, ⟨⟨hg.nums.1, hg.nums.2.1, by have := hx.2; simp; omega, hg.nums.2.2.2⟩, hg.uri, hg.codecs, hg.audio, hg.video, hg.subtitles, hg.captions, hg.name⟩, hu, hl.set 3 _, hb.setCell hge _⟩
theorem vat56 (hg : v.Good) (hu : v.uri.length ≤ n) (hl : Lies wx g 44 (varA v)) (hb : Below wr.heap.size wr wx) (hge : wr.heap.size ≤ g) (x y : Int) (hx : 0 ≤ x ∧ x < 4294967296) (hy : 0 ≤ y ∧ y < 4294967296) : VAt wr g n ((wx.setCell ⟨g, 5, none⟩ (.int .u32 x)).setCell ⟨g, 6, none⟩ (.int .u32 y)) := by
  obtain ⟨m, rfl⟩ := nat_int x hx.1
  obtain ⟨m', rfl⟩ := nat_int y hy.1
  exact ⟨{ v with width := m, height := m' }, ⟨⟨hg.nums.1, hg.nums.2.1, hg.nums.2.2.1, by have := hx.2; simp; omega, by have := hy.2; simp; omega, hg.nums.2.2.2.2.2⟩, hg.uri, hg.codecs, hg.audio, hg.video, hg.subtitles, hg.captions, hg.name⟩, hu, (hl.set 5 _).set 6 _, (hb.setCell hge _).setCell hge _⟩
theorem vat12 (hg : v.Good) (hu : v.uri.length ≤ n) (hl : Lies wx g 44 (varA v)) (hb : Below wr.heap.size wr wx) (hge : wr.heap.size ≤ g) (x : Int) (hx : 0 ≤ x ∧ x < 1001) : VAt wr g n (wx.setCell ⟨g, 12, none⟩ (.int .i64 x)) := by
  obtain ⟨m, rfl⟩ := nat_int x hx.1
  exact ⟨{ v with rate := m }, ⟨⟨hg.nums.1, hg.nums.2.1, hg.nums.2.2.1, hg.nums.2.2.2.1, hg.nums.2.2.2.2.1, by have := hx.2; simp; omega⟩, hg.uri, hg.codecs, hg.audio, hg.video, hg.subtitles, hg.captions, hg.name⟩, hu, hl.set 12 _, hb.setCell hge _⟩
theorem vat0 (hg : v.Good) (hu : v.uri.length ≤ 30) (hl : Lies wx g 44 (varA v)) (hb : Below wr.heap.size wr wx) (hge : wr.heap.size ≤ g) : VAt wr g 40 (wx.setCell ⟨g, 0, none⟩ (.string (bs v.uri ++ (⟨#[63, 120, 61, 49]⟩ : ByteArray)))) := by
  have e : bs v.uri ++ (⟨#[63, 120, 61, 49]⟩ : ByteArray) = bs (v.uri ++ [63, 120, 61, 49]) := by
    rw [show (⟨#[63, 120, 61, 49]⟩ : ByteArray) = bs [63, 120, 61, 49] from rfl, bs_append]
  rw [e]
  refine ⟨{ v with uri := v.uri ++ [63, 120, 61, 49] }, ⟨hg.nums, ⟨⟨by simp, fun c hc => ?_, ?_, ?_⟩, by simp; omega, ?_⟩, hg.codecs, hg.audio, hg.video, hg.subtitles, hg.captions, hg.name⟩, by simp; omega, hl.set 0 _, hb.setCell hge _⟩
  · rcases List.mem_append.1 hc with hc | hc
    · exact hg.uri.1.signs c hc
    · simp only [List.mem_cons, List.not_mem_nil, or_false] at hc
      rcases hc with rfl | rfl | rfl | rfl <;> unfold ValB <;> decide
  · show (v.uri ++ [63, 120, 61, 49]).head? ≠ some 32
    rw [List.head?_append, hg.uri.2.2]; simp
  · show (v.uri ++ [63, 120, 61, 49]).getLast? ≠ some 32
    rw [last_app (by simp)]; simp
  · show (v.uri ++ [63, 120, 61, 49]).head? = some 117
    rw [List.head?_append, hg.uri.2.2]; simp
def VarR.alone (v : VarR) : VarR := ⟨v.uri, v.program, v.bandwidth, v.average, v.codecs, v.width, v.height, [], v.video, [], [], [], 0⟩
theorem vatA (hg : v.Good) (hu : v.uri.length ≤ n) (hl : Lies wx g 44 (varA v)) (hb : Below wr.heap.size wr wx) (hge : wr.heap.size ≤ g) : VAt wr g n (((((((((((((wx.setCell { block := g, off := 0 } (.string (bs v.uri))).setCell { block := g, off := 1 } (.int .u32 v.program)).setCell { block := g, off := 2 } (.int .u32 v.bandwidth)).setCell { block := g, off := 3 } (.int .u32 v.average)).setCell { block := g, off := 4 } (.string (bs v.codecs))).setCell { block := g, off := 5 } (.int .u32 v.width)).setCell { block := g, off := 6 } (.int .u32 v.height)).setCell { block := g, off := 7 } (.string ⟨#[]⟩)).setCell { block := g, off := 8 } (.string (bs v.video))).setCell { block := g, off := 9 } (.string ⟨#[]⟩)).setCell { block := g, off := 10 } (.string ⟨#[]⟩)).setCell { block := g, off := 11 } (.string ⟨#[]⟩)).setCell { block := g, off := 12 } (.int .i64 0)) := by
  refine ⟨v.alone, ⟨⟨hg.nums.1, hg.nums.2.1, hg.nums.2.2.1, hg.nums.2.2.2.1, hg.nums.2.2.2.2.1, by show 0 < 1001; decide⟩, hg.uri, hg.codecs, ⟨.inl rfl, by simp [VarR.alone]⟩, hg.video, ⟨.inl rfl, by simp [VarR.alone]⟩, ⟨.inl rfl, by simp [VarR.alone]⟩, ⟨.inl rfl, by simp [VarR.alone]⟩⟩, hu, ?_, ?_⟩
  · have h' := ((((((((((((hl.set 0 (.string (bs v.uri))).set 1 (.int .u32 v.program)).set 2 (.int .u32 v.bandwidth)).set 3 (.int .u32 v.average)).set 4 (.string (bs v.codecs))).set 5 (.int .u32 v.width)).set 6 (.int .u32 v.height)).set 7 (.string ⟨#[]⟩)).set 8 (.string (bs v.video))).set 9 (.string ⟨#[]⟩)).set 10 (.string ⟨#[]⟩)).set 11 (.string ⟨#[]⟩)).set 12 (.int .i64 0)
    simp only [List.setIfInBounds_toArray, List.set_cons_zero, List.set_cons_succ] at h'
    exact h'
  · exact ((((((((((((hb.setCell hge _).setCell hge _).setCell hge _).setCell hge _).setCell hge _).setCell hge _).setCell hge _).setCell hge _).setCell hge _).setCell hge _).setCell hge _).setCell hge _).setCell hge _
end
def CellsOf (w : World) (g : Nat) (v : VarR) : Prop :=
  (w.cell? ⟨g, 0, none⟩ = some (.string (bs v.uri)) ∧ w.cell? ⟨g, 1, none⟩ = some (.int .u32 v.program) ∧ w.cell? ⟨g, 2, none⟩ = some (.int .u32 v.bandwidth) ∧ w.cell? ⟨g, 3, none⟩ = some (.int .u32 v.average) ∧ w.cell? ⟨g, 4, none⟩ = some (.string (bs v.codecs)) ∧ w.cell? ⟨g, 5, none⟩ = some (.int .u32 v.width) ∧ w.cell? ⟨g, 6, none⟩ = some (.int .u32 v.height) ∧ w.cell? ⟨g, 7, none⟩ = some (.string (bs v.audio)) ∧ w.cell? ⟨g, 8, none⟩ = some (.string (bs v.video)) ∧ w.cell? ⟨g, 9, none⟩ = some (.string (bs v.subtitles)) ∧ w.cell? ⟨g, 10, none⟩ = some (.string (bs v.captions)) ∧ w.cell? ⟨g, 11, none⟩ = some (.string (bs v.name)) ∧ w.cell? ⟨g, 12, none⟩ = some (.int .i64 v.rate)) ∧
  (w.frozen? ⟨g, 0, none⟩ = false ∧ w.frozen? ⟨g, 1, none⟩ = false ∧ w.frozen? ⟨g, 2, none⟩ = false ∧ w.frozen? ⟨g, 3, none⟩ = false ∧ w.frozen? ⟨g, 4, none⟩ = false ∧ w.frozen? ⟨g, 5, none⟩ = false ∧ w.frozen? ⟨g, 6, none⟩ = false ∧ w.frozen? ⟨g, 7, none⟩ = false ∧ w.frozen? ⟨g, 8, none⟩ = false ∧ w.frozen? ⟨g, 9, none⟩ = false ∧ w.frozen? ⟨g, 10, none⟩ = false ∧ w.frozen? ⟨g, 11, none⟩ = false ∧ w.frozen? ⟨g, 12, none⟩ = false)
theorem cells_of {w : World} {g : Nat} {v : VarR} (h : Lies w g 44 (varA v)) : CellsOf w g v :=
  ⟨⟨h.cell 0, h.cell 1, h.cell 2, h.cell 3, h.cell 4, h.cell 5, h.cell 6, h.cell 7, h.cell 8, h.cell 9, h.cell 10, h.cell 11, h.cell 12⟩, h.frozen 0, h.frozen 1, h.frozen 2, h.frozen 3, h.frozen 4, h.frozen 5, h.frozen 6, h.frozen 7, h.frozen 8, h.frozen 9, h.frozen 10, h.frozen 11, h.frozen 12⟩
theorem MoW.fin {w0 wr : World} {F : MoFix} {v2 v3 v7 : Value} {alts : List AltR} {vars : List VarR} {fs : List Bool} (h : MoW w0 wr F v2 alts v3 vars v7 fs) (hgr : w0.heap.size ≤ F.gr) (a b c d : Value) :
    Kd.R k55 55 ((((wr.setCell ⟨F.gr, 0, none⟩ a).setCell ⟨F.gr, 1, none⟩ b).setCell ⟨F.gr, 2, none⟩ c).setCell ⟨F.gr, 3, none⟩ d) w0.heap.size (fun _ => True) v2 (alts.map AltR.s) ∧
    Kd.R k44 44 ((((wr.setCell ⟨F.gr, 0, none⟩ a).setCell ⟨F.gr, 1, none⟩ b).setCell ⟨F.gr, 2, none⟩ c).setCell ⟨F.gr, 3, none⟩ d) w0.heap.size (fun _ => True) v3 (vars.map VarR.s) ∧
    Kd.R Kd.bool 4 ((((wr.setCell ⟨F.gr, 0, none⟩ a).setCell ⟨F.gr, 1, none⟩ b).setCell ⟨F.gr, 2, none⟩ c).setCell ⟨F.gr, 3, none⟩ d) w0.heap.size (fun _ => True) v7 fs ∧
    Below w0.heap.size w0 ((((wr.setCell ⟨F.gr, 0, none⟩ a).setCell ⟨F.gr, 1, none⟩ b).setCell ⟨F.gr, 2, none⟩ c).setCell ⟨F.gr, 3, none⟩ d) := by
  have r1 := blk_set h.r 0 a
  have r2 := blk_set r1 1 b
  have r3 := blk_set r2 2 c
  refine ⟨?_, ?_, ?_, (((h.b.setCell hgr _).setCell hgr _).setCell hgr _).setCell hgr _⟩
  · exact Kd.R_set (Kd.R_set (Kd.R_set (Kd.R_set h.ralts h.r (by decide) 0 a) r1 (by decide) 1 b) r2 (by decide) 2 c) r3 (by decide) 3 d
  · exact Kd.R_set (Kd.R_set (Kd.R_set (Kd.R_set h.rvars h.r (by decide) 0 a) r1 (by decide) 1 b) r2 (by decide) 2 c) r3 (by decide) 3 d
  · exact Kd.R_set (Kd.R_set (Kd.R_set (Kd.R_set h.rfs h.r (by decide) 0 a) r1 (by decide) 1 b) r2 (by decide) 2 c) r3 (by decide) 3 d
def MadeBy (w : World) (e : Ending) (w' : World) : Prop :=
  ∃ (ver : Nat) (ind : Bool) (alts : List AltR) (vars : List VarR) (fs : List Bool) (A2 A3 A4 : Option Addr) (c2 c3 c4 : Nat),
    e = .returned (.tuple #[.agg #[.int .i64 ver, .bool ind, .slice A2 alts.length c2, .slice A3 vars.length c3], .slice A4 fs.length c4]) ∧ ver < 8 ∧ alts.length ≤ 4 ∧ vars.length ≤ 4 ∧ fs.length = vars.length ∧ (∀ a ∈ alts, a.Good) ∧ alts.Nodup ∧ (∀ v ∈ vars, v.Good) ∧
    alts.length ≤ c2 ∧ vars.length ≤ c3 ∧ fs.length ≤ c4 ∧ Kd.C k55 w' A2 alts.length (alts.map AltR.s) ∧ Kd.C k44 w' A3 vars.length (vars.map VarR.s) ∧ Kd.C Kd.bool w' A4 fs.length fs ∧ Below w.heap.size w w'
set_option maxRecDepth 100000 in
set_option maxHeartbeats 4000000 in
theorem masterOf_law (A : Option Addr) (ln lc nn : Nat) (xs : List Int) (w : World) (hC : (Kd.int .u32).C w A ln xs) (hln : ln ≤ lc) (hxs : ∀ x ∈ xs, 0 ≤ x ∧ x < 4294967296) (hn : xs.length = ln) (hl : ln ≤ 100) (hnn : nn < 4294967296) :
    Calls Tryz.prog 4 #[.slice A ln lc, .int .u32 nn] w (MadeBy w) := by
  have HC := Lib.hid hC
  have HXS := Lib.hid hxs
  have HN := Lib.hid hn
  clear hC hxs hn
  go_enter Tryz.func4, Tryz.ntmps4
  go_upto_region 5 with (fail)
  obtain ⟨ver, hver, hvl⟩ : ∃ ver : Nat, (nn : Int) % 8 = ver ∧ ver < 8 := ⟨nn % 8, by omega, by omega⟩
  rw [hver]
  obtain ⟨ind, hind⟩ : ∃ ind, ind = (bits BinOp.and IntKind.u32 ((nn : Int) / 8) 1 == 1) := ⟨_, rfl⟩
  rw [← hind]
  have HM0 := Lib.hid (mo_start w A ln lc ver ind)
  clear hver hind
  obtain ⟨F, hF⟩ : ∃ F, F = fixOf w A ln lc ver ind := ⟨_, rfl⟩
  rw [← hF] at HM0
  have f1 : F.gm = w.heap.size + 1 + 1 := by rw [hF]
  have f2 : F.gb = w.heap.size := by rw [hF]
  have f3 : F.gr = w.heap.size + 1 := by rw [hF]
  have f4 : F.bx = #[.slice A ln lc] := by rw [hF]
  have f5 : F.rz = zM := by rw [hF]
  have f6 : F.ver = ver := by rw [hF]
  have f7 : F.ind = ind := by rw [hF]
  have HF2 := Lib.hid (And.intro f5 (And.intro f6 f7))
  clear f5 f6 f7
  generalize hW : World.alloc _ _ = W0
  have HM1 := HM0
  rw [hW] at HM1
  clear HM0 hW
  have HF := Lib.hid (And.intro f1 (And.intro f2 (And.intro f3 f4)))
  clear f1 f2 f3 f4 hF
  go_wp2_with fail
  obtain ⟨K1, hK1, hK1l⟩ : ∃ K1 : Nat, (nn : Int) / 32 % 5 = K1 ∧ K1 ≤ 4 := ⟨nn / 32 % 5, by omega, by omega⟩
  rw [hK1]
  clear hK1
  go_loopw [30] (fun v30 wx => ∃ (k : Nat) (v2 : Value) (alts : List AltR), v30 = .int .i64 k ∧ k ≤ K1 ∧ Hid (Named alts k) ∧ Hid (MoW w wx F v2 alts (.slice none 0 0) [] (.slice (some ⟨w.heap.size + 1 + 1 + 1, 0, none⟩) 0 0) [])) (fun v30 _ => K1 - (intOf v30).toNat)
  case atStart => exact ⟨0, .slice none 0 0, [], rfl, by omega, Lib.hid ⟨rfl, by simp, by simp, by simp⟩, HM1⟩
  case round =>
    clear HM1
    obtain ⟨k, v2, alts, rfl, hk, HNA, HMW⟩ := hrel
    by_cases hlt : k < K1
    · have HX : Hid (wr.cell? ⟨w.heap.size, 0, none⟩ = some (.slice A ln lc)) := Lib.hid (by
        have h1 := HMW.out.x.cell 0
        rw [HF.out.2.1, HF.out.2.2.2] at h1
        exact h1)
      go_upto_region 9 with (first | (go_at_call 9; refine (at_calls w.heap.size A ln lc k xs _ HX.out (Kd.C_below HC.out HMW.out.b) HXS.out HN.out hl (by omega)).mono ?_; rintro e w1 ⟨h, rfl, hh, nd, rfl⟩))
      refine wp_then (fun Kl hKl _ => ?_)
      go_cut [] from 32 to 79 (fun wx => ∃ (v2' : Value) (a : AltR), a.Good ∧ a.name = 110 :: decDigits k ∧ MoW w wx F v2' (alts ++ [a]) (.slice none 0 0) [] (.slice (some ⟨w.heap.size + 1 + 1 + 1, 0, none⟩) 0 0) [])
      case first =>
        rename_i J K' hJ hK'
        refine region9 h k F v2 (.slice none 0 0) _ alts [] [] rfl (by rw [HF.out.1]; rfl) rfl rfl (by omega) hh (by have := HNA.out.len; omega) (HMW.out.step (pw_below_drewN (Below.refl _ _) nd)) ?_
        intro us w' v2' a ha1 ha2 hmw
        refine hK' _ _ (Met.intro (hJ _ _ ?_))
        repeat apply Exists.intro
        refine ⟨⟨v2', a, ha1, ha2, hmw⟩, rfl⟩
      obtain ⟨v2', a, ha1, ha2, hmw⟩ := hcut
      have HNA2 := Lib.hid (HNA.out.snoc (by omega) ha1 ha2)
      have HMW2 := Lib.hid hmw
      clear ha1 ha2 hmw
      refine hKl _ _ ?_
      go_wp2_with fail
      go_roundw
      case measure => simp [intOf]; omega
      case rel => exact ⟨k + 1, v2', alts ++ [a], by go_num, by omega, HNA2, HMW2⟩
    · obtain rfl : k = K1 := by omega
      go_wp2_with fail
      obtain ⟨K2, hK2, hK2l⟩ : ∃ K2 : Nat, (nn : Int) / 256 % 5 = K2 ∧ K2 ≤ 4 := ⟨nn / 256 % 5, by omega, by omega⟩
      rw [hK2]
      clear hK2
      go_loopw [7, 84] (fun v7 v84 wx => ∃ (j : Nat) (v3 : Value) (vars : List VarR) (fs : List Bool), v84 = .int .i64 j ∧ j ≤ K2 ∧ Hid (vars.length = j) ∧ Hid (fs.length = j) ∧ Hid (∀ v ∈ vars, v.Good) ∧ Hid (MoW w wx F v2 alts v3 vars v7 fs)) (fun _ v84 _ => K2 - (intOf v84).toNat)
      case atStart => exact ⟨0, .slice none 0 0, [], [], rfl, by omega, Lib.hid rfl, Lib.hid rfl, Lib.hid (by simp), HMW⟩
      case round =>
       clear HMW
       obtain ⟨j, v3, vars, fs, rfl, hj, HLV, HLF, HGV, HMW⟩ := hrel
       rename World => wo
       by_cases hjt : j < K2
       · have HX : Hid (wo.cell? ⟨w.heap.size, 0, none⟩ = some (.slice A ln lc)) := Lib.hid (by
           have h1 := HMW.out.x.cell 0
           rw [HF.out.2.1, HF.out.2.2.2] at h1
           exact h1)
         have hw7 : IntKind.i64.wrap ((j : Int) + 7) = ((j + 7 : Nat) : Int) := by rw [IntWalk.i64_in _ (by omega)]; omega
         go_upto_region 15 with (first | (go_at_call 9; refine (at_calls w.heap.size A ln lc (j + 7) xs _ HX.out (Kd.C_below HC.out HMW.out.b) HXS.out HN.out hl (by omega)).mono ?_; rintro e w1 ⟨h, rfl, hh, nd, rfl⟩))
         go_cut [14] from 86 to 199 (fun v14 wx => ∃ g, v14 = .pointer (some ⟨g, 0, none⟩) ∧ wo.heap.size ≤ g ∧ VAt wo g 30 wx)
         case first =>
           rename_i J K' hJ hK'
           refine region15 h rfl rfl rfl hh ?_
           intro us w' g v hv1 hv2 h14 hge hL hB
           refine hK' _ _ (Met.intro (hJ _ _ ?_))
           repeat apply Exists.intro
           refine ⟨⟨g, h14, hge, v, hv1, hv2, hL, below_step (pw_below_drewN (Below.refl _ _) nd) hB⟩, rfl⟩
         obtain ⟨g, rfl, hge, hva⟩ := hcut
         have HVA := Lib.hid hva
         clear hva
         obtain ⟨v, hv1, hv2, hv3, hv4⟩ := HVA.out
         have HVG := Lib.hid hv1
         have HVL := Lib.hid hv3
         have HVB := Lib.hid hv4
         have hcel := cells_of hv3
         clear hv1 hv3 hv4
         obtain ⟨⟨x0, x1, x2, x3, x4, x5, x6, x7, x8, x9, x10, x11, x12⟩, y0, y1, y2, y3, y4, y5, y6, y7, y8, y9, y10, y11, y12⟩ := hcel
         go_upto_if 130 with (fail)
         go_cut [] from 86 to 199 (fun wx => VAt wo g 30 wx)
         case first =>
           go_wp2_with fail
           · go_meet
             case rel => exact vat3 HVG.out hv2 HVL.out HVB.out hge _ (by omega)
           · go_meet
             case rel => exact ⟨v, HVG.out, by omega, HVL.out, HVB.out⟩
         clear HVA HVG HVL HVB hv2 x0 x1 x2 x3 x4 x5 x6 x7 x8 x9 x10 x11 x12 y0 y1 y2 y3 y4 y5 y6 y7 y8 y9 y10 y11 y12
         have HVA := Lib.hid hcut
         clear hcut
         obtain ⟨v, hv1, hv2, hv3, hv4⟩ := HVA.out
         have HVG := Lib.hid hv1
         have HVL := Lib.hid hv3
         have HVB := Lib.hid hv4
         have hcel := cells_of hv3
         clear hv1 hv3 hv4
         obtain ⟨⟨x0, x1, x2, x3, x4, x5, x6, x7, x8, x9, x10, x11, x12⟩, y0, y1, y2, y3, y4, y5, y6, y7, y8, y9, y10, y11, y12⟩ := hcel
         have ht1 : ((h : Int) / 65536).tmod 4000 = (h : Int) / 65536 % 4000 := Int.tmod_eq_emod_of_nonneg (by omega)
         have ht2 : ((h : Int) / 1048576).tmod 3000 = (h : Int) / 1048576 % 3000 := Int.tmod_eq_emod_of_nonneg (by omega)
         go_upto_if 138 with (fail)
         go_cut [] from 86 to 199 (fun wx => VAt wo g 30 wx)
         case first =>
           go_wp2_with fail
           · go_meet
             case rel => exact vat56 HVG.out hv2 HVL.out HVB.out hge _ _ (by omega) (by omega)
           · go_meet
             case rel => exact ⟨v, HVG.out, by omega, HVL.out, HVB.out⟩
         clear HVA HVG HVL HVB hv2 x0 x1 x2 x3 x4 x5 x6 x7 x8 x9 x10 x11 x12 y0 y1 y2 y3 y4 y5 y6 y7 y8 y9 y10 y11 y12
         have HVA := Lib.hid hcut
         clear hcut
         obtain ⟨v, hv1, hv2, hv3, hv4⟩ := HVA.out
         have HVG := Lib.hid hv1
         have HVL := Lib.hid hv3
         have HVB := Lib.hid hv4
         have hcel := cells_of hv3
         clear hv1 hv3 hv4
         obtain ⟨⟨x0, x1, x2, x3, x4, x5, x6, x7, x8, x9, x10, x11, x12⟩, y0, y1, y2, y3, y4, y5, y6, y7, y8, y9, y10, y11, y12⟩ := hcel
         have ht3 : ((h : Int) / 262144).tmod 1000 = (h : Int) / 262144 % 1000 := Int.tmod_eq_emod_of_nonneg (by omega)
         go_upto_if 152 with (fail)
         go_cut [] from 86 to 199 (fun wx => VAt wo g 30 wx)
         case first =>
           go_wp2_with fail
           · go_meet
             case rel => exact vat12 HVG.out hv2 HVL.out HVB.out hge _ (by omega)
           · go_meet
             case rel => exact ⟨v, HVG.out, by omega, HVL.out, HVB.out⟩
         clear HVA HVG HVL HVB hv2 x0 x1 x2 x3 x4 x5 x6 x7 x8 x9 x10 x11 x12 y0 y1 y2 y3 y4 y5 y6 y7 y8 y9 y10 y11 y12
         have HVA := Lib.hid hcut
         clear hcut
         obtain ⟨v, hv1, hv2, hv3, hv4⟩ := HVA.out
         have HVG := Lib.hid hv1
         have HVL := Lib.hid hv3
         have HVB := Lib.hid hv4
         have hcel := cells_of hv3
         clear hv1 hv3 hv4
         obtain ⟨⟨x0, x1, x2, x3, x4, x5, x6, x7, x8, x9, x10, x11, x12⟩, y0, y1, y2, y3, y4, y5, y6, y7, y8, y9, y10, y11, y12⟩ := hcel
         have hsu : (bs v.uri).size ≤ 100 := by rw [bs_size]; omega
         go_upto_if 162 with (fail)
         go_cut [] from 86 to 199 (fun wx => VAt wo g 40 wx)
         case first =>
           go_wp2_with fail
           · go_meet
             case rel => exact vat0 HVG.out hv2 HVL.out HVB.out hge
           · go_meet
             case rel => exact ⟨v, HVG.out, by omega, HVL.out, HVB.out⟩
         clear HVA HVG HVL HVB hv2 x0 x1 x2 x3 x4 x5 x6 x7 x8 x9 x10 x11 x12 y0 y1 y2 y3 y4 y5 y6 y7 y8 y9 y10 y11 y12
         have HVA := Lib.hid hcut
         clear hcut
         go_upto_if 171 with (fail)
         obtain ⟨al, hal⟩ : ∃ al, al = (bits BinOp.and IntKind.u32 ((h : Int) / 2097152) 3 == 1) := ⟨_, rfl⟩
         rw [← hal]
         clear hal
         obtain ⟨v, hv1, hv2, hv3, hv4⟩ := HVA.out
         have HVG := Lib.hid hv1
         have HVL := Lib.hid hv3
         have HVB := Lib.hid hv4
         have hcel := cells_of hv3
         clear hv1 hv3 hv4
         obtain ⟨⟨x0, x1, x2, x3, x4, x5, x6, x7, x8, x9, x10, x11, x12⟩, y0, y1, y2, y3, y4, y5, y6, y7, y8, y9, y10, y11, y12⟩ := hcel
         go_cut [] from 86 to 199 (fun wx => VAt wo g 40 wx)
         case first =>
           go_wp2_with fail
           · go_meet
             case rel => exact vatA HVG.out hv2 HVL.out HVB.out hge
           · go_meet
             case rel => exact ⟨v, HVG.out, by omega, HVL.out, HVB.out⟩
         clear HVA HVG HVL HVB hv2 x0 x1 x2 x3 x4 x5 x6 x7 x8 x9 x10 x11 x12 y0 y1 y2 y3 y4 y5 y6 y7 y8 y9 y10 y11 y12
         have HVA := Lib.hid hcut
         clear hcut
         obtain ⟨v, hv1, hv2, hv3, hv4⟩ := HVA.out
         have HVG := Lib.hid hv1
         have HVL := Lib.hid hv3
         have HVB := Lib.hid hv4
         have hcel := cells_of hv3
         clear hv1 hv3 hv4
         obtain ⟨⟨x0, x1, x2, x3, x4, x5, x6, x7, x8, x9, x10, x11, x12⟩, y0, y1, y2, y3, y4, y5, y6, y7, y8, y9, y10, y11, y12⟩ := hcel
         have hmc := HMW.out.step HVB.out
         have c3 := hmc.m.cell 3
         rw [HF.out.1] at c3
         have HMC := Lib.hid hmc
         have c3' : wc.cell? ⟨w.heap.size + 1 + 1, 3, none⟩ = some v3 := c3
         have hlv4 : vars.length ≤ 10 := by have := HLV.out; omega
         have hlf4 : fs.length ≤ 10 := by have := HLF.out; omega
         clear hmc c3
         go_wp2_with (first
           | ((with_reducible refine gate_builtin (b := .append) (xs := #[.tmp 190, .tmp 192]) rfl ?_); at_builtin; refine Kd.R_append k44 (w0 := w) w.heap.size rfl (.tmp 190) (.tmp 192) 25 44 (.agg zVarB) 144 rfl Tryz.underlying25 info44v rfl (by decide) (by decide) v3 (vars.map VarR.s) v.s [.string (bs v.uri), .int .u32 v.program, .int .u32 v.bandwidth, .int .u32 v.average, .string (bs v.codecs), .int .u32 v.width, .int .u32 v.height, .string (bs v.audio), .string (bs v.video), .string (bs v.subtitles), .string (bs v.captions), .string (bs v.name), .int .i64 v.rate] (fun _ => True) (fun _ => False) rfl rfl ?aP (fun _ hk => hk.elim) ?aF ?aO ?aB ?aS ?aL ?_; (case aP => exact k44_mkM _ _ _ v.s); (case aB => exact HMC.out.b); (case aF => exact fun _ _ => trivial); (case aO => exact HMC.out.rvars); (case aS => exact below_size HMC.out.b); (case aL => simp; omega); intro v31 w12 ho hb hg hat; obtain ⟨A31, c31, e31, _, _⟩ := Kd.R_reads ho; have HL31 : Hid ((vars.map VarR.s ++ [v.s]).length = vars.length + 1) := Lib.hid (by simp); rw [HL31.out] at e31; subst e31; have HO := Lib.hid ho; have HB12 := Lib.hid hb; have HG := Lib.hid hg; clear ho hb hg hat)
           | ((with_reducible refine gate_builtin (b := .append) (xs := #[.tmp 194, .tmp 196]) rfl ?_); at_builtin; refine Kd.R_append Kd.bool (w0 := w) w.heap.size rfl (.tmp 194) (.tmp 196) 28 4 (.bool false) 1 rfl Tryz.underlying28 info4b rfl (by decide) (by decide) u7 fs al [.bool al] (fun _ => True) (fun _ => False) rfl rfl ?aP (fun _ hk => hk.elim) ?aF ?aO ?aB ?aS ?aL ?_; (case aP => rfl); (case aB => exact HB12.out); (case aF => exact fun _ _ => trivial); (case aO => exact Kd.R_grown2 HMC.out.rfs rfl HG.out (rows_ne HMC.out.rvars HMC.out.rfs rfl (by decide))); (case aS => exact below_size HB12.out); (case aL => simp; omega); intro v71 w13 ho hb hg hat; have HVR := Lib.hid (HMC.out.var HO.out HG.out (Below.refl _ _) ho hg); clear ho hb hg hat; have m3 := HVR.out.1.cell 3; have m3f := HVR.out.1.frozen 3; rw [HF.out.1] at m3 m3f; have m3' : w13.cell? ⟨w.heap.size + 1 + 1, 3, none⟩ = some v3 := m3; clear m3))
         go_roundw
         case measure => simp [intOf]; omega
         case rel => exact ⟨j + 1, _, vars ++ [v], fs ++ [al], by go_num, by omega, Lib.hid (by have := HLV.out; simp; omega), Lib.hid (by have := HLF.out; simp; omega), Lib.hid (fun u hu => by
           rcases List.mem_append.1 hu with hu | hu
           · exact HGV.out u hu
           · rw [List.mem_singleton.1 hu]; exact HVG.out), Lib.hid (by have h1 := HVR.out.2; rw [HF.out.1] at h1; exact h1)⟩
       · obtain rfl : j = K2 := by omega
         obtain ⟨A2, c2, e2, hc2, _⟩ := Kd.R_reads HMW.out.ralts
         rw [List.length_map] at e2 hc2
         subst e2
         obtain ⟨A3, c3, e3, hc3, _⟩ := Kd.R_reads HMW.out.rvars
         rw [List.length_map] at e3 hc3
         subst e3
         obtain ⟨A4, c4, e4, hc4, _⟩ := Kd.R_reads HMW.out.rfs
         subst e4
         have hm := HMW.out.m
         have hr := HMW.out.r
         rw [HF.out.1, HF2.out.2.1, HF2.out.2.2] at hm
         rw [HF.out.2.2.1, HF2.out.1] at hr
         have o0 := hm.cell 0
         have o1 := hm.cell 1
         have o2 := hm.cell 2
         have o3 := hm.cell 3
         have r0 := hr.cell 0
         have r1 := hr.cell 1
         have r2 := hr.cell 2
         have r3 := hr.cell 3
         have f0 := hr.frozen 0
         have f1 := hr.frozen 1
         have f2 := hr.frozen 2
         have f3 := hr.frozen 3
         simp only [List.getElem?_toArray, List.getElem?_cons_zero, List.getElem?_cons_succ] at o0 o1 o2 o3 r0 r1 r2 r3
         have hfin := HMW.out.fin (by rw [HF.out.2.2.1]; omega) (.int .i64 ver) (.bool ind) (.slice A2 alts.length c2) (.slice A3 vars.length c3)
         rw [HF.out.2.2.1] at hfin
         have HFIN := Lib.hid hfin
         clear hfin hm hr
         go_wp2_with fail
         refine bodyPost_ret (v := .tuple #[.agg #[.int .i64 ver, .bool ind, .slice A2 alts.length c2, .slice A3 vars.length c3], .slice A4 fs.length c4]) (by simp [results, Tryz.results4, go_sem, r0, r1, r2, r3]) rfl ?_
         have q2 := (Kd.R_reads' HFIN.out.1).2.2
         have q3 := (Kd.R_reads' HFIN.out.2.1).2.2
         have q4 := (Kd.R_reads' HFIN.out.2.2.1).2.2
         rw [List.length_map] at q2 q3
         have l1 := HNA.out.len
         have l2 := HLV.out
         have l3 := HLF.out
         exact ⟨ver, ind, alts, vars, fs, A2, A3, A4, c2, c3, c4, rfl, hvl, by omega, by omega, by omega, HNA.out.good, HNA.out.nd, HGV.out, hc2, hc3, hc4, q2, q3, q4, HFIN.out.2.2.2⟩
end Go.Proofs.YtlghdacdpkaoeaaGreatDoor
