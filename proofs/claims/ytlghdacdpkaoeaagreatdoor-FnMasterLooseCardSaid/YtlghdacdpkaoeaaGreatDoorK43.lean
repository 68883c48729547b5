import Derived.Test.YtlghdacdpkaoeaaGreatDoorK42
import Derived.Test.YtlghdacdpkaoeaaGreatDoorK34
import Derived.Test.YtlghdacdpkaoeaaGreatDoorK39
import Derived.Deep.AppendLies
import Derived.Laws.BitsAllLaws
namespace Go.Proofs.YtlghdacdpkaoeaaGreatDoor
open Go.RowKit Go.Proofs.YtlghdacdpkaoeaaGreatDoorW.PrintWords Go.Maps Go.Proofs.YtlghdacdpkaoeaaGreatDoor.PFnMasterLoose
open Go.Lib hiding intOf
set_option linter.unusedVariables false
set_option linter.unusedSimpArgs false
def LitRow (lits : List (List UInt8)) (v : Value) (w : World) : Prop := ∃ g c, v = .slice (some ⟨g, 0, none⟩) lits.length c ∧ g < w.heap.size ∧ ∀ i (h : i < lits.length), w.cell? ⟨g, i, none⟩ = some (.string (bs lits[i]))
def LitAt (lits : List (List UInt8)) (v : Value) (w : World) : Prop := ∃ g i l, v = .pointer (some ⟨g, i, none⟩) ∧ l ∈ lits ∧ w.cell? ⟨g, i, none⟩ = some (.string (bs l))
def LitOf (lits : List (List UInt8)) (v : Value) (w : World) : Prop := ∃ l ∈ lits, v = .string (bs l)
def IdxOf (n : Nat) (v : Value) (w : World) : Prop := ∃ i : Nat, i < n ∧ v = .int .u32 (i : Int)
def NumOf (v : Value) (w : World) : Prop := ∃ i : Nat, i < 4294967296 ∧ v = .int .u32 (i : Int)
def BoolOf (v : Value) (w : World) : Prop := ∃ b : Bool, v = .bool b
theorem idx_of {n : Nat} {w : World} (x : Int) (h : 0 ≤ x ∧ x < n) : IdxOf n (.int .u32 x) w := ⟨x.toNat, by omega, by rw [show ((x.toNat : Nat) : Int) = x by omega]⟩
theorem num_of {w : World} (x : Int) (h : 0 ≤ x ∧ x < 4294967296) : NumOf (.int .u32 x) w := ⟨x.toNat, by omega, by rw [show ((x.toNat : Nat) : Int) = x by omega]⟩
theorem idx_tmod (n : Nat) {w : World} : IdxOf 3 (.int .u32 ((n : Int).tmod 3)) w := idx_of _ (by rw [Int.tmod_eq_emod_of_nonneg (by omega)]; omega)
theorem u64_small (k : Nat) (h : k ≤ 10) : IntKind.u64.wrap (k : Int) = k := by rw [IntKind.wrap_u64]; omega
theorem nameOut (k : Nat) : Value.string ((⟨#[110]⟩ : ByteArray) ++ bs (decDigits k)) = .string (bs (110 :: decDigits k)) := by
  rw [show (⟨#[110]⟩ : ByteArray) = bs [110] from rfl, bs_append]; rfl
theorem and_one (n : Nat) (h : n < 4294967296) : bits .and .u32 (n : Int) 1 = ((n % 2 : Nat) : Int) := by
  have := u32_and_nat n 1 h (by decide)
  rw [Nat.and_one_is_mod] at this
  exact this
theorem litrow_new (w : World) (lits : List (List UInt8)) (T : TypeId) (c : Nat) : LitRow lits (.slice (some ⟨w.heap.size, 0, none⟩) lits.length c) (w.alloc (.cells (lits.map fun l => Value.string (bs l)).toArray T)) := by
  have h : Lies (w.alloc (.cells (lits.map fun l => Value.string (bs l)).toArray T)) w.heap.size T (lits.map fun l => Value.string (bs l)).toArray := heap_alloc_new w _
  refine ⟨_, _, rfl, h.lt, fun i hi => ?_⟩
  rw [h.cell i]
  simp [hi]
theorem LitRow.below {lits : List (List UInt8)} {v : Value} {w w' : World} (h : LitRow lits v w) (hb : Below w.heap.size w w') : LitRow lits v w' := by
  obtain ⟨g, c, e, hg, hc⟩ := h
  exact ⟨g, c, e, Nat.lt_of_lt_of_le hg hb.size, fun i hi => (hb.cell hg).trans (hc i hi)⟩
theorem LitAt.below {lits : List (List UInt8)} {v : Value} {w w' : World} (h : LitAt lits v w) (hb : Below w.heap.size w w') : LitAt lits v w' := by
  obtain ⟨g, i, l, e, hl, hc⟩ := h
  exact ⟨g, i, l, e, hl, (hb.cell (World.block_lt_of_cell? w _ hc)).trans hc⟩
def lTyp : List (List UInt8) := [[65, 85, 68, 73, 79], [86, 73, 68, 69, 79], [83, 85, 66, 84, 73, 84, 76, 69, 83]]
def lGrp : List (List UInt8) := [[103], [104]]
def lAut : List (List UInt8) := [[], [89, 69, 83], [78, 79]]
def lLng : List (List UInt8) := [[], [101, 110], [100, 101]]
def lUri : List (List UInt8) := [[], [97, 32, 98, 46, 109, 51, 117, 56], [99, 44, 100, 46, 109, 51, 117, 56]]
theorem txt_lit {l : List UInt8} (h : (!l.isEmpty && l.all (fun c => decide (32 ≤ c) && decide (c < 127) && decide (c ≠ 34)) && decide (l.head? ≠ some 32) && decide (l.getLast? ≠ some 32)) = true) : Txt l := by
  simp only [Bool.and_eq_true, decide_eq_true_eq, List.all_eq_true] at h
  refine ⟨fun e => ?_, fun c hc => ?_, h.1.2, h.2⟩
  · subst e; simp at h
  · have := h.1.1.2 c hc
    exact ⟨this.1.1, this.1.2, this.2⟩
theorem txt_name (k : Nat) (hk : k ≤ 10) : Txt (110 :: decDigits k) ∧ (110 :: decDigits k).length ≤ 20 := by
  have h := (txt_dec k).1
  have hl := decDigits_len1 2 k (by omega)
  refine ⟨⟨by simp, fun c hc => ?_, by simp, ?_⟩, by simp; omega⟩
  · rcases List.mem_cons.1 hc with rfl | hc
    · unfold ValB; decide
    · exact h.signs c hc
  · rw [List.getLast?_cons_of_ne_nil h.ne]; exact h.last
theorem alt_good {t g a l u : List UInt8} {k : Nat} {d : Bool} (hk : k ≤ 10) (ht : t ∈ lTyp) (hg : g ∈ lGrp) (ha : a ∈ lAut) (hl : l ∈ lLng) (hu : u ∈ lUri) : AltR.Good ⟨t, g, 110 :: decDigits k, d, a, l, u⟩ := by
  simp only [lTyp, lGrp, lAut, lLng, lUri, List.mem_cons, List.not_mem_nil, or_false] at ht hg ha hl hu
  refine ⟨ht, hg, txt_name k hk, ha, ?_, ?_⟩
  · rcases hl with rfl | rfl | rfl
    · exact ⟨.inl rfl, by simp⟩
    · exact ⟨.inr (show Txt [101, 110] from txt_lit (by decide)), by simp⟩
    · exact ⟨.inr (show Txt [100, 101] from txt_lit (by decide)), by simp⟩
  · rcases hu with rfl | rfl | rfl
    · exact ⟨.inl rfl, by simp⟩
    · exact ⟨.inr (show Txt [97, 32, 98, 46, 109, 51, 117, 56] from txt_lit (by decide)), by simp⟩
    · exact ⟨.inr (show Txt [99, 44, 100, 46, 109, 51, 117, 56] from txt_lit (by decide)), by simp⟩
def AltOf (k : Nat) (v : Value) (w : World) : Prop := ∃ a : AltR, a.Good ∧ a.name = 110 :: decDigits k ∧ v = .agg (altA a)
def AltRow (k : Nat) (v : Value) (w : World) : Prop := ∃ g a, a.Good ∧ a.name = 110 :: decDigits k ∧ v = .slice (some ⟨g, 0, none⟩) 1 1 ∧ Lies w g 55 (altA a)
structure MoFix where
  gm : Nat
  gb : Nat
  gr : Nat
  ver : Nat
  ind : Bool
  bx : Array Value
  rz : Array Value
structure MoW (w0 wr : World) (F : MoFix) (v2 : Value) (alts : List AltR) (v3 : Value) (vars : List VarR) (v7 : Value) (fs : List Bool) : Prop where
  ralts : Kd.R k55 55 wr w0.heap.size (fun _ => True) v2 (alts.map AltR.s)
  rvars : Kd.R k44 44 wr w0.heap.size (fun _ => True) v3 (vars.map VarR.s)
  rfs : Kd.R Kd.bool 4 wr w0.heap.size (fun _ => True) v7 fs
  m : Lies wr F.gm 27 #[.int .i64 F.ver, .bool F.ind, v2, v3]
  x : Lies wr F.gb 22 F.bx
  r : Lies wr F.gr 27 F.rz
  b : Below w0.heap.size w0 wr
  hgm : w0.heap.size ≤ F.gm
  hne : F.gr ≠ F.gm
section
variable {w0 wr w1 : World} {F : MoFix} {v2 v3 v7 v' : Value} {alts : List AltR} {vars : List VarR} {fs : List Bool}
theorem MoW.step (h : MoW w0 wr F v2 alts v3 vars v7 fs) (hb : Below wr.heap.size wr w1) : MoW w0 w1 F v2 alts v3 vars v7 fs :=
  ⟨Kd.R_below h.ralts hb, Kd.R_below h.rvars hb, Kd.R_below h.rfs hb, h.m.below hb, h.x.below hb, h.r.below hb, below_step h.b hb, h.hgm, h.hne⟩
theorem rows_ne {α β : Type} {d : Kd α} {d' : Kd β} {e e' : TypeId} {b b' : Nat} {w : World} {ok ok' : Nat → Prop} {v v' : Value} {xs : List α} {ys : List β} (h : d.R e w b ok v xs) (h' : d'.R e' w b' ok' v' ys) (hE : d.E = []) (hne : e' ≠ e) : ∀ k, v.ownBlock = some k → some k ≠ v'.ownBlock := by
  intro k hk
  obtain ⟨_, _, _, q, hq, cells, hc⟩ := (Kd.R_bound h).1 k hk
  rw [hE, List.mem_singleton] at hq
  subst hq
  exact Kd.R_ne h' hc hne
theorem MoW.low (h : MoW w0 wr F v2 alts v3 vars v7 fs) : (∀ k, v2.ownBlock = some k → w0.heap.size ≤ k) ∧ (∀ k, v3.ownBlock = some k → w0.heap.size ≤ k) ∧ ∀ k, v7.ownBlock = some k → w0.heap.size ≤ k :=
  ⟨fun k hk => ((Kd.R_bound h.ralts).1 k hk).2.1, fun k hk => ((Kd.R_bound h.rvars).1 k hk).2.1, fun k hk => ((Kd.R_bound h.rfs).1 k hk).2.1⟩
theorem MoW.gne (h : MoW w0 wr F v2 alts v3 vars v7 fs) : F.gb ≠ F.gm := blk_ne h.x h.m (by decide)
theorem MoW.alt (h : MoW w0 wr F v2 alts v3 vars v7 fs) {a : AltR} (hR : Kd.R k55 55 w1 w0.heap.size (fun _ => True) v' (alts.map AltR.s ++ [a.s])) (hg : wr.grownBy w1 v2.ownBlock) : Lies w1 F.gm 27 #[.int .i64 F.ver, .bool F.ind, v2, v3] ∧ MoW w0 (w1.setCell ⟨F.gm, 2, none⟩ v') F v' (alts ++ [a]) v3 vars v7 fs := by
  have hm : Lies w1 F.gm 27 #[.int .i64 F.ver, .bool F.ind, v2, v3] := blk_grown h.m hg (Kd.R_ne h.ralts h.m (by decide))
  have hb : Below w0.heap.size w0 w1 := h.b.grown hg h.b.size h.low.1
  have hx : Lies w1 F.gb 22 F.bx := blk_grown h.x hg (Kd.R_ne h.ralts h.x (by decide))
  have hr : Lies w1 F.gr 27 F.rz := blk_grown h.r hg (Kd.R_ne h.ralts h.r (by decide))
  refine ⟨hm, ?_, ?_, ?_, ?_, blk_far hx h.gne _, blk_far hr h.hne _, hb.setCell h.hgm _, h.hgm, h.hne⟩
  · rw [List.map_append]
    exact Kd.R_set hR hm (by decide) 2 v'
  · exact Kd.R_set (Kd.R_grown2 h.rvars rfl hg (rows_ne h.ralts h.rvars rfl (by decide))) hm (by decide) 2 v'
  · exact Kd.R_set (Kd.R_grown2 h.rfs rfl hg (rows_ne h.ralts h.rfs rfl (by decide))) hm (by decide) 2 v'
  · exact hm.set 2 v'
theorem MoW.var {w2 : World} {v3' v7' : Value} {v : VarR} {b : Bool} (h : MoW w0 wr F v2 alts v3 vars v7 fs) (hR : Kd.R k44 44 w1 w0.heap.size (fun _ => True) v3' (vars.map VarR.s ++ [v.s])) (hg : wr.grownBy w1 v3.ownBlock)
    (hB : Below w1.heap.size w1 w2) {w3 : World} (hR7 : Kd.R Kd.bool 4 w3 w0.heap.size (fun _ => True) v7' (fs ++ [b])) (hg7 : w2.grownBy w3 v7.ownBlock) : Lies w3 F.gm 27 #[.int .i64 F.ver, .bool F.ind, v2, v3] ∧ MoW w0 (w3.setCell ⟨F.gm, 3, none⟩ v3') F v2 alts v3' (vars ++ [v]) v7' (fs ++ [b]) := by
  have r7 : Kd.R Kd.bool 4 w2 w0.heap.size (fun _ => True) v7 fs := Kd.R_below (Kd.R_grown2 h.rfs rfl hg (rows_ne h.rvars h.rfs rfl (by decide))) hB
  have m2 : Lies w2 F.gm 27 #[.int .i64 F.ver, .bool F.ind, v2, v3] := (show Lies w1 F.gm 27 _ from blk_grown h.m hg (Kd.R_ne h.rvars h.m (by decide))).below hB
  have x2 : Lies w2 F.gb 22 F.bx := (show Lies w1 F.gb 22 _ from blk_grown h.x hg (Kd.R_ne h.rvars h.x (by decide))).below hB
  have r2 : Lies w2 F.gr 27 F.rz := (show Lies w1 F.gr 27 _ from blk_grown h.r hg (Kd.R_ne h.rvars h.r (by decide))).below hB
  have a2 : Kd.R k55 55 w2 w0.heap.size (fun _ => True) v2 (alts.map AltR.s) := Kd.R_below (Kd.R_grown2 h.ralts rfl hg (rows_ne h.rvars h.ralts rfl (by decide))) hB
  have v2' : Kd.R k44 44 w2 w0.heap.size (fun _ => True) v3' (vars.map VarR.s ++ [v.s]) := Kd.R_below hR hB
  have hm : Lies w3 F.gm 27 #[.int .i64 F.ver, .bool F.ind, v2, v3] := blk_grown m2 hg7 (Kd.R_ne r7 m2 (by decide))
  have hb : Below w0.heap.size w0 w3 := (below_step (h.b.grown hg h.b.size h.low.2.1) hB).grown hg7 (Nat.le_trans (h.b.grown hg h.b.size h.low.2.1).size hB.size) h.low.2.2
  refine ⟨hm, ?_, ?_, ?_, hm.set 3 v3', blk_far (blk_grown x2 hg7 (Kd.R_ne r7 x2 (by decide))) h.gne _, blk_far (blk_grown r2 hg7 (Kd.R_ne r7 r2 (by decide))) h.hne _, hb.setCell h.hgm _, h.hgm, h.hne⟩
  · exact Kd.R_set (Kd.R_grown2 a2 rfl hg7 (rows_ne r7 a2 rfl (by decide))) hm (by decide) 3 v3'
  · rw [List.map_append]
    exact Kd.R_set (Kd.R_grown2 v2' rfl hg7 (rows_ne r7 v2' rfl (by decide))) hm (by decide) 3 v3'
  · exact Kd.R_set hR7 hm (by decide) 3 v3'
end
def SP9 (M h k : Nat) (v2 : Value) : Nat → Value → World → Prop
  | 0, v, _ => v = .pointer (some ⟨M, 2, none⟩)
  | 1, v, _ => v = v2
  | 2, v, w => LitRow lTyp v w
  | 3, v, _ => v = .int .u32 h
  | 4, v, w => IdxOf 3 v w
  | 5, v, w => LitAt lTyp v w
  | 6, v, w => LitOf lTyp v w
  | 7, v, w => LitRow lGrp v w
  | 8, v, _ => v = .int .u32 h
  | 9, v, w => NumOf v w
  | 10, v, w => IdxOf 2 v w
  | 11, v, w => LitAt lGrp v w
  | 12, v, w => LitOf lGrp v w
  | 13, v, _ => v = .int .i64 k
  | 14, v, _ => v = .int .u64 k
  | 15, v, _ => v = .string (bs (decDigits k))
  | 16, v, _ => v = .string (bs (110 :: decDigits k))
  | 17, v, _ => v = .int .u32 h
  | 18, v, w => NumOf v w
  | 19, v, w => NumOf v w
  | 20, v, w => BoolOf v w
  | 21, v, w => LitRow lAut v w
  | 22, v, _ => v = .int .u32 h
  | 23, v, w => NumOf v w
  | 24, v, w => IdxOf 3 v w
  | 25, v, w => LitAt lAut v w
  | 26, v, w => LitOf lAut v w
  | 27, v, w => LitRow lLng v w
  | 28, v, _ => v = .int .u32 h
  | 29, v, w => NumOf v w
  | 30, v, w => IdxOf 3 v w
  | 31, v, w => LitAt lLng v w
  | 32, v, w => LitOf lLng v w
  | 33, v, w => LitRow lUri v w
  | 34, v, _ => v = .int .u32 h
  | 35, v, w => NumOf v w
  | 36, v, w => IdxOf 3 v w
  | 37, v, w => LitAt lUri v w
  | 38, v, w => LitOf lUri v w
  | 39, v, w => AltOf k v w
  | 40, v, w => AltRow k v w
  | _, _, _ => True
theorem SP9_below {M h k : Nat} {v2 : Value} : ∀ j v w w', SP9 M h k v2 j v w → Below w.heap.size w w' → SP9 M h k v2 j v w' := by
  intro j v w w' h hb
  unfold SP9 at h ⊢
  split <;> first | exact h | exact LitRow.below h hb | exact LitAt.below h hb | trivial | (obtain ⟨g, a, h1, h2, h3, h4⟩ := h; exact ⟨g, a, h1, h2, h3, h4.below hb⟩)
set_option maxRecDepth 100000 in
set_option maxHeartbeats 4000000 in
theorem region9 {Q : Exit → Act → World → Prop} {l : List Value} {df : List Deferred} {wb w0 : World} (h k : Nat) (F : MoFix) (v2 v3 v7 : Value) (alts : List AltR) (vars : List VarR) (fs : List Bool) (hlen : l.length = 202) (h6 : l.getD 6 undef = .pointer (some ⟨F.gm, 0, none⟩)) (h10 : l.getD 10 undef = .int .i64 k) (h11 : l.getD 11 undef = .int .u32 h) (hk : k ≤ 10) (hh : h < 4294967296)
    (hna : alts.length ≤ 10) (hW : MoW wb w0 F v2 alts v3 vars v7 fs)
    (hQ : ∀ us w' v2' a, a.Good → a.name = 110 :: decDigits k → MoW wb w' F v2' (alts ++ [a]) v3 vars v7 fs → Q .normal ⟨Fr 202 (mix (fun t => Nat.ble 36 t && Nat.ble t 78) us (fun k => l.getD k undef)), df⟩ w') :
    (regionOf 9 Tryz.f4).wp Tryz.prog Q ⟨l.toArray, df⟩ w0 := by
  have hu64 := u64_small k hk
  have hsk : (bs (decDigits k)).size ≤ 20 := by rw [bs_size]; have := decDigits_len1 2 k (by omega); omega
  have HW := Lib.hid hW
  have HQ := Lib.hid hQ
  clear hW hQ
  show Code.wp Tryz.prog (.region 9 (List.toArray _) true) _ _ _
  rw [Fr_lit, hlen]
  refine region_tbl (N := 41) (by kernel_rfl) (by kernel_rfl) (by kernel_rfl) (by decide) (fun t => Nat.ble 36 t && Nat.ble t 78) (fun j => 36 + j) (SP9 F.gm h k v2) (fun _ w => MoW wb w F v2 alts v3 vars v7 fs) ?_ ?_ ?_ ?_ ?_ ?_
  · intro j hj
    simp; omega
  · intro j k hj hk e
    simp at e; exact e
  · exact SP9_below
  · exact HW.out.step ((Below.refl _ _).drew)
  · refine steps_all (steps_cons ?_ (steps_cons ?_ (steps_cons ?_ (steps_cons ?_ (steps_cons ?_ (steps_cons ?_ (steps_cons ?_ (steps_cons ?_ (steps_cons ?_ (steps_cons ?_ (steps_cons ?_ (steps_cons ?_ (steps_cons ?_ (steps_cons ?_ (steps_cons ?_ (steps_cons ?_ (steps_cons ?_ (steps_cons ?_ (steps_cons ?_ (steps_cons ?_ (steps_cons ?_ (steps_cons ?_ (steps_cons ?_ (steps_cons ?_ (steps_cons ?_ (steps_cons ?_ (steps_cons ?_ (steps_cons ?_ (steps_cons ?_ (steps_cons ?_ (steps_cons ?_ (steps_cons ?_ (steps_cons ?_ (steps_cons ?_ (steps_cons ?_ (steps_cons ?_ (steps_cons ?_ (steps_cons ?_ (steps_cons ?_ (steps_cons ?_ (steps_cons ?_ ?_)))))))))))))))))))))))))))))))))))))))))
    · refine ⟨rfl, fun L us w K a _ hu h0 hw hd hK => ?_⟩
      have e6 := h0 6 (by decide) (by decide)
      rw [h6] at e6
      clear hu h0 hd
      go_simp
      exact hK _ _ (Below.refl _ _) hw rfl
    · refine ⟨rfl, fun L us w K a _ hu h0 hw hd hK => ?_⟩
      have e36 := hu 36 (by decide) (by decide)
      rw [show us 36 = _ from hd 0 (by kernel_rfl)] at e36
      have hc2 : w.cell? ⟨F.gm, 2, none⟩ = some v2 := hw.m.cell 2
      clear hu h0 hd
      go_simp
      exact hK _ _ (Below.refl _ _) hw rfl
    · refine ⟨rfl, fun L us w K a _ hu h0 hw hd hK => ?_⟩
      clear hu h0 hd
      go_simp
      exact hK _ _ ((Below.refl _ w).alloc (Nat.le_refl _) _) (hw.step ((Below.refl _ w).alloc (Nat.le_refl _) _)) (litrow_new w lTyp 9 _)
    · refine ⟨rfl, fun L us w K a _ hu h0 hw hd hK => ?_⟩
      have e11 := h0 11 (by decide) (by decide)
      rw [h11] at e11
      clear hu h0 hd
      go_simp
      exact hK _ _ (Below.refl _ _) hw rfl
    · refine ⟨rfl, fun L us w K a _ hu h0 hw hd hK => ?_⟩
      have e39 := hu 39 (by decide) (by decide)
      rw [show us 39 = _ from hd 3 (by kernel_rfl)] at e39
      clear hu h0 hd
      go_simp
      exact hK _ _ (Below.refl _ _) hw (idx_tmod (w := w) _)
    · refine ⟨rfl, fun L us w K a _ hu h0 hw hd hK => ?_⟩
      obtain ⟨g2, c2, q2, hg2, hc2⟩ : LitRow lTyp (us 38) w := hd 2 (by kernel_rfl)
      have e38 := hu 38 (by decide) (by decide)
      rw [q2] at e38
      obtain ⟨i4, hi4, q4⟩ : IdxOf 3 (us 40) w := hd 4 (by kernel_rfl)
      have e40 := hu 40 (by decide) (by decide)
      rw [q4] at e40
      have hx : i4 < lTyp.length := by have : lTyp.length = 3 := rfl; omega
      clear hu h0 hd
      go_simp
      exact hK _ _ (Below.refl _ _) hw ⟨g2, i4, _, rfl, List.getElem_mem (by have : lTyp.length = 3 := rfl; omega), hc2 i4 (by have : lTyp.length = 3 := rfl; omega)⟩
    · refine ⟨rfl, fun L us w K a _ hu h0 hw hd hK => ?_⟩
      obtain ⟨g5, i5, l5, q5, hl5, hc5⟩ : LitAt lTyp (us 41) w := hd 5 (by kernel_rfl)
      have e41 := hu 41 (by decide) (by decide)
      rw [q5] at e41
      clear hu h0 hd
      go_simp
      exact hK _ _ (Below.refl _ _) hw ⟨_, hl5, rfl⟩
    · refine ⟨rfl, fun L us w K a _ hu h0 hw hd hK => ?_⟩
      clear hu h0 hd
      go_simp
      exact hK _ _ ((Below.refl _ w).alloc (Nat.le_refl _) _) (hw.step ((Below.refl _ w).alloc (Nat.le_refl _) _)) (litrow_new w lGrp 9 _)
    · refine ⟨rfl, fun L us w K a _ hu h0 hw hd hK => ?_⟩
      have e11 := h0 11 (by decide) (by decide)
      rw [h11] at e11
      clear hu h0 hd
      go_simp
      exact hK _ _ (Below.refl _ _) hw rfl
    · refine ⟨rfl, fun L us w K a _ hu h0 hw hd hK => ?_⟩
      have e44 := hu 44 (by decide) (by decide)
      rw [show us 44 = _ from hd 8 (by kernel_rfl)] at e44
      clear hu h0 hd
      go_simp
      exact hK _ _ (Below.refl _ _) hw (num_of (w := w) _ (by first | omega | (constructor <;> omega)))
    · refine ⟨rfl, fun L us w K a _ hu h0 hw hd hK => ?_⟩
      obtain ⟨n9, hn9, q9⟩ : NumOf (us 45) w := hd 9 (by kernel_rfl)
      have e45 := hu 45 (by decide) (by decide)
      rw [q9] at e45
      have ha := and_one n9 hn9
      clear hu h0 hd
      go_simp
      exact hK _ _ (Below.refl _ _) hw (idx_of (w := w) _ (by omega))
    · refine ⟨rfl, fun L us w K a _ hu h0 hw hd hK => ?_⟩
      obtain ⟨g7, c7, q7, hg7, hc7⟩ : LitRow lGrp (us 43) w := hd 7 (by kernel_rfl)
      have e43 := hu 43 (by decide) (by decide)
      rw [q7] at e43
      obtain ⟨i10, hi10, q10⟩ : IdxOf 2 (us 46) w := hd 10 (by kernel_rfl)
      have e46 := hu 46 (by decide) (by decide)
      rw [q10] at e46
      have hx : i10 < lGrp.length := by have : lGrp.length = 2 := rfl; omega
      clear hu h0 hd
      go_simp
      exact hK _ _ (Below.refl _ _) hw ⟨g7, i10, _, rfl, List.getElem_mem (by have : lGrp.length = 2 := rfl; omega), hc7 i10 (by have : lGrp.length = 2 := rfl; omega)⟩
    · refine ⟨rfl, fun L us w K a _ hu h0 hw hd hK => ?_⟩
      obtain ⟨g11, i11, l11, q11, hl11, hc11⟩ : LitAt lGrp (us 47) w := hd 11 (by kernel_rfl)
      have e47 := hu 47 (by decide) (by decide)
      rw [q11] at e47
      clear hu h0 hd
      go_simp
      exact hK _ _ (Below.refl _ _) hw ⟨_, hl11, rfl⟩
    · refine ⟨rfl, fun L us w K a _ hu h0 hw hd hK => ?_⟩
      have e10 := h0 10 (by decide) (by decide)
      rw [h10] at e10
      clear hu h0 hd
      go_simp
      exact hK _ _ (Below.refl _ _) hw rfl
    · refine ⟨rfl, fun L us w K a _ hu h0 hw hd hK => ?_⟩
      have e49 := hu 49 (by decide) (by decide)
      rw [show us 49 = _ from hd 13 (by kernel_rfl)] at e49
      clear hu h0 hd
      go_simp
      exact hK _ _ (Below.refl _ _) hw rfl
    · refine ⟨rfl, fun L us w K a _ hu h0 hw hd hK => ?_⟩
      have e50 := hu 50 (by decide) (by decide)
      rw [show us 50 = _ from hd 14 (by kernel_rfl)] at e50
      clear hu h0 hd
      go_simp
      go_at_call 11
      refine (Decimal_calls 3 _ k _ (Lib.hid rfl) (Lib.hid (by omega)) (by unfold U64; omega)).mono ?_
      rintro e w2 ⟨rfl, nd, rfl⟩
      exact hK _ _ (pw_below_drewN (Below.refl _ _) nd) (hw.step (pw_below_drewN (Below.refl _ _) nd)) rfl
    · refine ⟨rfl, fun L us w K a _ hu h0 hw hd hK => ?_⟩
      have e51 := hu 51 (by decide) (by decide)
      rw [show us 51 = _ from hd 15 (by kernel_rfl)] at e51
      have hns : ¬ 9223372036854775807 < 1 + (bs (decDigits k)).size := by omega
      clear hu h0 hd
      go_simp
      exact hK _ _ (Below.refl _ _) hw (nameOut k)
    · refine ⟨rfl, fun L us w K a _ hu h0 hw hd hK => ?_⟩
      have e11 := h0 11 (by decide) (by decide)
      rw [h11] at e11
      clear hu h0 hd
      go_simp
      exact hK _ _ (Below.refl _ _) hw rfl
    · refine ⟨rfl, fun L us w K a _ hu h0 hw hd hK => ?_⟩
      have e53 := hu 53 (by decide) (by decide)
      rw [show us 53 = _ from hd 17 (by kernel_rfl)] at e53
      clear hu h0 hd
      go_simp
      exact hK _ _ (Below.refl _ _) hw (num_of (w := w) _ (by omega))
    · refine ⟨rfl, fun L us w K a _ hu h0 hw hd hK => ?_⟩
      obtain ⟨n18, hn18, q18⟩ : NumOf (us 54) w := hd 18 (by kernel_rfl)
      have e54 := hu 54 (by decide) (by decide)
      rw [q18] at e54
      have ha := and_one n18 hn18
      clear hu h0 hd
      go_simp
      exact hK _ _ (Below.refl _ _) hw (num_of (w := w) _ (by omega))
    · refine ⟨rfl, fun L us w K a _ hu h0 hw hd hK => ?_⟩
      obtain ⟨n19, hn19, q19⟩ : NumOf (us 55) w := hd 19 (by kernel_rfl)
      have e55 := hu 55 (by decide) (by decide)
      rw [q19] at e55
      clear hu h0 hd
      go_simp
      exact hK _ _ (Below.refl _ _) hw ⟨_, rfl⟩
    · refine ⟨rfl, fun L us w K a _ hu h0 hw hd hK => ?_⟩
      clear hu h0 hd
      go_simp
      exact hK _ _ ((Below.refl _ w).alloc (Nat.le_refl _) _) (hw.step ((Below.refl _ w).alloc (Nat.le_refl _) _)) (litrow_new w lAut 9 _)
    · refine ⟨rfl, fun L us w K a _ hu h0 hw hd hK => ?_⟩
      have e11 := h0 11 (by decide) (by decide)
      rw [h11] at e11
      clear hu h0 hd
      go_simp
      exact hK _ _ (Below.refl _ _) hw rfl
    · refine ⟨rfl, fun L us w K a _ hu h0 hw hd hK => ?_⟩
      have e58 := hu 58 (by decide) (by decide)
      rw [show us 58 = _ from hd 22 (by kernel_rfl)] at e58
      clear hu h0 hd
      go_simp
      exact hK _ _ (Below.refl _ _) hw (num_of (w := w) _ (by first | omega | (constructor <;> omega)))
    · refine ⟨rfl, fun L us w K a _ hu h0 hw hd hK => ?_⟩
      obtain ⟨n23, hn23, q23⟩ : NumOf (us 59) w := hd 23 (by kernel_rfl)
      have e59 := hu 59 (by decide) (by decide)
      rw [q23] at e59
      clear hu h0 hd
      go_simp
      exact hK _ _ (Below.refl _ _) hw (idx_tmod (w := w) _)
    · refine ⟨rfl, fun L us w K a _ hu h0 hw hd hK => ?_⟩
      obtain ⟨g21, c21, q21, hg21, hc21⟩ : LitRow lAut (us 57) w := hd 21 (by kernel_rfl)
      have e57 := hu 57 (by decide) (by decide)
      rw [q21] at e57
      obtain ⟨i24, hi24, q24⟩ : IdxOf 3 (us 60) w := hd 24 (by kernel_rfl)
      have e60 := hu 60 (by decide) (by decide)
      rw [q24] at e60
      have hx : i24 < lAut.length := by have : lAut.length = 3 := rfl; omega
      clear hu h0 hd
      go_simp
      exact hK _ _ (Below.refl _ _) hw ⟨g21, i24, _, rfl, List.getElem_mem (by have : lAut.length = 3 := rfl; omega), hc21 i24 (by have : lAut.length = 3 := rfl; omega)⟩
    · refine ⟨rfl, fun L us w K a _ hu h0 hw hd hK => ?_⟩
      obtain ⟨g25, i25, l25, q25, hl25, hc25⟩ : LitAt lAut (us 61) w := hd 25 (by kernel_rfl)
      have e61 := hu 61 (by decide) (by decide)
      rw [q25] at e61
      clear hu h0 hd
      go_simp
      exact hK _ _ (Below.refl _ _) hw ⟨_, hl25, rfl⟩
    · refine ⟨rfl, fun L us w K a _ hu h0 hw hd hK => ?_⟩
      clear hu h0 hd
      go_simp
      exact hK _ _ ((Below.refl _ w).alloc (Nat.le_refl _) _) (hw.step ((Below.refl _ w).alloc (Nat.le_refl _) _)) (litrow_new w lLng 9 _)
    · refine ⟨rfl, fun L us w K a _ hu h0 hw hd hK => ?_⟩
      have e11 := h0 11 (by decide) (by decide)
      rw [h11] at e11
      clear hu h0 hd
      go_simp
      exact hK _ _ (Below.refl _ _) hw rfl
    · refine ⟨rfl, fun L us w K a _ hu h0 hw hd hK => ?_⟩
      have e64 := hu 64 (by decide) (by decide)
      rw [show us 64 = _ from hd 28 (by kernel_rfl)] at e64
      clear hu h0 hd
      go_simp
      exact hK _ _ (Below.refl _ _) hw (num_of (w := w) _ (by first | omega | (constructor <;> omega)))
    · refine ⟨rfl, fun L us w K a _ hu h0 hw hd hK => ?_⟩
      obtain ⟨n29, hn29, q29⟩ : NumOf (us 65) w := hd 29 (by kernel_rfl)
      have e65 := hu 65 (by decide) (by decide)
      rw [q29] at e65
      clear hu h0 hd
      go_simp
      exact hK _ _ (Below.refl _ _) hw (idx_tmod (w := w) _)
    · refine ⟨rfl, fun L us w K a _ hu h0 hw hd hK => ?_⟩
      obtain ⟨g27, c27, q27, hg27, hc27⟩ : LitRow lLng (us 63) w := hd 27 (by kernel_rfl)
      have e63 := hu 63 (by decide) (by decide)
      rw [q27] at e63
      obtain ⟨i30, hi30, q30⟩ : IdxOf 3 (us 66) w := hd 30 (by kernel_rfl)
      have e66 := hu 66 (by decide) (by decide)
      rw [q30] at e66
      have hx : i30 < lLng.length := by have : lLng.length = 3 := rfl; omega
      clear hu h0 hd
      go_simp
      exact hK _ _ (Below.refl _ _) hw ⟨g27, i30, _, rfl, List.getElem_mem (by have : lLng.length = 3 := rfl; omega), hc27 i30 (by have : lLng.length = 3 := rfl; omega)⟩
    · refine ⟨rfl, fun L us w K a _ hu h0 hw hd hK => ?_⟩
      obtain ⟨g31, i31, l31, q31, hl31, hc31⟩ : LitAt lLng (us 67) w := hd 31 (by kernel_rfl)
      have e67 := hu 67 (by decide) (by decide)
      rw [q31] at e67
      clear hu h0 hd
      go_simp
      exact hK _ _ (Below.refl _ _) hw ⟨_, hl31, rfl⟩
    · refine ⟨rfl, fun L us w K a _ hu h0 hw hd hK => ?_⟩
      clear hu h0 hd
      go_simp
      exact hK _ _ ((Below.refl _ w).alloc (Nat.le_refl _) _) (hw.step ((Below.refl _ w).alloc (Nat.le_refl _) _)) (litrow_new w lUri 9 _)
    · refine ⟨rfl, fun L us w K a _ hu h0 hw hd hK => ?_⟩
      have e11 := h0 11 (by decide) (by decide)
      rw [h11] at e11
      clear hu h0 hd
      go_simp
      exact hK _ _ (Below.refl _ _) hw rfl
    · refine ⟨rfl, fun L us w K a _ hu h0 hw hd hK => ?_⟩
      have e70 := hu 70 (by decide) (by decide)
      rw [show us 70 = _ from hd 34 (by kernel_rfl)] at e70
      clear hu h0 hd
      go_simp
      exact hK _ _ (Below.refl _ _) hw (num_of (w := w) _ (by first | omega | (constructor <;> omega)))
    · refine ⟨rfl, fun L us w K a _ hu h0 hw hd hK => ?_⟩
      obtain ⟨n35, hn35, q35⟩ : NumOf (us 71) w := hd 35 (by kernel_rfl)
      have e71 := hu 71 (by decide) (by decide)
      rw [q35] at e71
      clear hu h0 hd
      go_simp
      exact hK _ _ (Below.refl _ _) hw (idx_tmod (w := w) _)
    · refine ⟨rfl, fun L us w K a _ hu h0 hw hd hK => ?_⟩
      obtain ⟨g33, c33, q33, hg33, hc33⟩ : LitRow lUri (us 69) w := hd 33 (by kernel_rfl)
      have e69 := hu 69 (by decide) (by decide)
      rw [q33] at e69
      obtain ⟨i36, hi36, q36⟩ : IdxOf 3 (us 72) w := hd 36 (by kernel_rfl)
      have e72 := hu 72 (by decide) (by decide)
      rw [q36] at e72
      have hx : i36 < lUri.length := by have : lUri.length = 3 := rfl; omega
      clear hu h0 hd
      go_simp
      exact hK _ _ (Below.refl _ _) hw ⟨g33, i36, _, rfl, List.getElem_mem (by have : lUri.length = 3 := rfl; omega), hc33 i36 (by have : lUri.length = 3 := rfl; omega)⟩
    · refine ⟨rfl, fun L us w K a _ hu h0 hw hd hK => ?_⟩
      obtain ⟨g37, i37, l37, q37, hl37, hc37⟩ : LitAt lUri (us 73) w := hd 37 (by kernel_rfl)
      have e73 := hu 73 (by decide) (by decide)
      rw [q37] at e73
      clear hu h0 hd
      go_simp
      exact hK _ _ (Below.refl _ _) hw ⟨_, hl37, rfl⟩
    · refine ⟨rfl, fun L us w K a _ hu h0 hw hd hK => ?_⟩
      obtain ⟨l6, hl6, q6⟩ : LitOf lTyp (us 42) w := hd 6 (by kernel_rfl)
      have e42 := hu 42 (by decide) (by decide)
      rw [q6] at e42
      obtain ⟨l12, hl12, q12⟩ : LitOf lGrp (us 48) w := hd 12 (by kernel_rfl)
      have e48 := hu 48 (by decide) (by decide)
      rw [q12] at e48
      have e52 := hu 52 (by decide) (by decide)
      rw [show us 52 = _ from hd 16 (by kernel_rfl)] at e52
      obtain ⟨b20, q20⟩ : BoolOf (us 56) w := hd 20 (by kernel_rfl)
      have e56 := hu 56 (by decide) (by decide)
      rw [q20] at e56
      obtain ⟨l26, hl26, q26⟩ : LitOf lAut (us 62) w := hd 26 (by kernel_rfl)
      have e62 := hu 62 (by decide) (by decide)
      rw [q26] at e62
      obtain ⟨l32, hl32, q32⟩ : LitOf lLng (us 68) w := hd 32 (by kernel_rfl)
      have e68 := hu 68 (by decide) (by decide)
      rw [q32] at e68
      obtain ⟨l38, hl38, q38⟩ : LitOf lUri (us 74) w := hd 38 (by kernel_rfl)
      have e74 := hu 74 (by decide) (by decide)
      rw [q38] at e74
      clear hu h0 hd
      go_simp
      exact hK _ _ (Below.refl _ _) hw ⟨⟨l6, l12, 110 :: decDigits k, b20, l26, l32, l38⟩, alt_good hk hl6 hl12 hl26 hl32 hl38, rfl, rfl⟩
    · refine ⟨rfl, fun L us w K a _ hu h0 hw hd hK => ?_⟩
      obtain ⟨a39, ga39, na39, q39⟩ : AltOf k (us 75) w := hd 39 (by kernel_rfl)
      have e75 := hu 75 (by decide) (by decide)
      rw [q39] at e75
      have NA := Lib.hid na39
      clear na39
      clear hu h0 hd
      go_simp
      exact hK _ _ ((Below.refl _ w).alloc (Nat.le_refl _) _) (hw.step ((Below.refl _ w).alloc (Nat.le_refl _) _)) ⟨_, a39, ga39, NA.out, rfl, heap_alloc_new w _⟩
    · exact steps_stop (by decide)
  · intro _ us w _ hw ht
    have t1 : us 37 = v2 := ht 1 (by decide)
    obtain ⟨g, a, ha1, ha2, hv40, hrow⟩ : AltRow k (us 76) w := ht 40 (by decide)
    have HMW := Lib.hid hw
    have HROW := Lib.hid hrow
    clear ht hw hrow
    show wpTail _ _ [_, _, _] _ _
    refine ⟨rfl, ?_⟩
    obtain ⟨ia, iai, iaz, ias, iab⟩ := info_parts info55
    obtain ⟨hR0, inner, hown, hrr⟩ := HMW.out.ralts
    refine wp_append_lies w (.tmp 37) (.tmp 76) 24 rfl wb.heap.size 55 ia _ 7 104 Tryz.underlying24 iai iaz ias iab rfl (by decide) v2 _ inner ((eval_tmp _ _).trans ((mix_get (by decide) rfl).trans t1)) hown ⟨g, 0, none⟩ 1 1 (altA a).toList ((eval_tmp _ _).trans ((mix_get (by decide) rfl).trans hv40)) rfl ?_ ?_ (by decide) ?_ ?_ (below_size HMW.out.b) _ rfl ?_
    · exact World.news_of_block (cs := altA a) (t := 55) (fr := (0, 0)) HROW.out
    · simp [altA, Value.oneCell']
    · unfold maxLen; simp; omega
    · simp; omega
    · intro g' cap w1 hown1 hg1 hat hlt
      have hR := Kd.R_appended (d := k55) (okp := fun _ => False) hR0 hrr (k55_mkM _ _ _ a.s) (fun _ hk => hk.elim) (fun _ _ => trivial) hown1 hg1 (by
        rcases hat with h1 | h1
        · exact .inl h1.symm
        · exact .inr ⟨g', rfl, by omega⟩)
      obtain ⟨hm1, hW1⟩ := HMW.out.alt hR hg1
      have HM1 := Lib.hid hm1
      have HW1 := Lib.hid hW1
      clear hm1 hW1 hR hown1 hg1 hat hlt hown hrr hR0 hv40 t1 iai iaz ias iab
      show wpTail _ _ [_, _] ((⟨Fr 202 (mix _ us _), df⟩ : Act).put (some 77) _) _
      rw [tail_put rfl]
      refine ⟨rfl, ?_⟩
      obtain ⟨G, hF⟩ : ∃ G, G = Fr 202 (mix (fun t => Nat.ble 36 t && Nat.ble t 78) (upd us 77 (.slice (some ⟨g', 0, none⟩) ((alts.map AltR.s).length + 1) cap)) (fun k => l.getD k undef)) := ⟨_, rfl⟩
      rw [← hF]
      have e6 : G[6]?.getD undef = .pointer (some ⟨F.gm, 0, none⟩) := by rw [hF]; exact (mix_get0 (by decide) rfl).trans h6
      have HF := Lib.hid hF
      clear hF
      go_simp
      show wpTail _ _ [_] ((⟨G, df⟩ : Act).put (some 78) _) _
      rw [HF.out, tail_put rfl]
      refine ⟨rfl, ?_⟩
      clear e6 HF G
      obtain ⟨G, hF⟩ : ∃ G, G = Fr 202 (mix (fun t => Nat.ble 36 t && Nat.ble t 78) (upd (upd us 77 (.slice (some ⟨g', 0, none⟩) ((alts.map AltR.s).length + 1) cap)) 78 (.pointer (some ⟨F.gm, 2, none⟩))) (fun k => l.getD k undef)) := ⟨_, rfl⟩
      rw [← hF]
      have e77 : G[77]?.getD undef = .slice (some ⟨g', 0, none⟩) ((alts.map AltR.s).length + 1) cap := by rw [hF]; exact mix_get (by decide) rfl
      have e78 : G[78]?.getD undef = .pointer (some ⟨F.gm, 2, none⟩) := by rw [hF]; exact mix_get (by decide) rfl
      have hc2 : w1.cell? ⟨F.gm, 2, none⟩ = some v2 := HM1.out.cell 2
      have hf2 := HM1.out.frozen 2
      have HF := Lib.hid hF
      clear hF
      go_simp
      rw [HF.out]
      have h1 := HW1.out
      rw [List.length_map] at h1
      exact HQ.out _ _ _ a ha1 ha2 h1
end Go.Proofs.YtlghdacdpkaoeaaGreatDoor
