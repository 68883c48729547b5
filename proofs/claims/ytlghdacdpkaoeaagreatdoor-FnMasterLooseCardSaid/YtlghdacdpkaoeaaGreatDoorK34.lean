import Derived.Test.YtlghdacdpkaoeaaGreatDoorK33
import Derived.Test.YtlghdacdpkaoeaaGreatDoorK02
import Derived.Deep.RegionHeld3
import Derived.Below
section
namespace Go.Proofs.YtlghdacdpkaoeaaGreatDoor
open Go.RowKit Go.Proofs.YtlghdacdpkaoeaaGreatDoorW.PrintWords Go.Maps
open Go.Lib hiding intOf
set_option linter.unusedVariables false
set_option linter.unusedSimpArgs false
theorem run_store_float (P : Program) (w : World) (a : Addr) (k : FloatKind) (n : Nat) (m : Mode) :
    (store a (.float k n) m).run P w = match w.cell? a with
      | some _ => if w.frozen? a then .halt (.unsupported (.unsafePointer "a write to bytes that a string shares")) w else .ok () (w.setCell a (.float k n))
      | none => match w.farStore P a (.float k n) (m == .atomic) with
        | .ok (w', _) => .ok () w'
        | .error h => .halt h w := run_store P w a _ m rfl
attribute [local go_sem] run_store_float
def zVar : Value := .agg #[.string ⟨#[]⟩, .int .u32 0, .int .u32 0, .int .u32 0, .string ⟨#[]⟩, .string ⟨#[]⟩, .string ⟨#[]⟩, .string ⟨#[]⟩, .string ⟨#[]⟩, .string ⟨#[]⟩, .string ⟨#[]⟩, .bool false, .string ⟨#[]⟩, .string ⟨#[]⟩, .float .f64 0, .slice none 0 0]
def zAlt : Value := .agg #[.string ⟨#[]⟩, .string ⟨#[]⟩, .string ⟨#[]⟩, .string ⟨#[]⟩, .string ⟨#[]⟩, .bool false, .string ⟨#[]⟩, .string ⟨#[]⟩, .string ⟨#[]⟩, .string ⟨#[]⟩]
theorem infoIV : (Tryz.prog.info? 41).map (fun i => (i.zero, i.size, i.bytes)) = some (some zVar, 16, 216) := by kernel_rfl
theorem infoIA : (Tryz.prog.info? 46).map (fun i => (i.zero, i.size, i.bytes)) = some (some zAlt, 10, 152) := by kernel_rfl
def altVals (a : AltR) : List Value := (altC a).toList
def varVals (x : VarS) (asl : Value) : List Value := x.cells.toList.take 1 ++ (x.cells.toList.drop 2).take 14 ++ [asl]
def attL (alts : List AltR) (x : VarS) : List AltR := alts.filter fun a => x.v.has a
structure ResAt (B : Nat) (w : World) (s : RS) (sl : Value) : Prop where
  ex : ∃ ps : List (VarS × Value), ps.map Prod.fst = s.vars ∧ w.ownsRow B 41 16 sl ps.length (ps.flatMap fun p => varVals p.1 p.2) ∧ ∀ p ∈ ps, w.ownsRow B 46 10 p.2 (attL s.alts p.1).length ((attL s.alts p.1).flatMap altVals)
theorem Version_calls (P : Nat) (ver : Int) (w : World) (h : w.cell? ⟨P, 6, none⟩ = some (.int .u8 ver)) : Calls Tryz.prog 31 #[.pointer (some ⟨P, 0, none⟩)] w fun e w' => e = .returned (.int .u8 ver) ∧ w' = w := by
  go_enter Tryz.func31, Tryz.ntmps31
  go_wp2
  go_ret
  exact ⟨rfl, rfl⟩
theorem Indep_calls (P : Nat) (ind : Bool) (w : World) (h : w.cell? ⟨P, 7, none⟩ = some (.bool ind)) : Calls Tryz.prog 32 #[.pointer (some ⟨P, 0, none⟩)] w fun e w' => e = .returned (.bool ind) ∧ w' = w := by
  go_enter Tryz.func32, Tryz.ntmps32
  go_wp2
  go_ret
  exact ⟨rfl, rfl⟩
theorem two_lies (w : World) (c1 c2 : Array Value) (T : TypeId) : Lies (((w.alloc (.cells c1 T)).alloc (.cells c2 T)).drew) w.heap.size T c1 ∧ Lies (((w.alloc (.cells c1 T)).alloc (.cells c2 T)).drew) (w.heap.size + 1) T c2 ∧ Below w.heap.size w (((w.alloc (.cells c1 T)).alloc (.cells c2 T)).drew) := by
  have h1 : Lies (w.alloc (.cells c1 T)) w.heap.size T c1 := heap_alloc_new w _
  have h2 : Lies ((w.alloc (.cells c1 T)).alloc (.cells c2 T)) (w.alloc (.cells c1 T)).heap.size T c2 := heap_alloc_new _ _
  have e : (w.alloc (.cells c1 T)).heap.size = w.heap.size + 1 := by simp
  rw [e] at h2
  exact ⟨(h1.alloc _).below ((Below.refl _ _).drew), h2.below ((Below.refl _ _).drew), (((Below.refl _ w).alloc (Nat.le_refl _) _).alloc (by simp) _).drew⟩
theorem VarS.shape (x : VarS) : ∃ a0 n2 n3 n4 a5 a6 a7 a8 a9 a10 a11 b12 a13 a14 r15, x.cells = #[.string a0, .pointer none, .int .u32 n2, .int .u32 n3, .int .u32 n4, .string a5, .string a6, .string a7, .string a8, .string a9, .string a10, .string a11, .bool b12, .string a13, .string a14, .float .f64 r15, .slice none 0 0] := by
  unfold VarS.cells
  split
  · exact ⟨_, _, _, _, _, _, _, _, _, _, _, _, _, _, _, rfl⟩
  · exact ⟨_, _, _, _, _, _, _, _, _, _, _, _, _, _, _, rfl⟩
theorem alt_shape (a : AltR) : ∃ b0 b1 b2 b3 b4 b5 b6, altC a = #[.string b0, .string b1, .string b2, .string b3, .string b4, .bool b5, .string b6, .string ⟨#[]⟩, .string ⟨#[]⟩, .string ⟨#[]⟩] := ⟨_, _, _, _, _, _, _, rfl⟩
def InSt (wo : World) (c : List Value) (L : List (Nat × AltR)) (j : Nat) (wi : World) : Prop :=
  ∃ asl, Hid (Lies wi wo.heap.size 41 (c ++ [asl]).toArray) ∧ Hid (wi.ownsRow wo.heap.size 46 10 asl j ((L.take j).flatMap fun q => altVals q.2)) ∧ Hid (Below wo.heap.size wo wi)
theorem xcell15 {c : List Value} {u : Value} (h : c.length = 15) : (c ++ [u]).toArray[15]? = some u := by
  rw [List.getElem?_toArray, List.getElem?_append_right (by omega), h]; rfl
theorem row_other {w : World} {V n N sz : Nat} {e T : TypeId} {c : Array Value} {sl : Value} {xs : List Value} (hr : w.ownsRow N e sz sl n xs) (h : Lies w V T c) (hne : e ≠ T) : ∀ g, sl.ownBlock = some g → g ≠ V := fun g hg => by
  rcases hr.2 with ⟨rfl, _⟩ | ⟨g', cap, cu, rfl, _, hh, _⟩
  · cases hg
  · cases hg
    exact (show Lies w g' e cu from hh).ne h hne
structure OutSt (w : World) (s : RS) (As : List (Nat × AltR)) (Vs : List (Nat × VarS)) (k : Nat) (wr : World) : Prop where
  frame : Below w.heap.size w wr
  res : Lies wr w.heap.size 34 #[.slice none 0 0, .string ⟨#[]⟩, .int .i64 0, .bool false]
  ex : ∃ (sl : Value) (ps : List (VarS × Value)), Lies wr (w.heap.size + 1) 34 #[sl, .string ⟨#[]⟩, .int .i64 s.ver, .bool s.ind] ∧ ps.map Prod.fst = (Vs.take k).map Prod.snd ∧ wr.ownsRow w.heap.size 41 16 sl ps.length (ps.flatMap fun p => varVals p.1 p.2) ∧ ∀ p ∈ ps, wr.ownsRow w.heap.size 46 10 p.2 (attOf As p.1).length ((attOf As p.1).flatMap fun q => altVals q.2)
theorem OutSt.start {w wr : World} {s : RS} {As : List (Nat × AltR)} {Vs : List (Nat × VarS)} (hR : Lies wr w.heap.size 34 #[.slice none 0 0, .string ⟨#[]⟩, .int .i64 0, .bool false]) (hO : Lies wr (w.heap.size + 1) 34 #[.slice none 0 0, .string ⟨#[]⟩, .int .i64 s.ver, .bool s.ind]) (hb : Below w.heap.size w wr) : OutSt w s As Vs 0 wr :=
  ⟨hb, hR, .slice none 0 0, [], hO, by simp, World.ownsRow_nil _ _ _ _, by simp⟩
theorem set15 {c : List Value} {u v : Value} (h : c.length = 15) : (c ++ [u]).toArray.setIfInBounds 15 v = (c ++ [v]).toArray := by
  rw [List.setIfInBounds_toArray, List.set_append_right _ _ (by omega), h]; rfl
theorem grown_row {w w1 : World} {o : Obj} {row : Option Nat} {N sz n : Nat} {e : TypeId} {u : Value} {xs : List Value} (h : w.ownsRow N e sz u n xs) (hg : (w.alloc o).grownBy w1 row) (hr : ∀ g, row = some g → u.ownBlock ≠ some g) : w1.ownsRow N e sz u n xs := by
  refine ⟨h.1, ?_⟩
  rcases h.2 with h | ⟨g, cap, cu, hv, h0, hh, hrr⟩
  · exact .inl h
  · have hl : Lies w g e cu := hh
    have h1 : Lies (w.alloc o) g e cu := hl.alloc o
    refine .inr ⟨g, cap, cu, hv, h0, h1.grown hg (fun e => hr g e.symm (by rw [hv]; rfl)), hrr⟩
theorem row_ne {w : World} {N M sz sz' n m : Nat} {e e' : TypeId} {u v : Value} {xs ys : List Value} (h : w.ownsRow N e sz u n xs) (h' : w.ownsRow M e' sz' v m ys) (hne : e ≠ e') : ∀ g, u.ownBlock = some g → v.ownBlock ≠ some g := fun g hg hg' => by
  rcases h'.2 with ⟨rfl, _⟩ | ⟨g', cap, cu, rfl, _, hh, _⟩
  · cases hg'
  · cases hg'
    exact row_other h (show Lies w g' e' cu from hh) hne g' hg rfl
theorem own_lt {w : World} {N sz n : Nat} {e : TypeId} {u : Value} {xs : List Value} (h : w.ownsRow N e sz u n xs) : ∀ g, u.ownBlock = some g → N ≤ g ∧ g < w.heap.size := fun g hg => by
  rcases h.2 with ⟨rfl, _⟩ | ⟨g', cap, cu, rfl, hb, hh, _⟩
  · cases hg
  · cases hg; exact ⟨hb, (show Lies w g' e cu from hh).lt⟩
theorem altVals_shape {a : AltR} {c : List Value} (h : altC a = c.toArray) : altVals a = c := by simp [altVals, h]
theorem InSt.append {wo wr w4 : World} {c : List Value} {L : List (Nat × AltR)} {j g cap : Nat} {asl : Value} {qa : Nat × AltR} {news : List Value} (hc : c.length = 15) (hq : L[j]? = some qa) (hs : altC qa.2 = news.toArray)
    (HX : Lies wr wo.heap.size 41 (c ++ [asl]).toArray) (HO : wr.ownsRow wo.heap.size 46 10 asl j ((L.take j).flatMap fun q => altVals q.2)) (HB : Below wo.heap.size wo wr) (hX4 : Lies w4 wo.heap.size 41 (c ++ [asl]).toArray)
    (hown : w4.ownsRow wo.heap.size 46 10 (.slice (some ⟨g, 0, none⟩) (j + 1) cap) (j + 1) (((L.take j).flatMap fun q => altVals q.2) ++ news)) {o : Obj} (hg : (wr.drew.alloc o).grownBy w4 asl.ownBlock) (hat : asl.ownBlock = some g ∨ g = wr.heap.size + 1) :
    InSt wo c L (j + 1) (w4.setCell ⟨wo.heap.size, 15, none⟩ (.slice (some ⟨g, 0, none⟩) (j + 1) cap)) := by
  obtain ⟨hj, e⟩ := List.getElem?_eq_some_iff.1 hq
  have hgX : g ≠ wo.heap.size := by
    rcases hat with h | h
    · exact row_other HO HX (by decide) g h
    · have := HX.lt; omega
  refine ⟨.slice (some ⟨g, 0, none⟩) (j + 1) cap, Lib.hid ?_, Lib.hid ?_, Lib.hid ?_⟩
  · have := hX4.set 15 (.slice (some ⟨g, 0, none⟩) (j + 1) cap)
    rwa [set15 hc] at this
  · have := ownsRow_setCell_other (a := ⟨wo.heap.size, 15, none⟩) hown (by simp [Value.ownBlock]; exact hgX) (.slice (some ⟨g, 0, none⟩) (j + 1) cap)
    rw [List.take_succ_eq_append_getElem hj, e, List.flatMap_append, List.flatMap_singleton, altVals_shape hs]
    exact this
  · have hb1 : Below wo.heap.size wo (wr.drew.alloc o) := HB.drew.alloc HB.size _
    exact (hb1.grown hg (by have := HB.size; simp; omega) (fun k hk => (own_lt HO k hk).1)).setCell (Nat.le_refl _) _
theorem xlies {w : World} {V : Nat} {a0 a5 a6 a7 a8 a9 a10 a11 a13 a14 : ByteArray} {n2 n3 n4 : Int} {b12 : Bool} {r15 : Nat} {sl : Value} (h : Lies w V 41 #[.string a0, .int .u32 n2, .int .u32 n3, .int .u32 n4, .string a5, .string a6, .string a7, .string a8, .string a9, .string a10, .string a11, .bool b12, .string a13, .string a14, .float .f64 r15, sl]) :
    w.cell? ⟨V, 0, none⟩ = some (.string a0) ∧ w.cell? ⟨V, 1, none⟩ = some (.int .u32 n2) ∧ w.cell? ⟨V, 2, none⟩ = some (.int .u32 n3) ∧ w.cell? ⟨V, 3, none⟩ = some (.int .u32 n4) ∧ w.cell? ⟨V, 4, none⟩ = some (.string a5) ∧ w.cell? ⟨V, 5, none⟩ = some (.string a6) ∧ w.cell? ⟨V, 6, none⟩ = some (.string a7) ∧ w.cell? ⟨V, 7, none⟩ = some (.string a8) ∧ w.cell? ⟨V, 8, none⟩ = some (.string a9) ∧ w.cell? ⟨V, 9, none⟩ = some (.string a10) ∧ w.cell? ⟨V, 10, none⟩ = some (.string a11) ∧ w.cell? ⟨V, 11, none⟩ = some (.bool b12) ∧ w.cell? ⟨V, 12, none⟩ = some (.string a13) ∧ w.cell? ⟨V, 13, none⟩ = some (.string a14) ∧ w.cell? ⟨V, 14, none⟩ = some (.float .f64 r15) ∧ w.cell? ⟨V, 15, none⟩ = some sl :=
  ⟨h.cell 0, h.cell 1, h.cell 2, h.cell 3, h.cell 4, h.cell 5, h.cell 6, h.cell 7, h.cell 8, h.cell 9, h.cell 10, h.cell 11, h.cell 12, h.cell 13, h.cell 14, h.cell 15⟩
theorem OutSt.append {w wo wr w5 : World} {s : RS} {As : List (Nat × AltR)} {Vs : List (Nat × VarS)} {k g cap : Nat} {q : Nat × VarS} {asl sl : Value} {ps : List (VarS × Value)} {news : List Value} {o : Obj} (hst : OutSt w s As Vs k wo) (hq : Vs[k]? = some q)
    (hO : Lies wo (w.heap.size + 1) 34 #[sl, .string ⟨#[]⟩, .int .i64 s.ver, .bool s.ind]) (hps : ps.map Prod.fst = (Vs.take k).map Prod.snd) (hrow : wo.ownsRow w.heap.size 41 16 sl ps.length (ps.flatMap fun p => varVals p.1 p.2))
    (hin : ∀ p ∈ ps, wo.ownsRow w.heap.size 46 10 p.2 (attOf As p.1).length ((attOf As p.1).flatMap fun q => altVals q.2))
    (hb : Below wo.heap.size wo wr) (hasl : wr.ownsRow wo.heap.size 46 10 asl (attOf As q.2).length ((attOf As q.2).flatMap fun q => altVals q.2)) (hnews : news = varVals q.2 asl)
    (hown : w5.ownsRow w.heap.size 41 16 (.slice (some ⟨g, 0, none⟩) (ps.length + 1) cap) (ps.length + 1) ((ps.flatMap fun p => varVals p.1 p.2) ++ news)) (hg : (wr.alloc o).grownBy w5 sl.ownBlock) (hat : sl.ownBlock = some g ∨ g = wr.heap.size + 1) :
    OutSt w s As Vs (k + 1) (w5.setCell ⟨w.heap.size + 1, 0, none⟩ (.slice (some ⟨g, 0, none⟩) (ps.length + 1) cap)) := by
  obtain ⟨hk, e⟩ := List.getElem?_eq_some_iff.1 hq
  have hrow' := row_below hrow hb
  have hOr := hO.below hb
  have hlO := hO.lt
  have hgO : g ≠ w.heap.size + 1 := by
    rcases hat with h | h
    · exact row_other hrow' hOr (by decide) g h
    · have := hb.size; omega
  have hO5 := lies_grown hOr hg (fun g hg => row_other hrow' hOr (by decide) g hg)
  have hR5 := lies_grown (hst.res.below hb) hg (fun g hg => row_other hrow' (hst.res.below hb) (by decide) g hg)
  have hws : w.heap.size ≤ wo.heap.size := hst.frame.size
  refine ⟨?_, ?_, .slice (some ⟨g, 0, none⟩) (ps.length + 1) cap, ps ++ [(q.2, asl)], ?_, ?_, ?_, ?_⟩
  · have hb1 : Below w.heap.size w (wr.alloc o) := (hst.frame.trans (below_down hb hws)).alloc (Nat.le_trans hws hb.size) _
    exact (hb1.grown hg (by have := hb.size; simp; omega) (fun k hk => (own_lt hrow' k hk).1)).setCell (by simp) _
  · exact hR5.other (by simp) _
  · exact hO5.set 0 _
  · rw [List.take_succ_eq_append_getElem hk, e]; simp [hps]
  · have := ownsRow_setCell_other (a := ⟨w.heap.size + 1, 0, none⟩) hown (by simp [Value.ownBlock]; exact hgO) (.slice (some ⟨g, 0, none⟩) (ps.length + 1) cap)
    rw [List.flatMap_append, List.flatMap_singleton, List.length_append, List.length_singleton, ← hnews]
    exact this
  · intro p hp
    have key : ∀ (N : Nat) (u : Value) (n : Nat) (xs : List Value), wr.ownsRow N 46 10 u n xs → (w5.setCell ⟨w.heap.size + 1, 0, none⟩ (.slice (some ⟨g, 0, none⟩) (ps.length + 1) cap)).ownsRow N 46 10 u n xs := by
      intro N u n xs h
      refine ownsRow_setCell_other (grown_row h hg (fun g hg => row_ne hrow' h (by decide) g hg)) ?_ _
      intro e
      exact row_other h hOr (by decide) _ e rfl
    rcases List.mem_append.1 hp with hp | hp
    · exact key _ _ _ _ (row_below (hin p hp) hb)
    · simp at hp; subst hp
      exact key _ _ _ _ (row_mono hasl hws)
theorem OutSt.res' {w wr : World} {s : RS} {As : List (Nat × AltR)} {Vs : List (Nat × VarS)} (h : OutSt w s As Vs Vs.length wr) (hea : As.map Prod.snd = s.alts) (hev : Vs.map Prod.snd = s.vars) : ∃ sl, Lies wr (w.heap.size + 1) 34 #[sl, .string ⟨#[]⟩, .int .i64 s.ver, .bool s.ind] ∧ ResAt w.heap.size wr s sl := by
  obtain ⟨sl, ps, h1, h2, h3, h4⟩ := h.ex
  rw [List.take_length, hev] at h2
  refine ⟨sl, h1, ps, h2, h3, fun p hp => ?_⟩
  have := h4 p hp
  have e1 : (attL s.alts p.1) = (attOf As p.1).map Prod.snd := by
    rw [← hea]; unfold attL attOf; rw [List.filter_map]; rfl
  rw [e1, List.length_map, List.flatMap_map]
  exact this
theorem ResAt.below {B : Nat} {w w' : World} {s : RS} {sl : Value} (h : ResAt B w s sl) (hb : Below w.heap.size w w') : ResAt B w' s sl := by
  obtain ⟨ps, h1, h2, h3⟩ := h
  exact ⟨ps, h1, row_below h2 hb, fun p hp => row_below (h3 p hp) hb⟩
theorem ResAt.set {B R : Nat} {w : World} {s : RS} {sl : Value} {cs : Array Value} (h : ResAt B w s sl) (hl : Lies w R 34 cs) (i : Nat) (v : Value) : ResAt B (w.setCell ⟨R, i, none⟩ v) s sl := by
  obtain ⟨ps, h1, h2, h3⟩ := h
  refine ⟨ps, h1, ownsRow_setCell_other h2 (fun e => row_other h2 hl (by decide) _ e rfl) _, fun p hp => ownsRow_setCell_other (h3 p hp) (fun e => row_other (h3 p hp) hl (by decide) _ e rfl) _⟩
end Go.Proofs.YtlghdacdpkaoeaaGreatDoor
end
section
namespace Go.Proofs.YtlghdacdpkaoeaaGreatDoor
open Go Go.Proofs.YtlghdacdpkaoeaaGreatDoorW.PrintLast
set_option linter.unusedVariables false
section
variable {P : Program} {ops : Array Oper} {Q : Exit → Act → World → Prop} {md : Region.Mode}
theorem listed_all {listed : Array Bool} (hsz : listed.size = ops.size) (hlow : ∀ (i : Nat) (oi : Oper), ops[i]? = some oi → ∀ e ∈ oi.after, Region.binds md e = true → e.on < i) (hr : Region.ready md ops listed = []) : ∀ n i, i < n → i < ops.size → listed.getD i false = true := by
  intro n
  induction n with
  | zero => intro i h; omega
  | succ n ih =>
    intro i hin hi
    cases hb : listed.getD i false with
    | true => rfl
    | false =>
      exfalso
      have hit : listed.getD i true = false := by
        simp [hsz, hi] at hb ⊢
        exact hb
      have hm : i ∈ Region.ready md ops listed := by
        rw [mem_ready]
        refine ⟨hit, ops[i], by simp [hi], fun e he hbd => ?_⟩
        have h1 := hlow i ops[i] (by simp [hi]) e he hbd
        exact ih e.on (by omega) (by omega)
      rw [hr] at hm
      simp at hm
theorem count_zero {listed : Array Bool} (h : listed.toList.count false ≤ 0) (i : Nat) (hi : i < listed.size) : listed.getD i true = true := by
  have h1 := List.count_eq_zero.1 (Nat.le_zero.1 h)
  cases hb : listed.getD i true with
  | true => rfl
  | false =>
    exfalso
    apply h1
    simp [hi] at hb
    rw [← hb]
    simp
theorem count_set {listed : Array Bool} {i n : Nat} (hi : i < listed.size) (hu : listed.getD i true = false) (hc : listed.toList.count false ≤ n + 1) : (listed.setIfInBounds i true).toList.count false ≤ n := by
  have hi' : i < listed.toList.length := by simpa using hi
  have e : listed.toList[i] = false := by simpa [hi] using hu
  rw [Array.toList_setIfInBounds, List.count_set hi', e]
  simp only [show (false == false) = true from rfl, show (true == false) = false from rfl, if_true, Bool.false_eq_true, if_false]
  omega
theorem wpAny_inv (I : Array Bool → Act → World → Prop) (hlow : ∀ (i : Nat) (oi : Oper), ops[i]? = some oi → ∀ e ∈ oi.after, Region.binds md e = true → e.on < i)
    (hstep : ∀ (listed : Array Bool) (a : Act) (w : World) (i : Nat) (oi : Oper), listed.size = ops.size → ListedClosed md ops listed → I listed a w → ops[i]? = some oi → listed.getD i true = false →
      (∀ e ∈ oi.after, Region.binds md e = true → listed.getD e.on false = true) → wpOp P ops Q i (fun a' w' => I (listed.setIfInBounds i true) a' w') a w)
    (hend : ∀ (listed : Array Bool) (a : Act) (w : World), I listed a w → (∀ i, i < ops.size → listed.getD i false = true) → Q .normal a w) :
    ∀ (fuel : Nat) (listed : Array Bool) (a : Act) (w : World), listed.size = ops.size → listed.toList.count false ≤ fuel → ListedClosed md ops listed → I listed a w → wpAny P md ops Q fuel listed a w
  | 0, listed, a, w, hsz, hc, hcl, hI => by
    have hr : Region.ready md ops listed = [] := by
      rw [List.eq_nil_iff_forall_not_mem]
      intro i hm
      obtain ⟨h1, oi, h2, _⟩ := mem_ready.1 hm
      have hi : i < listed.size := by rw [hsz]; exact (Array.getElem?_eq_some_iff.1 h2).1
      rw [count_zero hc i hi] at h1
      cases h1
    exact ⟨hr, hend listed a w hI (fun i hi => listed_all hsz hlow hr (i + 1) i (by omega) hi)⟩
  | fuel + 1, listed, a, w, hsz, hc, hcl, hI => by
    refine ⟨fun hr => hend listed a w hI (fun i hi => listed_all hsz hlow hr (i + 1) i (by omega) hi), fun i hm => ?_⟩
    obtain ⟨h1, oi, h2, h3⟩ := mem_ready.1 hm
    have hi : i < listed.size := by rw [hsz]; exact (Array.getElem?_eq_some_iff.1 h2).1
    refine wpOp_mono (fun a' w' h => ?_) (hstep listed a w i oi hsz hcl hI h2 h1 h3)
    exact wpAny_inv I hlow hstep hend fuel (listed.setIfInBounds i true) a' w' (by simpa using hsz) (count_set hi h1 hc) (hcl.set hm) h
theorem closed_start (n : Nat) : ListedClosed md ops (Array.replicate n false) := by
  intro j oj hj hl
  exfalso
  by_cases h : j < n <;> simp [h] at hl
theorem region_inv {id : Nat} {a : Act} {w : World} (I : Array Bool → Act → World → Prop) (hm : P.follows .mixedOrders = true) (hlow : ∀ (i : Nat) (oi : Oper), ops[i]? = some oi → ∀ e ∈ oi.after, Region.binds .any e = true → e.on < i)
    (hstep : ∀ (listed : Array Bool) (a : Act) (w : World) (i : Nat) (oi : Oper), listed.size = ops.size → ListedClosed .any ops listed → I listed a w → ops[i]? = some oi → listed.getD i true = false →
      (∀ e ∈ oi.after, Region.binds .any e = true → listed.getD e.on false = true) → wpOp P ops Q i (fun a' w' => I (listed.setIfInBounds i true) a' w') a w)
    (hend : ∀ (listed : Array Bool) (a : Act) (w : World), I listed a w → (∀ i, i < ops.size → listed.getD i false = true) → Q .normal a w)
    (h0 : I (Array.replicate ops.size false) a w.drew) : (Code.region id ops true).wp P Q a w :=
  wp_region_any hm (wpAny_inv I hlow hstep hend ops.size _ a w.drew (by simp) (by simp) (closed_start _) h0)
theorem wpOp_plain {i : Nat} {oi : Oper} {K : Act → World → Prop} {a : Act} {w : World} (hi : ops[i]? = some oi) (hg : oi.guard = none) (h : oi.wp P a w K Q) : wpOp P ops Q i K a w := by
  unfold wpOp
  rw [hi]
  have : Region.wanted oi (yielded ops a.tmps) = true := by unfold Region.wanted; rw [hg]
  simp only [this, if_true]
  exact .inl h
end
end Go.Proofs.YtlghdacdpkaoeaaGreatDoor
end
section
namespace Go.Proofs.YtlghdacdpkaoeaaGreatDoor
open Go Go.RowKit Go.Proofs.YtlghdacdpkaoeaaGreatDoorW.PrintLast
set_option linter.unusedVariables false
set_option linter.unusedSimpArgs false
def Fr (n : Nat) (f : Nat → Value) : Array Value := ((List.range n).map f).toArray
theorem Fr_lit (l : List Value) : l.toArray = Fr l.length (fun k => l.getD k undef) := by
  unfold Fr
  congr 1
  apply List.ext_getElem
  · simp
  · intro i h1 h2
    simp [List.getD_eq_getElem?_getD, h1]
theorem Fr_get (n : Nat) (f : Nat → Value) (k : Nat) (h : k < n) : (Fr n f)[k]?.getD undef = f k := by
  unfold Fr
  simp [h]
def upd (f : Nat → Value) (d : Nat) (v : Value) (k : Nat) : Value := if k = d then v else f k
theorem Fr_put (n : Nat) (f : Nat → Value) (df : List Deferred) (d : Nat) (v : Value) : (⟨Fr n f, df⟩ : Act).put (some d) v = ⟨Fr n (upd f d v), df⟩ := by
  show (⟨(Fr n f).setIfInBounds d v, df⟩ : Act) = ⟨Fr n (upd f d v), df⟩
  unfold Fr
  congr 1
  apply Array.ext
  · simp
  · intro i h1 h2
    rw [Array.getElem_setIfInBounds (by simpa using h2)]
    simp only [List.getElem_toArray, List.getElem_map, List.getElem_range, upd]
    by_cases e : d = i
    · subst e; simp
    · rw [if_neg e, if_neg (fun h => e h.symm)]
def mix (D : Nat → Bool) (us f : Nat → Value) (k : Nat) : Value := bif D k then us k else f k
section
variable {P : Program} {Q : Exit → Act → World → Prop}
def lowB (l : List Oper) : Bool := (List.range l.length).all fun i => ((l[i]?).map (·.after.all fun e => !Region.binds .any e || Nat.blt e.on i)).getD true
def tailB (l : List Oper) (N : Nat) : Bool := (List.range l.length).all fun t => Nat.blt t N || (List.range t).all fun j => Region.reachB .any l.toArray j l.length t
def wpSeq (P : Program) (l : List Oper) (Q : Exit → Act → World → Prop) : List Nat → Act → World → Prop
  | [], a, w => Q .normal a w
  | i :: r, a, w => wpOp P l.toArray Q i (wpSeq P l Q r) a w
def wpTail (P : Program) (Q : Exit → Act → World → Prop) : List Oper → Act → World → Prop
  | [], a, w => Q .normal a w
  | o :: r, a, w => o.guard = none ∧ o.wp P a w (wpTail P Q r) Q
theorem wpTail_seq {l : List Oper} : ∀ (m i : Nat) (a : Act) (w : World), l.length - i = m → i ≤ l.length → wpTail P Q (l.drop i) a w → wpSeq P l Q (List.range' i m) a w
  | 0, i, a, w, hm, hi, h => by
    rw [List.drop_eq_nil_of_le (by omega)] at h
    exact h
  | m + 1, i, a, w, hm, hi, h => by
    have hlt : i < l.length := by omega
    rw [List.drop_eq_getElem_cons hlt] at h
    rw [List.range'_succ]
    exact wpOp_plain (oi := l[i]) (by simp [hlt]) h.1 (Oper.wp_mono (fun a' w' h' => wpTail_seq m (i + 1) a' w' (by omega) hlt h') h.2)
theorem tail_put {n d : Nat} {D : Nat → Bool} {us f0 : Nat → Value} {df : List Deferred} {v : Value} (hD : D d = true) : (⟨Fr n (mix D us f0), df⟩ : Act).put (some d) v = ⟨Fr n (mix D (upd us d v) f0), df⟩ := by
  rw [Fr_put]
  congr 2
  funext k
  unfold upd mix
  by_cases hk : k = d
  · subst hk; rw [hD]; simp
  · simp [hk]
theorem tail_put0 {n d : Nat} {D : Nat → Bool} {us f0 : Nat → Value} {df : List Deferred} {v : Value} (hD : D d = false) : (⟨Fr n (mix D us f0), df⟩ : Act).put (some d) v = ⟨Fr n (mix D us (upd f0 d v)), df⟩ := by
  rw [Fr_put]
  congr 2
  funext k
  unfold upd mix
  by_cases hk : k = d
  · subst hk; rw [hD]; simp
  · simp [hk]
theorem mix_get {n k : Nat} {D : Nat → Bool} {us f0 : Nat → Value} (h : k < n) (hD : D k = true) : (Fr n (mix D us f0))[k]?.getD undef = us k := by rw [Fr_get n _ k h, mix, hD]; rfl
theorem mix_get0 {n k : Nat} {D : Nat → Bool} {us f0 : Nat → Value} (h : k < n) (hD : D k = false) : (Fr n (mix D us f0))[k]?.getD undef = f0 k := by rw [Fr_get n _ k h, mix, hD]; rfl
theorem eval_tmp (a : Act) (k : Nat) : a.eval (.tmp k) = a.tmps[k]?.getD undef := by
  unfold Act.eval
  simp
theorem lowB_spec {l : List Oper} (h : lowB l = true) : ∀ (i : Nat) (oi : Oper), l.toArray[i]? = some oi → ∀ e ∈ oi.after, Region.binds .any e = true → e.on < i := by
  intro i oi hi e he hb
  rw [List.getElem?_toArray] at hi
  have hlt : i < l.length := (List.getElem?_eq_some_iff.1 hi).1
  have h1 := List.all_eq_true.1 h i (List.mem_range.2 hlt)
  rw [hi] at h1
  simp only [Option.map_some, Option.getD_some] at h1
  have h2 := Array.all_eq_true_iff_forall_mem.1 h1 e he
  rw [hb] at h2
  simp only [Bool.not_true, Bool.false_or] at h2
  have h3 : e.on + 1 ≤ i := by simpa [Nat.blt] using h2
  exact h3
theorem tailB_reach {l : List Oper} {N t j : Nat} (h : tailB l N = true) (ht : t < l.length) (hN : N ≤ t) (hj : j < t) : Region.reachB .any l.toArray j l.length t = true := by
  have h1 := List.all_eq_true.1 h t (List.mem_range.2 ht)
  have h2 : Nat.blt t N = false := by
    cases hb : Nat.blt t N with
    | false => rfl
    | true => simp [Nat.blt] at hb; omega
  rw [h2, Bool.false_or] at h1
  exact List.all_eq_true.1 h1 j (List.mem_range.2 hj)
theorem getD_false {listed : Array Bool} {i : Nat} (h : listed.getD i false = true) : listed.getD i true = true := by
  by_cases hi : i < listed.size
  · simp [hi] at h ⊢; exact h
  · simp [hi]
def depO (o : Oper) (k : Nat) : Bool := o.after.any fun e => Region.binds .any e && Nat.beq e.on k
structure StepOk (P : Program) (Q : Exit → Act → World → Prop) (n : Nat) (D : Nat → Bool) (dst : Nat → Nat) (SP : Nat → Value → World → Prop) (W : (Nat → Bool) → World → Prop) (f0 : Nat → Value) (j : Nat) (o : Oper) : Prop where
  free : o.guard = none
  step : ∀ (L : Nat → Bool) (us : Nat → Value) (w : World) (K : Act → World → Prop) (a : Act), L j = false → (∀ k, k < n → D k = true → a.tmps[k]?.getD undef = us k) → (∀ k, k < n → D k = false → a.tmps[k]?.getD undef = f0 k) → W L w → (∀ k, depO o k = true → SP k (us (dst k)) w) →
      (∀ v w', Below w.heap.size w w' → W (fun i => i == j || L i) w' → SP j v w' → K (a.put (some (dst j)) v) w') → o.wp P a w K Q
theorem region_tbl {id n N : Nat} {l : List Oper} {df : List Deferred} {f0 : Nat → Value} {w0 : World} (hm : P.follows .mixedOrders = true) (hlow : lowB l = true) (htail : tailB l N = true) (hNM : N ≤ l.length)
    (D : Nat → Bool) (dst : Nat → Nat) (SP : Nat → Value → World → Prop) (W : (Nat → Bool) → World → Prop)
    (hD : ∀ j, j < N → D (dst j) = true) (hinj : ∀ j k, j < N → k < N → dst j = dst k → j = k)
    (hSP : ∀ j v w w', SP j v w → Below w.heap.size w w' → SP j v w') (hW0 : W (fun _ => false) w0.drew)
    (hstep : ∀ j, j < N → ∀ oj, l[j]? = some oj → StepOk P Q n D dst SP W f0 j oj)
    (hend : ∀ L us w, (∀ j, j < N → L j = true) → W L w → (∀ j, j < N → SP j (us (dst j)) w) → wpTail P Q (l.drop N) ⟨Fr n (mix D us f0), df⟩ w) :
    (Code.region id l.toArray true).wp P Q ⟨Fr n f0, df⟩ w0 := by
  refine region_inv (fun listed a w =>
    (∃ us, a = ⟨Fr n (mix D us f0), df⟩ ∧ W (fun j => listed.getD j false) w ∧ (∀ j, j < N → listed.getD j false = true → SP j (us (dst j)) w) ∧ ∀ t, N ≤ t → t < l.length → listed.getD t true = false) ∨
    (∃ t, N ≤ t ∧ t < l.length ∧ (∀ i, i ≤ t → listed.getD i false = true) ∧ (∀ i, t < i → i < l.length → listed.getD i true = false) ∧ wpSeq P l Q (List.range' (t + 1) (l.length - (t + 1))) a w)) hm (lowB_spec hlow) ?_ ?_ ?_
  · intro listed a w i oi hsz hcl hI hi hun hall
    have hil : i < l.length := by
      have := (Array.getElem?_eq_some_iff.1 hi).1
      simpa using this
    have hready : i ∈ Region.ready .any l.toArray listed := mem_ready.2 ⟨hun, oi, hi, hall⟩
    have hls : listed.size = l.length := by simpa using hsz
    rcases hI with ⟨us, rfl, hWw, hT, hN⟩ | ⟨t, hNt, htl, hle, hgt, hseq⟩
    · by_cases hiN : i < N
      · have hst := hstep i hiN oi (by simpa using hi)
        refine wpOp_plain hi hst.free (hst.step (fun j => listed.getD j false) us w _ _ ?_ (fun k hk hd => ?_) (fun k hk hd => ?_) hWw (fun k hk => ?_) (fun v w' hb hw' hv => ?_))
        · cases hb : listed.getD i false with
          | false => rfl
          | true => rw [getD_false hb] at hun; cases hun
        · rw [Fr_get n _ k hk, mix, hd]; rfl
        · rw [Fr_get n _ k hk, mix, hd]; rfl
        · obtain ⟨e, he, h1⟩ := Array.any_eq_true'.1 hk
          simp only [Bool.and_eq_true] at h1
          have h2 : e.on = k := by simpa using h1.2
          have hki : e.on < i := lowB_spec hlow i oi hi e he h1.1
          have hkl := hall e he h1.1
          rw [h2] at hki hkl
          exact hT k (by omega) hkl
        · refine .inl ⟨upd us (dst i) v, ?_, ?_, fun j hj hjl => ?_, fun t ht htl => ?_⟩
          · rw [Fr_put]
            congr 2
            funext k
            unfold upd mix
            by_cases hk : k = dst i
            · subst hk; rw [hD i hiN]; simp
            · simp [hk]
          · have he : (fun j => (listed.setIfInBounds i true).getD j false) = (fun j => j == i || listed.getD j false) := by
              funext j
              by_cases hji : j = i
              · subst hji
                simp [hls, hil]
              · rw [getD_set_ne false (Ne.symm hji)]
                simp [hji]
            rw [he]
            exact hw'
          · by_cases hji : j = i
            · subst hji
              simp only [upd, if_true]
              exact hv
            · have h1 : dst j ≠ dst i := fun e => hji (hinj j i hj hiN e)
              simp only [upd, h1, if_false]
              rw [getD_set_ne false (Ne.symm hji)] at hjl
              exact hSP _ _ _ _ (hT j hj hjl) hb
          · rw [getD_set_ne true (by omega)]
            exact hN t ht htl
      · have hiN' : N ≤ i := by omega
        have heq : i = N := by
          by_cases hc : i = N
          · exact hc
          · exfalso
            exact Region.reach_not_ready hcl (tailB_reach htail hil hiN' (by omega : N < i)) (hN N (Nat.le_refl _) (by omega)) hready
        subst heq
        have hallN : ∀ j, j < i → listed.getD j false = true := by
          intro j hj
          cases hb : listed.getD j false with
          | true => rfl
          | false =>
            exfalso
            have hjs : j < listed.size := by omega
            have hb' : listed.getD j true = false := by simp [hjs] at hb ⊢; exact hb
            exact Region.reach_not_ready hcl (tailB_reach htail hil hiN' hj) hb' hready
        have hseq := wpTail_seq _ i _ w rfl (by omega) (hend _ us w hallN hWw (fun j hj => hT j hj (hallN j hj)))
        have er : l.length - i = (l.length - (i + 1)) + 1 := by omega
        rw [er, List.range'_succ] at hseq
        refine wpOp_mono (fun a' w' h => .inr ⟨i, Nat.le_refl _, hil, fun k hk => ?_, fun k hk hkl => ?_, h⟩) hseq
        · rcases Nat.lt_or_ge k i with hlt | hge
          · rw [getD_set_ne false (by omega)]; exact hallN k hlt
          · have : k = i := by omega
            subst this
            simp [hls, hil]
        · rw [getD_set_ne true (by omega)]
          exact hN k (by omega) hkl
    · have hti : t < i := by
        rcases Nat.lt_or_ge t i with h | h
        · exact h
        · exfalso
          have := getD_false (hle i h)
          rw [hun] at this
          cases this
      have heq : i = t + 1 := by
        by_cases hc : i = t + 1
        · exact hc
        · exfalso
          exact Region.reach_not_ready hcl (tailB_reach htail hil (by omega) (by omega : t + 1 < i)) (hgt (t + 1) (by omega) (by omega)) hready
      subst heq
      have er : l.length - (t + 1) = (l.length - (t + 1 + 1)) + 1 := by omega
      rw [er, List.range'_succ] at hseq
      refine wpOp_mono (fun a' w' h => .inr ⟨t + 1, by omega, hil, fun k hk => ?_, fun k hk hkl => ?_, h⟩) hseq
      · rcases Nat.lt_or_ge k (t + 1) with hlt | hge
        · rw [getD_set_ne false (by omega)]; exact hle k (by omega)
        · have : k = t + 1 := by omega
          subst this
          simp [hls, hil]
      · rw [getD_set_ne true (by omega)]
        exact hgt k (by omega) hkl
  · intro listed a w hI hall
    rcases hI with ⟨us, rfl, hWw, hT, hN⟩ | ⟨t, hNt, htl, hle, hgt, hseq⟩
    · have hNl : N = l.length := by
        rcases Nat.lt_or_ge N l.length with h | h
        · exfalso
          have h1 := hN N (Nat.le_refl _) h
          have h2 := getD_false (hall N (by simpa using h))
          rw [h1] at h2
          cases h2
        · omega
      have hseq := wpTail_seq _ N _ w rfl hNM (hend _ us w (fun j hj => hall j (by simp; omega)) hWw (fun j hj => hT j hj (hall j (by simp; omega))))
      rw [← hNl, Nat.sub_self] at hseq
      exact hseq
    · have h2 : t + 1 = l.length := by
        rcases Nat.lt_or_ge (t + 1) l.length with h | h
        · exfalso
          have h1 := hgt (t + 1) (by omega) h
          have h2 := getD_false (hall (t + 1) (by simpa using h))
          rw [h1] at h2
          cases h2
        · omega
      rw [← h2, Nat.sub_self] at hseq
      exact hseq
  · refine .inl ⟨f0, ?_, ?_, fun j hj hl => ?_, fun t ht htl => ?_⟩
    · congr 2
      funext k
      unfold mix
      cases D k <;> rfl
    · have he : (fun j => (Array.replicate l.toArray.size false).getD j false) = (fun _ => false) := by
        funext j
        by_cases h : j < l.length <;> simp [h]
      rw [he]
      exact hW0
    · exfalso
      by_cases h : j < l.length <;> simp [h] at hl
    · simp [htl]
theorem steps_cons {S : Nat → Oper → Prop} {N k : Nat} {o : Oper} {r : List Oper} (h : S k o) (hr : ∀ i, k + 1 + i < N → ∀ oi, r[i]? = some oi → S (k + 1 + i) oi) : ∀ i, k + i < N → ∀ oi, (o :: r)[i]? = some oi → S (k + i) oi := by
  intro i hi oi ho
  cases i with
  | zero => simp at ho; subst ho; exact h
  | succ i =>
    rw [List.getElem?_cons_succ] at ho
    have := hr i (by omega) oi ho
    rwa [show k + (i + 1) = k + 1 + i by omega]
theorem steps_stop {S : Nat → Oper → Prop} {N k : Nat} {r : List Oper} (h : N ≤ k) : ∀ i, k + i < N → ∀ oi, r[i]? = some oi → S (k + i) oi := by
  intro i hi; omega
theorem steps_all {S : Nat → Oper → Prop} {N : Nat} {l : List Oper} (h : ∀ i, 0 + i < N → ∀ oi, l[i]? = some oi → S (0 + i) oi) : ∀ j, j < N → ∀ oj, l[j]? = some oj → S j oj := by
  intro j hj oj ho
  have := h j (by omega) oj ho
  rwa [Nat.zero_add] at this
end
theorem wp_then {P : Program} {s : Code} {Q : Exit → Act → World → Prop} {a : Act} {w : World} (h : ∀ K : Act → World → Prop, (∀ a' w', Q .normal a' w' → K a' w') → (∀ a' w', K a' w' → Q .normal a' w') → s.wp P (Exit.then K Q) a w) : s.wp P Q a w := by
  refine Code.wp_mono (fun e a' w' hq => ?_) (h (fun a' w' => Q .normal a' w') (fun _ _ q => q) (fun _ _ q => q))
  cases e <;> exact hq
def codeOf (id : Nat) : Code → Option Code
  | .region i ops d => bif Nat.beq i id then some (.region i ops d) else none
  | .seq a b => match codeOf id a with | some x => some x | none => codeOf id b
  | .cond _ a b => match codeOf id a with | some x => some x | none => codeOf id b
  | .block _ a => codeOf id a
  | .loop a => codeOf id a
  | .scope a => codeOf id a
  | .rangeFunc _ _ _ a => codeOf id a
  | _ => none
def regionOf (id : Nat) (f : Func) : Code := ((f.body.bind (codeOf id))).getD .skip
end Go.Proofs.YtlghdacdpkaoeaaGreatDoor
end
