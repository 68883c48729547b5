import Derived.Test.YtlghdacdpkaoeaaGreatDoorK31
import Derived.BigQuiet
namespace Go.Proofs.YtlghdacdpkaoeaaGreatDoor
open Go.RowKit Go.Proofs.YtlghdacdpkaoeaaGreatDoorW.PrintWords Go.Maps
open Go.Lib hiding intOf
set_option linter.unusedVariables false
set_option linter.unusedSimpArgs false
theorem unmap {α β γ : Type} {f : β → γ} : ∀ {m : List β} {l : List (α × γ)}, l.map Prod.snd = m.map f → ∃ l' : List (α × β), l = l'.map (fun p => (p.1, f p.2)) ∧ l'.map Prod.snd = m
  | [], l, h => by
    have : l = [] := by simpa using h
    subst this; exact ⟨[], rfl, rfl⟩
  | b :: m, l, h => by
    cases l with
    | nil => simp at h
    | cons p l =>
      simp only [List.map_cons, List.cons.injEq] at h
      obtain ⟨l', rfl, h2⟩ := unmap h.2
      exact ⟨(p.1, b) :: l', by simp [← h.1], by simp [h2]⟩
def PtrsA {α : Type} (l : List (Nat × α)) : List Value := l.map fun p => .pointer (some ⟨p.1, 0, none⟩)
def attOf (As : List (Nat × AltR)) (x : VarS) : List (Nat × AltR) := As.filter fun q => x.v.has q.2
def Att (N : Nat) (As : List (Nat × AltR)) (w : World) (p : Nat × VarS) : Prop :=
  ∃ sl, Lies w p.1 98 (p.2.cells.setIfInBounds 16 sl) ∧ w.ownsRow N 99 1 sl (attOf As p.2).length (PtrsA (attOf As p.2))
theorem var_cells {w : World} {V : Nat} {x : VarS} {sl : Value} (hx : x.fr = false) (h : Lies w V 98 (x.cells.setIfInBounds 16 sl)) :
    w.cell? ⟨V, 7, none⟩ = some (.string (bs x.v.audio)) ∧ w.cell? ⟨V, 8, none⟩ = some (.string (bs x.v.video)) ∧ w.cell? ⟨V, 9, none⟩ = some (.string (bs x.v.subtitles)) ∧ w.cell? ⟨V, 10, none⟩ = some (.string (bs x.v.captions)) ∧ w.cell? ⟨V, 16, none⟩ = some sl ∧ w.frozen? ⟨V, 16, none⟩ = false := by
  have ha := x.v.val_audio
  have hv := x.v.val_video
  have hs := x.v.val_sub
  have hc := x.v.val_cap
  unfold nAUDIO at ha; unfold nVIDEO at hv; unfold nSUB at hs; unfold nCAP at hc
  refine ⟨?_, ?_, ?_, ?_, ?_, h.frozen 16⟩
  · rw [h.cell]; simp [VarS.cells, hx, opnC, vCells, ha]
  · rw [h.cell]; simp [VarS.cells, hx, opnC, vCells, hv]
  · rw [h.cell]; simp [VarS.cells, hx, opnC, vCells, hs]
  · rw [h.cell]; simp [VarS.cells, hx, opnC, vCells, hc]
  · rw [h.cell]; simp [VarS.cells, hx, opnC, vCells]
theorem alt_cells {w : World} {A : Nat} {a : AltR} (h : Lies w A 101 (altC a)) : w.cell? ⟨A, 2, none⟩ = some (.string (bs a.typ)) ∧ w.cell? ⟨A, 0, none⟩ = some (.string (bs a.group)) := by
  have ht := a.val_typ
  have hg := a.val_group
  unfold sTYPE at ht; unfold sGROUP at hg
  refine ⟨?_, ?_⟩
  · rw [h.cell]; simp [altC, altCells, ht]
  · rw [h.cell]; simp [altC, altCells, hg]
theorem own_form {w : World} {N : Nat} {e : TypeId} {v : Value} {n : Nat} {xs : List Value} (h : w.ownsRow N e 1 v n xs) : ∃ a c, v = .slice a n c := by
  rcases own_cases h with ⟨rfl, rfl⟩ | ⟨g, cap, rfl, _⟩
  · exact ⟨_, _, rfl⟩
  · exact ⟨_, _, rfl⟩
theorem own_at {α : Type} {w : World} {N n c : Nat} {e : TypeId} {a : Option Addr} {l : List (Nat × α)} (h : w.ownsRow N e 1 (.slice a n c) n (PtrsA l)) (k : Nat) (hk : k < l.length) :
    ∃ g, a = some ⟨g, 0, none⟩ ∧ n ≤ c ∧ (∃ cs, Lies w g e cs) ∧ ∀ w' : World, w'.heap[g]? = w.heap[g]? → w'.cell? ⟨g, k, none⟩ = some (.pointer (some ⟨l[k].1, 0, none⟩)) := by
  rcases own_cases h with ⟨h1, h2⟩ | ⟨g, cap, h1, _, h3, _⟩
  · exfalso
    cases h1
    have := h.1
    simp [PtrsA] at this; subst this; simp at hk
  · cases h1
    refine ⟨g, rfl, h3, own_lies h g rfl, fun w' hb => ?_⟩
    have e := own_cell h k (.pointer (some ⟨l[k].1, 0, none⟩)) (by simp [PtrsA, hk])
    rw [← e]
    simp only [World.cell?, hb]
def optL {α : Type} (b : Bool) (x : α) : List α := if b then [x] else []
theorem len_optL {α : Type} {X : List α} {k : Nat} (h : X.length ≤ k) (b : Bool) (x : α) : (X ++ optL b x).length ≤ k + 1 := by
  cases b <;> simp [optL] <;> omega
def AttSt (wo : World) (V : Nat) (c : Array Value) (X : List (Nat × AltR)) (w : World) : Prop :=
  ∃ sl, Hid (Lies w V 98 (c.setIfInBounds 16 sl)) ∧ Hid (w.ownsRow wo.heap.size 99 1 sl X.length (PtrsA X)) ∧ Hid (But [V] wo w)
theorem AttSt.drewN {wo w : World} {V : Nat} {c : Array Value} {X : List (Nat × AltR)} (h : AttSt wo V c X w) (n : Nat) : AttSt wo V c X (w.drewN n) := by
  obtain ⟨sl, h1, h2, h3⟩ := h
  exact ⟨sl, Lib.hid (h1.out.below (below_drewN (Below.refl _ _) n)), Lib.hid (row_below h2.out (below_drewN (Below.refl _ _) n)), Lib.hid (h3.out.drewN n)⟩
theorem att_ne {w : World} {V n N : Nat} {c : Array Value} {sl : Value} {xs : List Value} (h : Lies w V 98 c) (hr : w.ownsRow N 99 1 sl n xs) : ∀ g, sl.ownBlock = some g → g ≠ V := fun g hg => by
  obtain ⟨cs, hl⟩ := own_lies hr g hg
  exact hl.ne h (by decide)
theorem var_cell16 (x : VarS) (sl : Value) : (x.cells.setIfInBounds 16 sl)[16]? = some sl := by
  have := x.cells_size
  simp [this]
theorem AttSt.append {wo w w1 : World} {V n g cap A : Nat} {c : Array Value} {X : List (Nat × AltR)} {sl : Value} {a : AltR} (hV : Lies w V 98 (c.setIfInBounds 16 sl)) (hR : w.ownsRow wo.heap.size 99 1 sl n (PtrsA X)) (hB : But [V] wo w) (hn : X.length = n)
    (hown : w1.ownsRow wo.heap.size 99 1 (.slice (some ⟨g, 0, none⟩) (n + 1) cap) (n + 1) (PtrsA X ++ [.pointer (some ⟨A, 0, none⟩)])) (hg : (w.alloc (.cells #[.pointer (some ⟨A, 0, none⟩)] 99)).grownBy w1 sl.ownBlock) (hat : sl.ownBlock = some g ∨ g = w.heap.size + 1) :
    AttSt wo V c (X ++ optL true (A, a)) (w1.setCell ⟨V, 16, none⟩ (.slice (some ⟨g, 0, none⟩) (n + 1) cap)) := by
  have hV1 := lies_grown hV hg (fun g hg => att_ne hV hR g hg)
  have hgV : g ≠ V := by
    rcases hat with h | h
    · exact att_ne hV hR g h
    · have := hV.lt; omega
  refine ⟨.slice (some ⟨g, 0, none⟩) (n + 1) cap, Lib.hid ?_, Lib.hid ?_, Lib.hid ?_⟩
  · have := hV1.set 16 (.slice (some ⟨g, 0, none⟩) (n + 1) cap)
    rwa [Array.setIfInBounds_setIfInBounds] at this
  · have := ownsRow_setCell_other (a := ⟨V, 16, none⟩) hown (by simp [Value.ownBlock]; exact hgV) (.slice (some ⟨g, 0, none⟩) (n + 1) cap)
    simpa [optL, PtrsA, hn] using this
  · refine But.set ?_ (by simp) _
    refine ⟨hg.os.trans hB.os, hg.tape.trans hB.tape, hg.output.trans hB.output, ?_, fun k hk hx => ?_⟩
    · have := hg.size; have := hB.size; simp at *; omega
    · have h1 := hg.block k (by have := hB.size; simp; omega) (fun e => by have := own_base hR k e.symm; omega)
      rw [h1, Below.heap_alloc _ _ _ (by have := hB.size; omega)]
      exact hB.block k hk hx
theorem Xt.notin {w : World} {b : Nat} {T : TypeId} {cs : Array Value} {X : List Nat} {Ts : List TypeId} (h : Lies w b T cs) (hx : Xt w X Ts) (hT : T ∉ Ts) : b ∉ X := fun hm => by
  obtain ⟨T', hT', cs', h'⟩ := hx b hm
  exact h.ne h' (fun e => hT (e ▸ hT')) rfl
theorem cells16 (x : VarS) : x.cells.setIfInBounds 16 (.slice none 0 0) = x.cells := by
  unfold VarS.cells
  split <;> simp [fCells, opnC, vCells]
theorem row_mono {w : World} {M N : Nat} {e : TypeId} {sz n : Nat} {v : Value} {xs : List Value} (h : w.ownsRow M e sz v n xs) (hN : N ≤ M) : w.ownsRow N e sz v n xs := by
  refine ⟨h.1, ?_⟩
  rcases h.2 with h | ⟨g, cap, cu, h1, h2, r⟩
  · exact .inl h
  · exact .inr ⟨g, cap, cu, h1, by omega, r⟩
theorem AttSt.start {wo : World} {V : Nat} {x : VarS} (h : Lies wo V 98 x.cells) : AttSt wo V x.cells [] wo :=
  ⟨.slice none 0 0, Lib.hid (by rw [cells16]; exact h), Lib.hid (World.ownsRow_nil _ _ _ _), Lib.hid (But.refl _ _)⟩
theorem xt_vars {w : World} {N : Nat} {Vs l : List (Nat × VarS)} (lv : ∀ p ∈ Vs, Lies w p.1 98 p.2.cells ∧ N ≤ p.1) (hs : ∀ p ∈ l, p ∈ Vs) : Xt w (l.map Prod.fst) [98] := by
  intro x hx
  obtain ⟨p, hp, rfl⟩ := List.mem_map.1 hx
  exact ⟨_, by simp, _, (lv p (hs p hp)).1⟩
theorem Att.but {N : Nat} {As : List (Nat × AltR)} {w w' : World} {p : Nat × VarS} {V : Nat} (h : Att N As w p) (hb : But [V] w w') (hx : Xt w [V] [98]) (hne : p.1 ≠ V) : Att N As w' p := by
  obtain ⟨sl, h1, h2⟩ := h
  exact ⟨sl, h1.but hb (by simpa using hne), row_xt h2 hb hx (by decide)⟩
theorem att_round {N k : Nat} {As : List (Nat × AltR)} {Vs : List (Nat × VarS)} {q : Nat × VarS} {w wo wr : World} (hq : Vs[k]? = some q) (nd : (Vs.map Prod.fst).Nodup) (hN : N ≤ wo.heap.size) (hAT : ∀ p ∈ Vs.take k, Att N As wo p) (hB : But ((Vs.take k).map Prod.fst) w wo) (hx : Xt wo [q.1] [98]) (h : AttSt wo q.1 q.2.cells (attOf As q.2) wr) :
    (∀ p ∈ Vs.take (k + 1), Att N As wr p) ∧ But ((Vs.take (k + 1)).map Prod.fst) w wr := by
  obtain ⟨hk, e⟩ := List.getElem?_eq_some_iff.1 hq
  obtain ⟨sl, h1, h2, h3⟩ := h
  rw [List.take_succ_eq_append_getElem hk, e]
  constructor
  · intro p hp
    rcases List.mem_append.1 hp with hp | hp
    · refine (hAT p hp).but h3.out hx ?_
      intro ee
      obtain ⟨i, hi, hpi⟩ := List.mem_take_iff_getElem.1 hp
      have hik : i < k := by omega
      rw [List.nodup_iff_pairwise_ne] at nd
      have := List.pairwise_iff_getElem.1 nd i k (by simp; omega) (by simpa using hk) hik
      simp only [List.getElem_map] at this
      rw [hpi, e] at this
      exact this ee
    · simp at hp; subst hp
      exact ⟨sl, h1.out, row_mono h2.out hN⟩
  · refine (hB.mono (fun x hx => ?_)).trans (h3.out.mono (fun x hx => ?_))
    · simp only [List.map_append, List.mem_append]; exact .inl hx
    · simp at hx; subst hx; simp
theorem att_test {s t l g : List UInt8} {m b : Bool} (hm : m = (t == l && s == g)) (hg : g ≠ []) (h : ((bs s).toList.isEmpty = true ∧ b = false) ∨ (((bs t).toList == l) = false ∧ b = false) ∨ (((bs t).toList == l) = true ∧ ((bs s).toList == (bs g).toList) = b)) : Value.bool b = .bool m := by
  simp only [bs_toL] at h
  subst hm
  rcases h with ⟨h1, rfl⟩ | ⟨h1, rfl⟩ | ⟨h1, rfl⟩
  · have : s = [] := by simpa using h1
    subst this
    have : (([] : List UInt8) == g) = false := by
      rw [beq_eq_false_iff_ne]; exact fun e => hg e.symm
    simp [this]
  · simp [h1]
  · simp [h1]
theorem att_step {As : List (Nat × AltR)} {x : VarS} {j : Nat} {qa : Nat × AltR} (hj : As[j]? = some qa) (hg : qa.2.Good) {m1 m2 m3 m4 : Bool} (h1 : m1 = (qa.2.typ == [86, 73, 68, 69, 79] && x.v.video == qa.2.group)) (h2 : m2 = (qa.2.typ == [65, 85, 68, 73, 79] && x.v.audio == qa.2.group))
    (h3 : m3 = (qa.2.typ == [67, 76, 79, 83, 69, 68, 45, 67, 65, 80, 84, 73, 79, 78, 83] && x.v.captions == qa.2.group)) (h4 : m4 = (qa.2.typ == [83, 85, 66, 84, 73, 84, 76, 69, 83] && x.v.subtitles == qa.2.group)) :
    attOf (As.take (j + 1)) x = attOf (As.take j) x ++ optL m1 qa ++ optL m2 qa ++ optL m3 qa ++ optL m4 qa := by
  obtain ⟨hjl, e⟩ := List.getElem?_eq_some_iff.1 hj
  rw [List.take_succ_eq_append_getElem hjl, e]
  unfold attOf
  rw [List.filter_append, List.append_assoc, List.append_assoc, List.append_assoc]
  congr 1
  subst h1 h2 h3 h4
  rcases hg.typ with t | t | t <;> simp [VarR.has, t, optL, List.filter_cons] <;> split <;> simp_all
set_option maxRecDepth 100000 in
set_option maxHeartbeats 40000000 in
theorem attach_calls (N P : Nat) (vs al : Value) (ver : Int) (ind : Bool) (As : List (Nat × AltR)) (Vs : List (Nat × VarS)) (w : World) (hN : N ≤ w.heap.size) (hP : PlAt w P vs ver ind)
    (ra : w.ownsRow N 99 1 al As.length (PtrsA As)) (rv : w.ownsRow N 92 1 vs Vs.length (PtrsA Vs))
    (la : ∀ p ∈ As, Lies w p.1 101 (altC p.2) ∧ p.2.Good) (lv : ∀ p ∈ Vs, Lies w p.1 98 p.2.cells ∧ N ≤ p.1) (nd : (Vs.map Prod.fst).Nodup) (hf : As = [] ∨ ∀ p ∈ Vs, p.2.fr = false) (hna : As.length ≤ 1000) (hnv : Vs.length ≤ 1000) :
    Calls Tryz.prog 37 #[.pointer (some ⟨P, 0, none⟩), al] w fun e w' => e = .returned (.tuple #[]) ∧ (∀ p ∈ Vs, Att N As w' p) ∧ But (Vs.map Prod.fst) w w' := by
  obtain ⟨i0, hi, hz0, hz1, hz2⟩ := info_parts infoAlt
  obtain ⟨d0, _, _, _, _, _, _, _⟩ := hP.cells
  have lP := hP.lt
  obtain ⟨alA, alC, hal⟩ := own_form ra
  obtain ⟨vsA, vsC, hvs⟩ := own_form rv
  subst hal hvs
  have RA := Lib.hid ra
  have RV := Lib.hid rv
  have LA := Lib.hid la
  have LV := Lib.hid lv
  have ND := Lib.hid nd
  have HF := Lib.hid hf
  have HP := Lib.hid hP
  clear ra rv la lv nd hf hP
  go_enter Tryz.func37, Tryz.ntmps37
  go_wp2_with fail
  go_loopw [13] (fun v13 wr => ∃ k : Nat, v13 = .int .i64 k ∧ k ≤ Vs.length ∧ Hid (∀ p ∈ Vs.take k, Att N As wr p) ∧ Hid (But ((Vs.take k).map Prod.fst) w wr)) (fun v _ => Vs.length - (intOf v).toNat)
  case atStart => exact ⟨0, rfl, by omega, Lib.hid (by simp), Lib.hid (But.refl _ _)⟩
  case round =>
    obtain ⟨k, rfl, hk, HAT, HB⟩ := hrel
    rename World => wo
    by_cases hlt : k < Vs.length
    · obtain ⟨g, hg, hgc, ⟨gcs, hgl⟩, hcell⟩ := own_at RV.out k hlt
      subst hg
      have hck := hcell wo (HB.out.block g hgl.lt (Xt.notin hgl (xt_vars LV.out (fun p hp => List.mem_of_mem_take hp)) (by decide)))
      clear hcell
      go_wp2_with fail
      have HQ : Hid (Vs[k]? = some Vs[k]) := Lib.hid (List.getElem?_eq_getElem hlt)
      have HQL : Hid (Lies wo Vs[k].1 98 Vs[k].2.cells) := Lib.hid ((LV.out _ (List.getElem_mem hlt)).1.but HB.out (by
        intro hm
        obtain ⟨p, hp, ep⟩ := List.mem_map.1 hm
        obtain ⟨i, hi, hpi⟩ := List.mem_take_iff_getElem.1 hp
        have nd := ND.out
        rw [List.nodup_iff_pairwise_ne] at nd
        have := List.pairwise_iff_getElem.1 nd i k (by simp; omega) (by simpa using hlt) (by omega)
        simp only [List.getElem_map] at this
        rw [hpi] at this
        exact this ep))
      have HQF : Hid (As = [] ∨ Vs[k].2.fr = false) := Lib.hid (HF.out.imp id (fun h => h _ (List.getElem_mem hlt)))
      generalize hq : Vs[k] = q at *
      clear hq
      have HXT : Hid (Xt wo [q.1] [98]) := Lib.hid (.cons HQL.out .nil)
      have HNo : N ≤ wo.heap.size := Nat.le_trans hN HB.out.size
      go_loopw [19] (fun v19 wi => ∃ j : Nat, v19 = .int .i64 j ∧ j ≤ As.length ∧ AttSt wo q.1 q.2.cells (attOf (As.take j) q.2) wi) (fun v _ => As.length - (intOf v).toNat)
      case atStart => exact ⟨0, rfl, by omega, AttSt.start HQL.out⟩
      case round =>
        obtain ⟨j, rfl, hj, hA0⟩ := hrel
        by_cases hjl : j < As.length
        · obtain ⟨g2, hg2, hgc2, ⟨gcs2, hgl2⟩, hcell2⟩ := own_at RA.out j hjl
          subst hg2
          have hcj := hcell2 wr (by
            obtain ⟨sl, _, _, h3⟩ := hA0
            rw [← HB.out.block g2 hgl2.lt (Xt.notin hgl2 (xt_vars LV.out (fun p hp => List.mem_of_mem_take hp)) (by decide))]
            have hgo := hgl2.but HB.out (Xt.notin hgl2 (xt_vars LV.out (fun p hp => List.mem_of_mem_take hp)) (by decide))
            exact h3.out.block g2 hgo.lt (Xt.notin hgo HXT.out (by decide)))
          clear hcell2
          have HAo : Hid (Lies wo As[j].1 101 (altC As[j].2)) := Lib.hid ((LA.out _ (List.getElem_mem hjl)).1.xt HB.out (xt_vars LV.out (fun p hp => List.mem_of_mem_take hp)) (by decide))
          have HFR : Hid (q.2.fr = false) := Lib.hid (HQF.out.resolve_left (fun e => by subst e; simp at hjl))
          have HGd : Hid (As[j].2.Good) := Lib.hid (LA.out _ (List.getElem_mem hjl)).2
          have HQA : Hid (As[j]? = some As[j]) := Lib.hid (List.getElem?_eq_getElem hjl)
          generalize hqa : As[j] = qa at *
          clear hqa
          have HG0 : Hid (qa.2.group ≠ []) := by
            refine Lib.hid ?_
            rcases HGd.out.group with e | e <;> rw [e] <;> simp
          obtain ⟨m1, hm1⟩ : ∃ b, b = (qa.2.typ == [86, 73, 68, 69, 79] && q.2.v.video == qa.2.group) := ⟨_, rfl⟩
          obtain ⟨m2, hm2⟩ : ∃ b, b = (qa.2.typ == [65, 85, 68, 73, 79] && q.2.v.audio == qa.2.group) := ⟨_, rfl⟩
          obtain ⟨m3, hm3⟩ : ∃ b, b = (qa.2.typ == [67, 76, 79, 83, 69, 68, 45, 67, 65, 80, 84, 73, 79, 78, 83] && q.2.v.captions == qa.2.group) := ⟨_, rfl⟩
          obtain ⟨m4, hm4⟩ : ∃ b, b = (qa.2.typ == [83, 85, 66, 84, 73, 84, 76, 69, 83] && q.2.v.subtitles == qa.2.group) := ⟨_, rfl⟩
          have M1 := Lib.hid hm1
          have M2 := Lib.hid hm2
          have M3 := Lib.hid hm3
          have M4 := Lib.hid hm4
          clear hm1 hm2 hm3 hm4
          have HST := Lib.hid (att_step (x := q.2) HQA.out HGd.out M1.out M2.out M3.out M4.out)
          have hx0 : (attOf (As.take j) q.2).length ≤ 1000 := by
            have := List.length_filter_le (fun p : Nat × AltR => q.2.v.has p.2) (As.take j)
            unfold attOf; simp at *; omega
          generalize hX0 : attOf (As.take j) q.2 = X0 at *
          clear hX0
          go_wp2_with fail
          go_cut [49] from 20 to 173 (fun v wx => v = .bool m1 ∧ AttSt wo q.1 q.2.cells X0 wx)
          case first => as_aux_lemma =>
            obtain ⟨sl, HV, HR, HB2⟩ := hA0
            obtain ⟨a2, a0⟩ := alt_cells (HAo.out.xt HB2.out HXT.out (by decide))
            obtain ⟨c7, c8, c9, c10, c16, f16⟩ := var_cells HFR.out HV.out
            cases e1 : (bs q.2.v.video).toList.isEmpty
            · cases e2 : ((bs qa.2.typ).toList == [86, 73, 68, 69, 79])
              · skip
                go_quiet (fail)
                go_wp2_with fail
                go_meet
                exact ⟨att_test M1.out HG0.out (.inr (.inl ⟨e2, rfl⟩)), AttSt.drewN ⟨sl, HV, HR, HB2⟩ _⟩
              · cases e3 : ((bs q.2.v.video).toList == (bs qa.2.group).toList)
                · skip
                  go_quiet (fail)
                  go_wp2_with fail
                  go_meet
                  exact ⟨att_test M1.out HG0.out (.inr (.inr ⟨e2, e3⟩)), AttSt.drewN ⟨sl, HV, HR, HB2⟩ _⟩
                · skip
                  go_quiet (fail)
                  go_wp2_with fail
                  go_meet
                  exact ⟨att_test M1.out HG0.out (.inr (.inr ⟨e2, e3⟩)), AttSt.drewN ⟨sl, HV, HR, HB2⟩ _⟩
            · skip
              go_quiet (fail)
              go_wp2_with fail
              go_meet
              exact ⟨att_test M1.out HG0.out (.inl ⟨e1, rfl⟩), AttSt.drewN ⟨sl, HV, HR, HB2⟩ _⟩
          case rest =>
            obtain ⟨rfl, hA⟩ := hcut
            go_upto_if 49 with (fail)
            go_cut [] from 20 to 173 (fun wx => AttSt wo q.1 q.2.cells (X0 ++ optL m1 qa) wx)
            case first => as_aux_lemma =>
              cases m1
              · as_aux_lemma =>
                go_wp2_with fail
                go_meet
                simpa [optL] using hA
              · as_aux_lemma =>
                obtain ⟨sl, HV, HR, HB2⟩ := hA
                obtain ⟨c7, c8, c9, c10, c16, f16⟩ := var_cells HFR.out HV.out
                have hXl : (X0).length ≤ 1000 := hx0
                have HOWN := Lib.hid (HR.out.alloc (.cells #[.pointer (some ⟨qa.1, 0, none⟩)] 99))
                have HNEWS := Lib.hid (World.news_of_block (heap_alloc_new wc (.cells #[.pointer (some ⟨qa.1, 0, none⟩)] 99)))
                have HONE := Lib.hid (show ∀ u ∈ [Value.pointer (some ⟨qa.1, 0, none⟩)], u.oneCell' = true by intro u hu; simp at hu; subst hu; rfl)
                have hb63 : (X0).length + 1 ≤ maxLen := by unfold maxLen; omega
                have hb47 : ((X0).length + 1) * 8 ≤ 140737488355328 := by omega
                have hbase : wo.heap.size ≤ (wc.alloc (.cells #[.pointer (some ⟨qa.1, 0, none⟩)] 99)).heap.size := by have := HB2.out.size; simp; omega
                generalize hXn : (X0).length = xn at *
                have HXN := Lib.hid hXn
                clear hXn
                have hql := HV.out.lt
                go_wp2_with (refine wpList_append_lies _ rfl _ _ 94 rfl wo.heap.size 99 i0 _ 1 8 Tryz.underlying94 hi hz0 hz1 hz2 rfl (by decide) _ _ _ rfl HOWN.out ⟨wc.heap.size, 0, none⟩ 1 1 [.pointer (some ⟨qa.1, 0, none⟩)] rfl rfl HNEWS.out HONE.out (by decide) hb63 hb47 hbase _ rfl ?_; intro g cap w1 hown' hgrow hat hlt4; have hgrow' := Lib.hid hgrow; have hat' := Lib.hid hat; have hown2 := Lib.hid hown'; clear hgrow hat hown'; have HV6 := Lib.hid (lies_grown HV.out hgrow'.out (fun g hg => (att_ne HV.out HR.out g hg))); have c16' := (HV6.out.cell 16); have f16' := HV6.out.frozen 16; rw [var_cell16] at c16')
                have hat2 : sl.ownBlock = some g ∨ g = wc.heap.size + 1 := by
                  rcases hat'.out with h | h
                  · exact .inl h
                  · right; rw [h]; simp
                go_meet
                exact AttSt.append HV.out HR.out HB2.out HXN.out hown2.out hgrow'.out hat2
            case rest =>
              have hA1 := hcut
              have hXl1 : (X0).length ≤ 1000 := hx0
              go_upto_region 9 with (fail)
              go_cut [86] from 20 to 173 (fun v wx => v = .bool m2 ∧ AttSt wo q.1 q.2.cells (X0 ++ optL m1 qa) wx)
              case first => as_aux_lemma =>
                obtain ⟨sl, HV, HR, HB2⟩ := hA1
                obtain ⟨a2, a0⟩ := alt_cells (HAo.out.xt HB2.out HXT.out (by decide))
                obtain ⟨c7, c8, c9, c10, c16, f16⟩ := var_cells HFR.out HV.out
                cases e1 : (bs q.2.v.audio).toList.isEmpty
                · cases e2 : ((bs qa.2.typ).toList == [65, 85, 68, 73, 79])
                  · skip
                    go_quiet (fail)
                    go_wp2_with fail
                    go_meet
                    exact ⟨att_test M2.out HG0.out (.inr (.inl ⟨e2, rfl⟩)), AttSt.drewN ⟨sl, HV, HR, HB2⟩ _⟩
                  · cases e3 : ((bs q.2.v.audio).toList == (bs qa.2.group).toList)
                    · skip
                      go_quiet (fail)
                      go_wp2_with fail
                      go_meet
                      exact ⟨att_test M2.out HG0.out (.inr (.inr ⟨e2, e3⟩)), AttSt.drewN ⟨sl, HV, HR, HB2⟩ _⟩
                    · skip
                      go_quiet (fail)
                      go_wp2_with fail
                      go_meet
                      exact ⟨att_test M2.out HG0.out (.inr (.inr ⟨e2, e3⟩)), AttSt.drewN ⟨sl, HV, HR, HB2⟩ _⟩
                · skip
                  go_quiet (fail)
                  go_wp2_with fail
                  go_meet
                  exact ⟨att_test M2.out HG0.out (.inl ⟨e1, rfl⟩), AttSt.drewN ⟨sl, HV, HR, HB2⟩ _⟩
              case rest =>
                obtain ⟨rfl, hA⟩ := hcut
                go_upto_if 86 with (fail)
                go_cut [] from 20 to 173 (fun wx => AttSt wo q.1 q.2.cells ((X0 ++ optL m1 qa) ++ optL m2 qa) wx)
                case first => as_aux_lemma =>
                  cases m2
                  · as_aux_lemma =>
                    go_wp2_with fail
                    go_meet
                    simpa [optL] using hA
                  · as_aux_lemma =>
                    obtain ⟨sl, HV, HR, HB2⟩ := hA
                    obtain ⟨c7, c8, c9, c10, c16, f16⟩ := var_cells HFR.out HV.out
                    have hXl : ((X0 ++ optL m1 qa)).length ≤ 1001 := len_optL hXl1 m1 qa
                    have HOWN := Lib.hid (HR.out.alloc (.cells #[.pointer (some ⟨qa.1, 0, none⟩)] 99))
                    have HNEWS := Lib.hid (World.news_of_block (heap_alloc_new wc (.cells #[.pointer (some ⟨qa.1, 0, none⟩)] 99)))
                    have HONE := Lib.hid (show ∀ u ∈ [Value.pointer (some ⟨qa.1, 0, none⟩)], u.oneCell' = true by intro u hu; simp at hu; subst hu; rfl)
                    have hb63 : ((X0 ++ optL m1 qa)).length + 1 ≤ maxLen := by unfold maxLen; omega
                    have hb47 : (((X0 ++ optL m1 qa)).length + 1) * 8 ≤ 140737488355328 := by omega
                    have hbase : wo.heap.size ≤ (wc.alloc (.cells #[.pointer (some ⟨qa.1, 0, none⟩)] 99)).heap.size := by have := HB2.out.size; simp; omega
                    generalize hXn : ((X0 ++ optL m1 qa)).length = xn at *
                    have HXN := Lib.hid hXn
                    clear hXn
                    have hql := HV.out.lt
                    go_wp2_with (refine wpList_append_lies _ rfl _ _ 94 rfl wo.heap.size 99 i0 _ 1 8 Tryz.underlying94 hi hz0 hz1 hz2 rfl (by decide) _ _ _ rfl HOWN.out ⟨wc.heap.size, 0, none⟩ 1 1 [.pointer (some ⟨qa.1, 0, none⟩)] rfl rfl HNEWS.out HONE.out (by decide) hb63 hb47 hbase _ rfl ?_; intro g cap w1 hown' hgrow hat hlt4; have hgrow' := Lib.hid hgrow; have hat' := Lib.hid hat; have hown2 := Lib.hid hown'; clear hgrow hat hown'; have HV6 := Lib.hid (lies_grown HV.out hgrow'.out (fun g hg => (att_ne HV.out HR.out g hg))); have c16' := (HV6.out.cell 16); have f16' := HV6.out.frozen 16; rw [var_cell16] at c16')
                    have hat2 : sl.ownBlock = some g ∨ g = wc.heap.size + 1 := by
                      rcases hat'.out with h | h
                      · exact .inl h
                      · right; rw [h]; simp
                    go_meet
                    exact AttSt.append HV.out HR.out HB2.out HXN.out hown2.out hgrow'.out hat2
                case rest =>
                  have hA2 := hcut
                  have hXl2 : ((X0 ++ optL m1 qa)).length ≤ 1001 := len_optL hXl1 m1 qa
                  go_upto_region 11 with (fail)
                  go_cut [123] from 20 to 173 (fun v wx => v = .bool m3 ∧ AttSt wo q.1 q.2.cells ((X0 ++ optL m1 qa) ++ optL m2 qa) wx)
                  case first => as_aux_lemma =>
                    obtain ⟨sl, HV, HR, HB2⟩ := hA2
                    obtain ⟨a2, a0⟩ := alt_cells (HAo.out.xt HB2.out HXT.out (by decide))
                    obtain ⟨c7, c8, c9, c10, c16, f16⟩ := var_cells HFR.out HV.out
                    cases e1 : (bs q.2.v.captions).toList.isEmpty
                    · cases e2 : ((bs qa.2.typ).toList == [67, 76, 79, 83, 69, 68, 45, 67, 65, 80, 84, 73, 79, 78, 83])
                      · skip
                        go_quiet (fail)
                        go_wp2_with fail
                        go_meet
                        exact ⟨att_test M3.out HG0.out (.inr (.inl ⟨e2, rfl⟩)), AttSt.drewN ⟨sl, HV, HR, HB2⟩ _⟩
                      · cases e3 : ((bs q.2.v.captions).toList == (bs qa.2.group).toList)
                        · skip
                          go_quiet (fail)
                          go_wp2_with fail
                          go_meet
                          exact ⟨att_test M3.out HG0.out (.inr (.inr ⟨e2, e3⟩)), AttSt.drewN ⟨sl, HV, HR, HB2⟩ _⟩
                        · skip
                          go_quiet (fail)
                          go_wp2_with fail
                          go_meet
                          exact ⟨att_test M3.out HG0.out (.inr (.inr ⟨e2, e3⟩)), AttSt.drewN ⟨sl, HV, HR, HB2⟩ _⟩
                    · skip
                      go_quiet (fail)
                      go_wp2_with fail
                      go_meet
                      exact ⟨att_test M3.out HG0.out (.inl ⟨e1, rfl⟩), AttSt.drewN ⟨sl, HV, HR, HB2⟩ _⟩
                  case rest =>
                    obtain ⟨rfl, hA⟩ := hcut
                    go_upto_if 123 with (fail)
                    go_cut [] from 20 to 173 (fun wx => AttSt wo q.1 q.2.cells (((X0 ++ optL m1 qa) ++ optL m2 qa) ++ optL m3 qa) wx)
                    case first => as_aux_lemma =>
                      cases m3
                      · as_aux_lemma =>
                        go_wp2_with fail
                        go_meet
                        simpa [optL] using hA
                      · as_aux_lemma =>
                        obtain ⟨sl, HV, HR, HB2⟩ := hA
                        obtain ⟨c7, c8, c9, c10, c16, f16⟩ := var_cells HFR.out HV.out
                        have hXl : (((X0 ++ optL m1 qa) ++ optL m2 qa)).length ≤ 1002 := len_optL hXl2 m2 qa
                        have HOWN := Lib.hid (HR.out.alloc (.cells #[.pointer (some ⟨qa.1, 0, none⟩)] 99))
                        have HNEWS := Lib.hid (World.news_of_block (heap_alloc_new wc (.cells #[.pointer (some ⟨qa.1, 0, none⟩)] 99)))
                        have HONE := Lib.hid (show ∀ u ∈ [Value.pointer (some ⟨qa.1, 0, none⟩)], u.oneCell' = true by intro u hu; simp at hu; subst hu; rfl)
                        have hb63 : (((X0 ++ optL m1 qa) ++ optL m2 qa)).length + 1 ≤ maxLen := by unfold maxLen; omega
                        have hb47 : ((((X0 ++ optL m1 qa) ++ optL m2 qa)).length + 1) * 8 ≤ 140737488355328 := by omega
                        have hbase : wo.heap.size ≤ (wc.alloc (.cells #[.pointer (some ⟨qa.1, 0, none⟩)] 99)).heap.size := by have := HB2.out.size; simp; omega
                        generalize hXn : (((X0 ++ optL m1 qa) ++ optL m2 qa)).length = xn at *
                        have HXN := Lib.hid hXn
                        clear hXn
                        have hql := HV.out.lt
                        go_wp2_with (refine wpList_append_lies _ rfl _ _ 94 rfl wo.heap.size 99 i0 _ 1 8 Tryz.underlying94 hi hz0 hz1 hz2 rfl (by decide) _ _ _ rfl HOWN.out ⟨wc.heap.size, 0, none⟩ 1 1 [.pointer (some ⟨qa.1, 0, none⟩)] rfl rfl HNEWS.out HONE.out (by decide) hb63 hb47 hbase _ rfl ?_; intro g cap w1 hown' hgrow hat hlt4; have hgrow' := Lib.hid hgrow; have hat' := Lib.hid hat; have hown2 := Lib.hid hown'; clear hgrow hat hown'; have HV6 := Lib.hid (lies_grown HV.out hgrow'.out (fun g hg => (att_ne HV.out HR.out g hg))); have c16' := (HV6.out.cell 16); have f16' := HV6.out.frozen 16; rw [var_cell16] at c16')
                        have hat2 : sl.ownBlock = some g ∨ g = wc.heap.size + 1 := by
                          rcases hat'.out with h | h
                          · exact .inl h
                          · right; rw [h]; simp
                        go_meet
                        exact AttSt.append HV.out HR.out HB2.out HXN.out hown2.out hgrow'.out hat2
                    case rest =>
                      have hA3 := hcut
                      have hXl3 : (((X0 ++ optL m1 qa) ++ optL m2 qa)).length ≤ 1002 := len_optL hXl2 m2 qa
                      go_upto_region 13 with (fail)
                      go_cut [160] from 20 to 173 (fun v wx => v = .bool m4 ∧ AttSt wo q.1 q.2.cells (((X0 ++ optL m1 qa) ++ optL m2 qa) ++ optL m3 qa) wx)
                      case first => as_aux_lemma =>
                        obtain ⟨sl, HV, HR, HB2⟩ := hA3
                        obtain ⟨a2, a0⟩ := alt_cells (HAo.out.xt HB2.out HXT.out (by decide))
                        obtain ⟨c7, c8, c9, c10, c16, f16⟩ := var_cells HFR.out HV.out
                        cases e1 : (bs q.2.v.subtitles).toList.isEmpty
                        · cases e2 : ((bs qa.2.typ).toList == [83, 85, 66, 84, 73, 84, 76, 69, 83])
                          · skip
                            go_quiet (fail)
                            go_wp2_with fail
                            go_meet
                            exact ⟨att_test M4.out HG0.out (.inr (.inl ⟨e2, rfl⟩)), AttSt.drewN ⟨sl, HV, HR, HB2⟩ _⟩
                          · cases e3 : ((bs q.2.v.subtitles).toList == (bs qa.2.group).toList)
                            · skip
                              go_quiet (fail)
                              go_wp2_with fail
                              go_meet
                              exact ⟨att_test M4.out HG0.out (.inr (.inr ⟨e2, e3⟩)), AttSt.drewN ⟨sl, HV, HR, HB2⟩ _⟩
                            · skip
                              go_quiet (fail)
                              go_wp2_with fail
                              go_meet
                              exact ⟨att_test M4.out HG0.out (.inr (.inr ⟨e2, e3⟩)), AttSt.drewN ⟨sl, HV, HR, HB2⟩ _⟩
                        · skip
                          go_quiet (fail)
                          go_wp2_with fail
                          go_meet
                          exact ⟨att_test M4.out HG0.out (.inl ⟨e1, rfl⟩), AttSt.drewN ⟨sl, HV, HR, HB2⟩ _⟩
                      case rest =>
                        obtain ⟨rfl, hA⟩ := hcut
                        go_upto_if 160 with (fail)
                        cases m4
                        · as_aux_lemma =>
                          go_wp2_with fail
                          go_roundw
                          case rel => exact ⟨j + 1, by go_num, by omega, by rw [HST.out]; simpa [optL] using hA⟩
                          case measure => simp [intOf]; omega
                        · as_aux_lemma =>
                          obtain ⟨sl, HV, HR, HB2⟩ := hA
                          obtain ⟨c7, c8, c9, c10, c16, f16⟩ := var_cells HFR.out HV.out
                          have hXl : ((((X0 ++ optL m1 qa) ++ optL m2 qa) ++ optL m3 qa)).length ≤ 1003 := len_optL hXl3 m3 qa
                          have HOWN := Lib.hid (HR.out.alloc (.cells #[.pointer (some ⟨qa.1, 0, none⟩)] 99))
                          have HNEWS := Lib.hid (World.news_of_block (heap_alloc_new wc (.cells #[.pointer (some ⟨qa.1, 0, none⟩)] 99)))
                          have HONE := Lib.hid (show ∀ u ∈ [Value.pointer (some ⟨qa.1, 0, none⟩)], u.oneCell' = true by intro u hu; simp at hu; subst hu; rfl)
                          have hb63 : ((((X0 ++ optL m1 qa) ++ optL m2 qa) ++ optL m3 qa)).length + 1 ≤ maxLen := by unfold maxLen; omega
                          have hb47 : (((((X0 ++ optL m1 qa) ++ optL m2 qa) ++ optL m3 qa)).length + 1) * 8 ≤ 140737488355328 := by omega
                          have hbase : wo.heap.size ≤ (wc.alloc (.cells #[.pointer (some ⟨qa.1, 0, none⟩)] 99)).heap.size := by have := HB2.out.size; simp; omega
                          generalize hXn : ((((X0 ++ optL m1 qa) ++ optL m2 qa) ++ optL m3 qa)).length = xn at *
                          have HXN := Lib.hid hXn
                          clear hXn
                          have hql := HV.out.lt
                          go_wp2_with (refine wpList_append_lies _ rfl _ _ 94 rfl wo.heap.size 99 i0 _ 1 8 Tryz.underlying94 hi hz0 hz1 hz2 rfl (by decide) _ _ _ rfl HOWN.out ⟨wc.heap.size, 0, none⟩ 1 1 [.pointer (some ⟨qa.1, 0, none⟩)] rfl rfl HNEWS.out HONE.out (by decide) hb63 hb47 hbase _ rfl ?_; intro g cap w1 hown' hgrow hat hlt4; have hgrow' := Lib.hid hgrow; have hat' := Lib.hid hat; have hown2 := Lib.hid hown'; clear hgrow hat hown'; have HV6 := Lib.hid (lies_grown HV.out hgrow'.out (fun g hg => (att_ne HV.out HR.out g hg))); have c16' := (HV6.out.cell 16); have f16' := HV6.out.frozen 16; rw [var_cell16] at c16')
                          have hat2 : sl.ownBlock = some g ∨ g = wc.heap.size + 1 := by
                            rcases hat'.out with h | h
                            · exact .inl h
                            · right; rw [h]; simp
                          go_roundw
                          case rel => exact ⟨j + 1, by go_num, by omega, by rw [HST.out]; exact AttSt.append HV.out HR.out HB2.out HXN.out hown2.out hgrow'.out hat2⟩
                          case measure => simp [intOf]; omega
        · obtain rfl : j = As.length := by omega
          go_wp2_with fail
          rw [List.take_length] at hA0
          have HE := att_round HQ.out ND.out HNo HAT.out HB.out HXT.out hA0
          have HE1 := Lib.hid HE.1
          have HE2 := Lib.hid HE.2
          go_roundw
          case rel => exact ⟨k + 1, by go_num, by omega, HE1, HE2⟩
          case measure => simp [intOf]; omega
    · obtain rfl : k = Vs.length := by omega
      go_wp2_with fail
      go_returns
      rw [List.take_length] at HAT HB
      exact ⟨rfl, HAT.out, HB.out⟩
end Go.Proofs.YtlghdacdpkaoeaaGreatDoor
