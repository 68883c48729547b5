import Derived.Test.YtlghdacdpkaoeaaGreatDoorK39
import Derived.Test.YtlghdacdpkaoeaaGreatDoorK41
import Derived.Test.YtlghdacdpkaoeaaGreatDoorK45
namespace Go.Proofs.YtlghdacdpkaoeaaGreatDoor
open Go.RowKit Go.Proofs.YtlghdacdpkaoeaaGreatDoorW.PrintWords Go.Maps Go.Proofs.YtlghdacdpkaoeaaGreatDoor.PFnMasterLoose
open Go.Lib hiding intOf
set_option linter.unusedVariables false
set_option linter.unusedSimpArgs false
theorem flat_at {α : Type} {f : α → List Value} {sz : Nat} : ∀ {L : List α} {j i : Nat}, (∀ a ∈ L, (f a).length = sz) → (hj : j < L.length) → i < sz → (L.flatMap f)[j * sz + i]? = (f L[j])[i]?
  | [], j, i, _, hj, _ => by simp at hj
  | a :: L, 0, i, hf, hj, hi => by
    have h1 := hf a (by simp)
    simp only [Nat.zero_mul, Nat.zero_add, List.flatMap_cons, List.getElem_cons_zero]
    rw [List.getElem?_append_left (by omega)]
  | a :: L, j + 1, i, hf, hj, hi => by
    have h1 := hf a (by simp)
    have h2 := flat_at (f := f) (L := L) (j := j) (i := i) (fun b hb => hf b (by simp [hb])) (by simpa using hj) hi
    rw [List.flatMap_cons, List.getElem?_append_right (by rw [h1, Nat.add_mul]; omega), h1, List.getElem_cons_succ, ← h2]
    congr 1
    rw [Nat.add_mul]; omega
theorem row_cell {α : Type} {f : α → List Value} {sz B : Nat} {e : TypeId} {w : World} {v : Value} {L : List α} (h : w.ownsRow B e sz v L.length (L.flatMap f)) (hf : ∀ a ∈ L, (f a).length = sz) (j : Nat) (hj : j < L.length) :
    ∃ g cap, v = .slice (some ⟨g, 0, none⟩) L.length cap ∧ g < w.heap.size ∧ ∀ i u, (f L[j])[i]? = some u → w.cell? ⟨g, j * sz + i, none⟩ = some u := by
  obtain ⟨hl, h1 | ⟨g, cap, cur, hv, hb, hg, hc1, hc2, hc3, hc4⟩⟩ := h
  · omega
  · refine ⟨g, cap, hv, (Array.getElem?_eq_some_iff.1 hg).1, fun i u hu => ?_⟩
    have hi : i < sz := by
      rw [← hf L[j] (List.getElem_mem hj)]
      exact (List.getElem?_eq_some_iff.1 hu).1
    rw [cell_of_row w g _ cur e (0, 0) hg]
    have h3 := flat_at hf hj hi
    rw [← hc4, hu] at h3
    have h4 := (List.getElem?_eq_some_iff.1 h3)
    obtain ⟨h5, h6⟩ := h4
    rw [List.getElem_take] at h6
    rw [List.length_take] at h5
    have h7 : j * sz + i < cur.toList.length := by omega
    have h8 : cur[j * sz + i]? = some (cur.toList[j * sz + i]'h7) := by
      simp at h7 ⊢
    rw [h8, h6]
theorem altVals_len (a : AltR) : (altVals a).length = 10 := by simp [altVals, altC, altCells]
theorem varVals_len (x : VarS) (u : Value) : (varVals x u).length = 16 := by
  have := x.cells_size
  simp [varVals]
  omega
structure XV where
  a0 : ByteArray
  n2 : Int
  n3 : Int
  n4 : Int
  a5 : ByteArray
  a6 : ByteArray
  a7 : ByteArray
  a8 : ByteArray
  a9 : ByteArray
  a10 : ByteArray
  a11 : ByteArray
  b12 : Bool
  a13 : ByteArray
  a14 : ByteArray
  r15 : Nat
abbrev XV.vals (x : XV) (u : Value) : Array Value := #[.string x.a0, .int .u32 x.n2, .int .u32 x.n3, .int .u32 x.n4, .string x.a5, .string x.a6, .string x.a7, .string x.a8, .string x.a9, .string x.a10, .string x.a11, .bool x.b12, .string x.a13, .string x.a14, .float .f64 x.r15, u]
theorem order_8 : ∀ k : Fin 1001, (FloatKind.f64.format.order (eighthBits k.val) (eighthBits k.val) == some .eq) = true := by decide +kernel
theorem order_0 : (FloatKind.f64.format.order 0 0 == some .eq) = true := by decide +kernel
theorem rate_ok (v : VarR) (h : v.rate < 1001) : (FloatKind.f64.format.order (rateOf (valOf v.attrs nRATE)) (rateOf (valOf v.attrs nRATE)) == some .eq) = true := by
  rw [v.val_rate]
  split
  · rw [rateOf_nil]; exact order_0
  · rw [rateOf_sec _ h]; exact order_8 ⟨v.rate, h⟩
theorem VarS.xv (x : VarS) (hg : x.v.rate < 1001) : ∃ y : XV, (∀ u, varVals x u = (y.vals u).toList) ∧ (FloatKind.f64.format.order y.r15 y.r15 == some .eq) = true := by
  unfold varVals VarS.cells
  split
  · exact ⟨⟨_, _, _, _, _, _, _, _, _, _, _, _, _, _, _⟩, fun u => rfl, order_0⟩
  · exact ⟨⟨_, _, _, _, _, _, _, _, _, _, _, _, _, _, _⟩, fun u => rfl, rate_ok x.v hg⟩
structure XA where
  b0 : ByteArray
  b1 : ByteArray
  b2 : ByteArray
  b3 : ByteArray
  b4 : ByteArray
  b5 : Bool
  b6 : ByteArray
abbrev XA.vals (x : XA) : Array Value := #[.string x.b0, .string x.b1, .string x.b2, .string x.b3, .string x.b4, .bool x.b5, .string x.b6, .string ⟨#[]⟩, .string ⟨#[]⟩, .string ⟨#[]⟩]
theorem AltR.xa (a : AltR) : ∃ y : XA, altVals a = y.vals.toList := ⟨⟨_, _, _, _, _, _, _⟩, rfl⟩
theorem res_at {B : Nat} {w : World} {s : RS} {sl : Value} (h : ResAt B w s sl) (k : Nat) (hk : k < s.vars.length) :
    ∃ g cap asl, sl = .slice (some ⟨g, 0, none⟩) s.vars.length cap ∧ g < w.heap.size ∧ (∀ i u, (varVals s.vars[k] asl)[i]? = some u → w.cell? ⟨g, k * 16 + i, none⟩ = some u) ∧ w.ownsRow B 46 10 asl (attL s.alts s.vars[k]).length ((attL s.alts s.vars[k]).flatMap altVals) := by
  obtain ⟨ps, h1, h2, h3⟩ := h
  have hl : ps.length = s.vars.length := by rw [← h1, List.length_map]
  have hk' : k < ps.length := by omega
  obtain ⟨g, cap, e, hg, hc⟩ := row_cell h2 (fun p _ => varVals_len p.1 p.2) k hk'
  have e1 : s.vars[k] = (ps[k]).1 := by
    have : s.vars[k]? = some (ps[k]).1 := by rw [← h1]; simp [hk']
    rw [List.getElem?_eq_getElem hk] at this
    injection this
  rw [hl] at e
  exact ⟨g, cap, (ps[k]).2, e, hg, by rw [e1]; exact hc, by rw [e1]; exact h3 _ (List.getElem_mem hk')⟩
theorem res_form {B : Nat} {w : World} {s : RS} {sl : Value} (h : ResAt B w s sl) : ∃ A c, sl = .slice A s.vars.length c := by
  obtain ⟨ps, h1, h2, h3⟩ := h
  have hl : ps.length = s.vars.length := by rw [← h1, List.length_map]
  rcases own_cases h2 with ⟨rfl, h0⟩ | ⟨g, cap, rfl, _⟩
  · exact ⟨none, 0, by rw [← hl, h0]⟩
  · exact ⟨_, cap, by rw [hl]⟩
theorem row_form {B n sz : Nat} {e : TypeId} {w : World} {v : Value} {xs : List Value} (h : w.ownsRow B e sz v n xs) : ∃ A c, v = .slice A n c := by
  rcases own_cases h with ⟨rfl, h0⟩ | ⟨g, cap, rfl, _⟩
  · exact ⟨none, 0, by rw [h0]⟩
  · exact ⟨_, cap, rfl⟩
theorem run_equal_same (d : Nat) (w : World) (x : XA) : (Op.equalIn (d + 2) 46 (.agg x.vals) (.agg x.vals)).run Tryz.prog w = .ok true w := by
  have h : (Op.equalIn (d + 2) 46 (.agg x.vals) (.agg x.vals)).run Tryz.prog w = .ok ((x.b0.toList == x.b0.toList) && ((x.b1.toList == x.b1.toList) && ((x.b2.toList == x.b2.toList) && ((x.b3.toList == x.b3.toList) && ((x.b4.toList == x.b4.toList) && ((x.b5 == x.b5) && ((x.b6.toList == x.b6.toList) && (true && (true && true))))))))) w := by
    refine eqA_of Tryz.underlying46 (by kernel_rfl) ?_
    refine eqf_cons (by rfl) (by go_simp; rfl) (by go_simp; rfl) (by go_simp) ?_
    refine eqf_cons (by rfl) (by go_simp; rfl) (by go_simp; rfl) (by go_simp) ?_
    refine eqf_cons (by rfl) (by go_simp; rfl) (by go_simp; rfl) (by go_simp) ?_
    refine eqf_cons (by rfl) (by go_simp; rfl) (by go_simp; rfl) (by go_simp) ?_
    refine eqf_cons (by rfl) (by go_simp; rfl) (by go_simp; rfl) (by go_simp) ?_
    refine eqf_cons (by rfl) (by go_simp; rfl) (by go_simp; rfl) (by go_simp) ?_
    refine eqf_cons (by rfl) (by go_simp; rfl) (by go_simp; rfl) (by go_simp) ?_
    refine eqf_cons (by rfl) (by go_simp; rfl) (by go_simp; rfl) (by go_simp) ?_
    refine eqf_cons (by rfl) (by go_simp; rfl) (by go_simp; rfl) (by go_simp) ?_
    exact eqf_last (by rfl) (by go_simp; rfl) (by go_simp; rfl) (by go_simp)
  rw [h]
  simp
theorem run_neq_same (w : World) (x : XA) : (binOp .neq 46 (.agg x.vals) (.agg x.vals)).run Tryz.prog w = .ok (.bool false) w := by
  rw [run_neq_struct, run_equal_same 9998 w x]; rfl
theorem att_len {ver : Nat} {alts : List AltR} {vars : List VarR} {fs : List Bool} (h : Fit ver alts vars fs) (m3u ind : Bool) (k : Nat) (hk : k < vars.length) (hk' : k < (endRS m3u ver ind alts vars fs).vars.length) :
    (attL (endRS m3u ver ind alts vars fs).alts (endRS m3u ver ind alts vars fs).vars[k]).length = (alts.filter vars[k].has).length := by
  have hk2 : k < (varsS vars fs).length := hk'
  have e : ((varsS vars fs)[k]'hk2).v = vars[k] := by
    have h1 := varsS_v vars fs
    have h2 : ((varsS vars fs).map VarS.v)[k]? = some ((varsS vars fs)[k]'hk2).v := by rw [List.getElem?_map, List.getElem?_eq_getElem hk2]; rfl
    rw [h1, List.getElem?_eq_getElem hk] at h2
    injection h2 with h2
    exact h2.symm
  show ((wrtAll alts [] vars).filter fun a => ((varsS vars fs)[k]'hk2).v.has a).length = _
  rw [e]
  exact wrt_count h.nd (List.getElem_mem hk)
end Go.Proofs.YtlghdacdpkaoeaaGreatDoor
