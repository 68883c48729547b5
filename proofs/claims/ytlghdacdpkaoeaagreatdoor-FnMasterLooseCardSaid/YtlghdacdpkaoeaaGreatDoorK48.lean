import Derived.Test.YtlghdacdpkaoeaaGreatDoorK46
import Derived.Test.YtlghdacdpkaoeaaGreatDoorRows
import Derived.Lib.LaidU8
import Derived.Stop.LaidErr
import Derived.MakeChecks
namespace Go.Proofs.YtlghdacdpkaoeaaGreatDoor
open Go.RowKit Go.Proofs.YtlghdacdpkaoeaaGreatDoorW.PrintWords Go.Maps Go.ChangeShapes
open Go.Lib hiding intOf
set_option linter.unusedVariables false
set_option linter.unusedSimpArgs false
theorem trod_float {H : Type} {enc : TypeId × Value → H} {P : Program} {w : World} {base : Nat} {spare : Nat → Bool} {held : Bool} {fuel : Nat} {t : TypeId} {cs : List Value} {x : DataW H × List MemPlace} {k : FloatKind} (ht : P.underlying t = some (.float k)) (h : DataW.trod enc P w base spare held fuel t cs = some x) : ∃ n, cs = [.float k n] ∧ x = (.lit (.float k n), []) := by
  cases fuel with
  | zero => simp [DataW.trod] at h
  | succ n =>
    unfold DataW.trod at h
    rw [ht] at h
    split at h <;> simp_all
theorem var_lt {P : Program} {w : World} {n : String} {g : Nat} {cs : Array Value} (hg : P.globalNamed n = some g) (h : w.var? P n = some cs) : g < w.heap.size := by
  unfold World.var? at h
  rw [hg] at h
  rcases Nat.lt_or_ge g w.heap.size with h' | h'
  · exact h'
  · simp [Array.getElem?_eq_none h'] at h
theorem gOpt : Tryz.prog.globalNamed "internal/strconv.optimize" = some 13 := by kernel_rfl
theorem gInfo : Tryz.prog.globalNamed "internal/strconv.float64info" = some 14 := by kernel_rfl
theorem gPow : Tryz.prog.globalNamed "internal/strconv.float64pow10" = some 17 := by kernel_rfl
theorem gEof : Tryz.prog.globalNamed "io.EOF" = some 1 := by kernel_rfl
theorem starErr : "*" ++ "errors.errorString" = "*errors.errorString" := by decide
set_option maxRecDepth 100000 in
theorem rowErr (u : TypeId) (h : Tryz.prog.typeName? 3 u = some "*errors.errorString") : u = 136 :=
  typeName_ptr_named (nm := "errors.errorString") (by rw [starErr]; kernel_rfl) (by kernel_rfl) (by decide) u (by rw [starErr]; exact h)
set_option maxRecDepth 100000 in
theorem of_laid {W : World} (h : laidMetH Tryz.prog Rows.fnMasterLooseRow.laid W) : BaseE W.heap.size W := by
  rw [MakeChecks.laidMetH_plain _ _ _ (by kernel_rfl)] at h
  have r2 := laidMet.reads h (.tail _ (.tail _ (.head _)))
  have r3 := laidMet.reads h (.tail _ (.tail _ (.tail _ (.head _))))
  have r4 := laidMet.reads h (.tail _ (.tail _ (.tail _ (.tail _ (.head _)))))
  have r6 := laidMet.reads h (.tail _ (.tail _ (.tail _ (.tail _ (.tail _ (.tail _ (.head _)))))))
  have r7 := laidMet.reads h (.tail _ (.tail _ (.tail _ (.tail _ (.tail _ (.tail _ (.tail _ (.head _))))))))
  have h5 := laidMet.tail (laidMet.tail (laidMet.tail (laidMet.tail (laidMet.tail h))))
  have tOpt : (Tryz.prog.globals[13]?).map (·.type) = some 4 := by kernel_rfl
  have tInfo : (Tryz.prog.globals[14]?).map (·.type) = some 218 := by kernel_rfl
  have tPow : (Tryz.prog.globals[17]?).map (·.type) = some 256 := by kernel_rfl
  have tEof : (Tryz.prog.globals[1]?).map (·.type) = some 64 := by kernel_rfl
  have tSp : (Tryz.prog.globals[5]?).map (·.type) = some 120 := by kernel_rfl
  have tBp : (Tryz.prog.globals[2]?).map (·.type) = some 120 := by kernel_rfl
  have one : ∀ {g : Nat} {cs : Array Value} {n : String} {u : Value} {l : List Value}, Tryz.prog.globalNamed n = some g → W.var? Tryz.prog n = some cs → cs.toList = u :: l → W.cell? ⟨g, 0, none⟩ = some u := by
    intro g cs n u l hg hv hl
    rw [World.var?_cell hg hv 0, ← Array.getElem?_toList, hl]; rfl
  obtain ⟨g, t, cs, fuel, p, hg, ht, hvO, hd⟩ := r3
  obtain rfl := Option.some.inj (gOpt.symm.trans hg)
  obtain rfl := Option.some.inj (tOpt.symm.trans ht)
  obtain ⟨b, hcs, hx⟩ := DataW.trod_bool Tryz.underlying4 hd
  have hb : b = true := by
    have := congrArg Prod.fst hx
    simp [Rows.laid_internal_strconv_optimize] at this
    exact this
  subst hb
  have hO := one hg hvO hcs
  clear hd hx hcs
  obtain ⟨g, t, cs, fuel, p, hg2, ht2, hvI, hd⟩ := r2
  obtain rfl := Option.some.inj (gInfo.symm.trans hg2)
  obtain rfl := Option.some.inj (tInfo.symm.trans ht2)
  obtain ⟨xs, n, _, hx, hlen, hxl, hall⟩ := DataW.trod_struct Tryz.underlying218 hd
  have h0 := hall 0 _ rfl
  have hxs : xs.map (·.1) = [.lit (.int .u64 52), .lit (.int .u64 11), .lit (.int .i64 (-1023))] := by
    have := congrArg Prod.fst hx
    simp [Rows.laid_internal_strconv_float64info] at this
    exact this.symm
  obtain ⟨x0, r, rfl⟩ : ∃ x0 r, xs = x0 :: r := by
    cases xs with
    | nil => simp at hxs
    | cons a b => exact ⟨a, b, rfl⟩
  have hI : W.cell? ⟨14, 0, none⟩ = some (.int .u64 52) := by
    obtain ⟨k, e1, e2, _⟩ := DataW.trod_int (k := .u64) (by kernel_rfl) h0
    have hk : k = 52 := by
      simp only [List.map_cons, List.cons.injEq] at hxs
      rw [e2] at hxs
      simpa using hxs.1
    subst hk
    have c1 : Tryz.prog.cellsOf 48 = 1 := by kernel_rfl
    cases hl : cs.toList with
    | nil => rw [hl] at e1; simp at e1
    | cons c l =>
      rw [hl] at e1
      have e3 : c = .int .u64 52 := by
        have e4 : (List.take (Tryz.prog.cellsOf 48) (c :: l)) = [.int .u64 52] := e1
        rw [c1] at e4
        simpa using e4
      subst e3
      exact one hg2 hvI hl
  clear hd hx hxs h0 hall hlen hxl
  obtain ⟨g, t, cs, fuel, p, hg3, ht3, hvP, hd⟩ := r4
  obtain rfl := Option.some.inj (gPow.symm.trans hg3)
  obtain rfl := Option.some.inj (tPow.symm.trans ht3)
  have hP : ∃ pb po c, W.cell? ⟨17, 0, none⟩ = some (.slice (some ⟨pb, po, none⟩) 23 c) ∧ pb < W.heap.size ∧ ∀ (i x : Nat), pow10s[i]? = some x → W.cell? ⟨pb, po + i, none⟩ = some (.float .f64 x) := by
    rcases DataW.trod_slice Tryz.underlying256 hd with ⟨_, hx⟩ | ⟨a, len, cap, elems, rest, n, _, hcs, hx, _, _, _, hel, hat, _, _⟩
    · have := congrArg Prod.fst hx
      simp [Rows.laid_internal_strconv_float64pow10] at this
    have hxe : elems.map (·.1) = (match (Rows.laid_internal_strconv_float64pow10 : DataW Unit) with | .slice l _ => l | _ => []) := by
      have h1 := congrArg Prod.fst hx
      simp only at h1
      rw [h1]
    have hlen : elems.length = 23 := by
      have := congrArg List.length hxe
      simpa [Rows.laid_internal_strconv_float64pow10] using this
    have c1 : Tryz.prog.cellsOf 38 = 1 := by kernel_rfl
    have key : ∀ (i x : Nat), pow10s[i]? = some x → W.cell? (a.add i) = some (.float .f64 x) := by
      intro i x hix
      have hi4 : i < 4 := by
        have := (List.getElem?_eq_some_iff.1 hix).1
        simpa [pow10s] using this
      have h1 := hat i (by omega)
      rw [c1, Nat.mul_one] at h1
      obtain ⟨e, he⟩ : ∃ e, elems[i]? = some e := ⟨elems[i]'(by omega), List.getElem?_eq_getElem (by omega)⟩
      rw [he] at h1
      obtain ⟨cl, hcl, htr⟩ := Option.bind_eq_some_iff.1 h1
      obtain ⟨m, e1, e2⟩ := trod_float Tryz.underlying38 htr
      obtain ⟨_, _, hcell⟩ := World.cells?_some hcl
      have h2 := hcell 0 (by omega)
      rw [e1] at h2
      have hm : m = x := by
        have h3 : (elems.map (·.1))[i]? = some (.lit (.float .f64 m)) := by rw [List.getElem?_map, he, e2]; rfl
        rw [hxe] at h3
        have h5 : i = 0 ∨ i = 1 ∨ i = 2 ∨ i = 3 := by omega
        rcases h5 with rfl | rfl | rfl | rfl <;> simp [Rows.laid_internal_strconv_float64pow10] at h3 <;> simp [pow10s] at hix <;> omega
      subst hm
      simpa [Addr.add] using h2
    have hspot : a.spot = none := by
      have h2 := key 0 4607182418800017408 rfl
      unfold World.cell? at h2
      split at h2
      · split at h2
        · cases h2
        · rename_i hs
          simpa [Addr.add] using hs
      · cases h2
    obtain ⟨ab, ao, asp⟩ := a
    simp only at hspot
    subst hspot
    have hlen2 : len = 23 := by omega
    subst hlen2
    refine ⟨ab, ao, cap, one hg3 hvP hcs, World.block_lt_of_cell? W _ (key 0 4607182418800017408 rfl), fun i x hix => ?_⟩
    have := key i x hix
    unfold Addr.add at this
    split at this
    · rename_i h0
      subst h0
      exact this
    · exact this
  clear hd
  obtain ⟨g, t, cs, fuel, p, hg6, ht6, hvB, hd6⟩ := r6
  obtain rfl := Option.some.inj (globalBp.symm.trans hg6)
  obtain rfl := Option.some.inj (tBp.symm.trans ht6)
  obtain ⟨g, t, cs7, fuel7, p7, hg7, ht7, hvS, hd7⟩ := r7
  obtain rfl := Option.some.inj (globalSp.symm.trans hg7)
  obtain rfl := Option.some.inj (tSp.symm.trans ht7)
  have eB : (Rows.laid_bytes_asciiSpace : DataW Unit) = Lib.tabData .u8 Lib.asciiSpaceTab := by kernel_rfl
  have eS : (Rows.laid_strings_asciiSpace : DataW Unit) = Lib.tabData .u8 Lib.asciiSpaceTab := by kernel_rfl
  rw [eB] at hd6
  rw [eS] at hd7
  have cB := Lib.cells_of_tab (zs := Lib.asciiSpaceTab) Tryz.underlying120 Tryz.underlying5 (by kernel_rfl) (by kernel_rfl) hd6
  have cS := Lib.cells_of_tab (zs := Lib.asciiSpaceTab) Tryz.underlying120 Tryz.underlying5 (by kernel_rfl) (by kernel_rfl) hd7
  have tabB : Lib.TabIs Tryz.prog W "bytes.asciiSpace" .u8 Lib.asciiSpaceTab := by
    unfold Lib.TabIs
    rw [hvB, ← cB]
  have tabS : Lib.TabIs Tryz.prog W "strings.asciiSpace" .u8 Lib.asciiSpaceTab := by
    unfold Lib.TabIs
    rw [hvS, ← cS]
  obtain ⟨ae, se, hvE, _, _, _⟩ := laid_sentinel (g := 1) (ti := 64) (tp := 136) (te := 138) (ts := 9) h5 gEof tEof Tryz.underlying64 rowErr Tryz.underlying136 Tryz.underlying138 rfl rfl Tryz.underlying9 (by kernel_rfl) (by kernel_rfl)
  have hE := one gEof hvE rfl
  exact ⟨⟨⟨var_lt gEof hvE, var_lt globalSp hvS, var_lt globalBp hvB⟩, ⟨var_lt gOpt hvO, var_lt gInfo hvI, var_lt gPow hvP⟩, hO, hI, hP, Nat.le_refl _, tabS, tabB, ⟨_, _, hE⟩⟩, ⟨_, hE⟩⟩
end Go.Proofs.YtlghdacdpkaoeaaGreatDoor
