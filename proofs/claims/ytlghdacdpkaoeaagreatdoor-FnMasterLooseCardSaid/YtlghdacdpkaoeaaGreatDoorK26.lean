import Derived.Test.YtlghdacdpkaoeaaGreatDoorK25
import Derived.Maps.RangeWalk
import Derived.Maps.StringElems
namespace Go.Proofs.YtlghdacdpkaoeaaGreatDoor
open Go.RowKit Go.Proofs.YtlghdacdpkaoeaaGreatDoorW.PrintWords Go.Maps
open Go.Lib hiding intOf
set_option linter.unusedVariables false
set_option linter.unusedSimpArgs false
theorem keyOf_string_inv {P : Program} {k : TypeId} (hk : P.underlying k = some .string) {key : Value} {kl : Lit} (h : keyOf P k key = some kl) : ∃ s : ByteArray, key = .string s ∧ kl = .string s.data.toList := by
  cases key <;> simp [keyOf, hk, mapKey] at h
  exact ⟨_, rfl, h.2.symm⟩
theorem wpList_next_ranges_ss {H : Type} {P : Program} (w : World) {ops : Array Oper} {rest : List Oper} {o : Oper} {a : Act} {Q : Exit → Act → World → Prop}
    (hg : o.guard = none) (it : Operand) (hop : o.op = Op.next it false) (k e : TypeId) (K : Keyed P k) (hk : P.underlying k = some .string) (he : P.underlying e = some .string)
    (b r n : Nat) (D : DataW H) (left : Lit → Bool) (cnt : Nat) (hit : a.eval it = .pointer (some ⟨r, 0, none⟩)) (h : w.ranges P k (plainElem P e) b r n D left cnt)
    (hDone : cnt = 0 → (∀ kl, left kl = false) → wpList P ops Q rest (a.put o.dst (.tuple #[.bool false])) w)
    (hMore : ∀ (x c : List UInt8) (w' : World) (cnt' : Nat), left (.string x) = true → (∀ zd, D.atKey (.string x) zd = .lit (.string c)) → w'.ranges P k (plainElem P e) b r n D (fun z => left z && !z.sameKey (.string x)) cnt' → cnt' < cnt →
      w.grownBy w' (some r) → w'.heap.size = w.heap.size → (Instr.entry (.pointer (some ⟨r, 0, none⟩))).run P w' = .ok (.tuple #[.string (bs x), .string (bs c)]) w' → wpList P ops Q rest (a.put o.dst (.tuple #[.bool true, .string (bs x), .string (bs c)])) w') :
    wpList P ops Q (o :: rest) a w :=
  wpList_next_ranges w hg it hop k K (plainElem P e) (fun x => Value.string (bs x)) (fun x => Value.string (bs x))
    (fun key kl hkey => by obtain ⟨s, rfl, _⟩ := keyOf_string_inv hk hkey; exact ⟨s.data.toList, by rw [bs_of]⟩)
    (fun v y hv => by obtain ⟨s, rfl, _⟩ := plainElem_string_inv he hv; exact ⟨s.data.toList, by rw [bs_of]⟩)
    b r n D left cnt hit h hDone (fun x c kl y w' cnt' hkey hlk hv hat hrg hlt hgr hsz hen => by
      obtain ⟨x', ex, rfl⟩ := keyOf_string_inv hk hkey
      have ex1 := Value.string.inj ex
      subst ex1
      obtain ⟨c', ec, rfl, hwc⟩ := plainElem_string_inv he hv
      have ec1 := Value.string.inj ec
      subst ec1
      rw [bs_toList] at *
      exact hMore x c w' cnt' hlk hat hrg hlt hgr hsz hen)
theorem fold_other {H : Type} (kl : Lit) : ∀ (ats : List Attr) (D : DataW H), (∀ a ∈ ats, kl ≠ .string a.name) →
    has (ats.foldl (fun D a => D.put (.string a.name) (.lit (.string a.val))) D) kl = has D kl ∧ ∀ zd, (ats.foldl (fun D a => D.put (.string a.name) (.lit (.string a.val))) D).atKey kl zd = D.atKey kl zd
  | [], D, h => ⟨rfl, fun _ => rfl⟩
  | a :: r, D, h => by
    obtain ⟨h1, h2⟩ := fold_other kl r (D.put (.string a.name) (.lit (.string a.val))) (fun b hb => h b (by simp [hb]))
    have hne := h a (by simp)
    exact ⟨h1.trans (has_put_other hne _), fun zd => (h2 zd).trans (atKey_put_other hne _ _)⟩
theorem fold_own {H : Type} : ∀ (ats : List Attr) (D : DataW H) (a : Attr), IsMap D → (ats.map Attr.name).Nodup → a ∈ ats →
    has (ats.foldl (fun D a => D.put (.string a.name) (.lit (.string a.val))) D) (.string a.name) = true ∧ ∀ zd, (ats.foldl (fun D a => D.put (.string a.name) (.lit (.string a.val))) D).atKey (.string a.name) zd = .lit (.string a.val)
  | [], D, a, hm, hn, ha => by simp at ha
  | b :: r, D, a, hm, hn, ha => by
    have hm' : IsMap (D.put (.string b.name) (.lit (.string b.val))) := by cases D <;> simp_all [IsMap, DataW.put]
    simp only [List.map_cons, List.nodup_cons] at hn
    by_cases hin : a ∈ r
    · exact fold_own r _ a hm' hn.2 hin
    · rcases List.mem_cons.1 ha with rfl | h
      · obtain ⟨h1, h2⟩ := fold_other (H := H) (.string a.name) r (D.put (.string a.name) (.lit (.string a.val))) (fun c hc => by
          intro e
          have e1 := Lit.string.inj e
          exact hn.1 (e1 ▸ List.mem_map_of_mem hc))
        exact ⟨h1.trans (has_put_same (k := .string a.name) hm trivial _), fun zd => (h2 zd).trans (atKey_put_same (k := .string a.name) hm trivial _ _)⟩
      · exact absurd h hin
theorem mapD_has {H : Type} {ats : List Attr} (hn : (ats.map Attr.name).Nodup) {kl : Lit} (h : has (mapD (H := H) ats) kl = true) : ∃ a ∈ ats, kl = .string a.name ∧ ∀ zd, (mapD (H := H) ats).atKey kl zd = .lit (.string a.val) := by
  by_cases hx : ∃ a ∈ ats, kl = .string a.name
  · obtain ⟨a, ha, rfl⟩ := hx
    exact ⟨a, ha, rfl, (fold_own ats (.map []) a ⟨_, rfl⟩ hn ha).2⟩
  · exfalso
    have := (fold_other (H := H) kl ats (.map []) (fun a ha e => hx ⟨a, ha, e⟩)).1
    unfold mapD at h
    rw [this] at h
    simp [has] at h
theorem mapD_all {H : Type} {ats : List Attr} (hn : (ats.map Attr.name).Nodup) {a : Attr} (ha : a ∈ ats) : has (mapD (H := H) ats) (.string a.name) = true := (fold_own ats (.map []) a ⟨_, rfl⟩ hn ha).1
end Go.Proofs.YtlghdacdpkaoeaaGreatDoor
