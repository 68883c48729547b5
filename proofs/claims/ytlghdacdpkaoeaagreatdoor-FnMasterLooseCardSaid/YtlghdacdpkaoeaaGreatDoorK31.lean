import Derived.Test.YtlghdacdpkaoeaaGreatDoorK30
namespace Go.Proofs.YtlghdacdpkaoeaaGreatDoor
open Go.RowKit Go.Proofs.YtlghdacdpkaoeaaGreatDoorW.PrintWords Go.Maps
open Go.Lib hiding intOf
set_option linter.unusedVariables false
set_option linter.unusedSimpArgs false
def mineT : List TypeId := [81, 112, 99, 92, 98]
def Keeps (w w' : World) : Prop := ∀ b T cs, Lies w b T cs → T ∉ mineT → Lies w' b T cs
theorem Keeps.of_below {w w' : World} (h : Below w.heap.size w w') : Keeps w w' := fun _ _ _ hl _ => hl.below h
def Xt (w : World) (X : List Nat) (Ts : List TypeId) : Prop := ∀ x ∈ X, ∃ T ∈ Ts, ∃ cs, Lies w x T cs
section
variable {N b P S : Nat} {w w' : World} {X : List Nat} {Ts : List TypeId} {T : TypeId} {cs : Array Value}
theorem Lies.xt (h : Lies w b T cs) (hb : But X w w') (hx : Xt w X Ts) (hT : T ∉ Ts) : Lies w' b T cs :=
  h.but hb (fun hm => by
    obtain ⟨T', hT', cs', h'⟩ := hx b hm
    exact h.ne h' (fun e => hT (e ▸ hT')) rfl)
theorem own_lies {e : TypeId} {n : Nat} {u : Value} {xs : List Value} (h : w.ownsRow N e 1 u n xs) : ∀ g, u.ownBlock = some g → ∃ cs, Lies w g e cs := fun g hg => by
  rcases h.2 with ⟨rfl, _⟩ | ⟨g', cap, cu, rfl, _, hh, _⟩
  · cases hg
  · cases hg; exact ⟨cu, hh⟩
theorem row_xt {e : TypeId} {n : Nat} {u : Value} {xs : List Value} (h : w.ownsRow N e 1 u n xs) (hb : But X w w') (hx : Xt w X Ts) (hT : e ∉ Ts) : w'.ownsRow N e 1 u n xs :=
  row_but h hb (fun g hg => by
    obtain ⟨cs, hl⟩ := own_lies h g hg
    exact ⟨hl.lt, fun hm => by
      obtain ⟨T', hT', cs', h'⟩ := hx g hm
      exact hl.ne h' (fun e => hT (e ▸ hT')) rfl⟩)
theorem keeps_of_but (hb : But X w w') (hx : Xt w X Ts) (hs : ∀ T ∈ Ts, T ∈ mineT) : Keeps w w' := fun b T cs h hT => h.xt hb hx (fun hm => hT (hs T hm))
theorem Xt.cons {x : Nat} (h : Lies w x T cs) (hx : Xt w X Ts) : Xt w (x :: X) (T :: Ts) := by
  intro y hy
  rcases List.mem_cons.1 hy with rfl | hy
  · exact ⟨T, by simp, cs, h⟩
  · obtain ⟨T', hT', r⟩ := hx y hy; exact ⟨T', by simp [hT'], r⟩
theorem Xt.nil : Xt w [] [] := fun _ h => by simp at h
theorem Xt.row {e : TypeId} {n : Nat} {u : Value} {xs : List Value} (h : w.ownsRow N e 1 u n xs) : Xt w u.ownBlock.toList [e] := by
  intro y hy
  obtain ⟨cs, hl⟩ := own_lies h y (by simpa using hy)
  exact ⟨e, by simp, cs, hl⟩
theorem StAt.lies {m3u tag : Bool} {v al : Value} (h : StAt w S m3u tag v al) : ∃ cs, Lies w S 112 cs := by obtain ⟨cs, h, _⟩ := h; exact ⟨cs, h⟩
theorem PlAt.lies {vs : Value} {ver : Int} {ind : Bool} (h : PlAt w P vs ver ind) : ∃ cs, Lies w P 81 cs := by obtain ⟨cs, h, _⟩ := h; exact ⟨cs, h⟩
theorem StAt.xt {m3u tag : Bool} {v al : Value} (h : StAt w S m3u tag v al) (hb : But X w w') (hx : Xt w X Ts) (hT : (112 : TypeId) ∉ Ts) : StAt w' S m3u tag v al := by
  obtain ⟨cs, h, r⟩ := h; exact ⟨cs, h.xt hb hx hT, r⟩
theorem PlAt.xt {vs : Value} {ver : Int} {ind : Bool} (h : PlAt w P vs ver ind) (hb : But X w w') (hx : Xt w X Ts) (hT : (81 : TypeId) ∉ Ts) : PlAt w' P vs ver ind := by
  obtain ⟨cs, h, r⟩ := h; exact ⟨cs, h.xt hb hx hT, r⟩
end
def Ptrs (l : List (Nat × Array Value)) : List Value := l.map fun p => .pointer (some ⟨p.1, 0, none⟩)
structure RdEx (N P S : Nat) (w : World) (s : RS) (v al vs : Value) (As Vs : List (Nat × Array Value)) : Prop where
  st : StAt w S s.m3u s.opn.isSome v al
  pl : PlAt w P vs s.ver s.ind
  ra : w.ownsRow N 99 1 al s.alts.length (Ptrs As)
  rv : w.ownsRow N 92 1 vs s.all.length (Ptrs Vs)
  ea : As.map Prod.snd = s.alts.map altC
  ev : Vs.map Prod.snd = s.all
  la : ∀ p ∈ As, Lies w p.1 101 p.2 ∧ N ≤ p.1
  lv : ∀ p ∈ Vs, Lies w p.1 98 p.2 ∧ N ≤ p.1
  a0 : s.alts = [] → al = .slice none 0 0
  vo : ∀ x, s.opn = some x → ∃ V l, Vs = l ++ [(V, opnC x)] ∧ v = .pointer (some ⟨V, 0, none⟩)
  nd : (Vs.map Prod.fst).Nodup
structure RdAt (N P S : Nat) (w : World) (s : RS) : Prop where
  NP : N ≤ P
  NS : N ≤ S
  ex : ∃ v al vs As Vs, RdEx N P S w s v al vs As Vs
theorem RdEx.below {N P S : Nat} {w w' : World} {s : RS} {v al vs : Value} {As Vs : List (Nat × Array Value)} (h : RdEx N P S w s v al vs As Vs) (hb : Below w.heap.size w w') : RdEx N P S w' s v al vs As Vs :=
  { h with st := h.st.below hb, pl := h.pl.below hb, ra := row_below h.ra hb, rv := row_below h.rv hb, la := fun p hp => ⟨(h.la p hp).1.below hb, (h.la p hp).2⟩, lv := fun p hp => ⟨(h.lv p hp).1.below hb, (h.lv p hp).2⟩ }
theorem below_down {N : Nat} {w w' : World} (h : Below w.heap.size w w') (hN : N ≤ w.heap.size) : Below N w w' := ⟨h.os, h.tape, h.output, h.size, fun k hk => h.block k (by omega)⟩
theorem opn_none {s : RS} (h : s.opn = none) : s.all = s.vars.map VarS.cells := by simp [RS.all, h]
def LineEnd (N P S : Nat) (w : World) (s : RS) (e : Ending) (w' : World) : Prop := e = .returned .nilIface ∧ RdAt N P S w' s ∧ Below N w w' ∧ Keeps w w'
theorem line_signs_size {it : Item} (h : it.Good) {ws : Line} (hws : ws.length ≤ 10) : it.line.length + ws.length ≤ 100000 := by have := line_len h; omega
set_option maxHeartbeats 2000000 in
theorem item_calls {N : Nat} (it : Item) (ws : Line) (P S : Nat) (s : RS) (w : World) (hB : Base N w) (hg : it.Good) (hc : s.can it) (hw : ∀ c ∈ ws, Lib.isSp c = true ∧ c < 128) (hws : ws.length ≤ 10) (hR : RdAt N P S w s) :
    Calls Tryz.prog 36 #[.pointer (some ⟨P, 0, none⟩), .pointer (some ⟨S, 0, none⟩), .string (bs (it.line ++ ws)), .bool true] w (LineEnd N P S w (s.step it)) := by
  obtain ⟨NP, NS, v, al, vs, As, Vs, h⟩ := hR
  have hsz := line_signs_size hg hws
  have ht := line_trimmed hg
  have hN := hB.size
  obtain ⟨csS, lS⟩ := h.st.lies
  obtain ⟨csP, lP⟩ := h.pl.lies
  have xPS : Xt w [P, S] [81, 112] := .cons lP (.cons lS .nil)
  have nPS : ∀ k ∈ [P, S], N ≤ k := by simp [NP, NS]
  cases it with
  | noise l =>
    refine (line_nothing _ ws P S _ _ _ v al vs _ w hB ht hw hsz h.st h.pl (kind_noise hg)).mono ?_
    rintro e w' ⟨rfl, hb⟩
    exact ⟨rfl, ⟨NP, NS, v, al, vs, As, Vs, h.below hb⟩, below_down hb hN, .of_below hb⟩
  | blank =>
    have hst := h.st
    rw [show s.opn = none from hc] at hst
    refine (line_blank _ ws P S _ _ v al vs _ w hB ht hw hsz hst h.pl kind_blank).mono ?_
    rintro e w' ⟨rfl, hb⟩
    exact ⟨rfl, ⟨NP, NS, v, al, vs, As, Vs, h.below hb⟩, below_down hb hN, .of_below hb⟩
  | m3u =>
    have xS : Xt w [S] [112] := .cons lS .nil
    refine (line_m3u _ ws P S _ _ _ v al vs _ w hB ht hw hsz h.st h.pl kind_m3u).mono ?_
    rintro e w' ⟨rfl, hst, hb⟩
    exact ⟨rfl, ⟨NP, NS, v, al, vs, As, Vs, { h with st := hst, pl := h.pl.xt hb xS (by decide), ra := row_xt h.ra hb xS (by decide), rv := row_xt h.rv hb xS (by decide), la := fun p hp => ⟨(h.la p hp).1.xt hb xS (by decide), (h.la p hp).2⟩, lv := fun p hp => ⟨(h.lv p hp).1.xt hb xS (by decide), (h.lv p hp).2⟩ }⟩, hb.belowN (by simp [NS]) hN, keeps_of_but hb xS (by decide)⟩
  | indep =>
    have xP : Xt w [P] [81] := .cons lP .nil
    refine (line_independent _ ws P S _ _ _ v al vs _ w hB ht hw hsz h.st h.pl kind_indep).mono ?_
    rintro e w' ⟨rfl, hpl, hb⟩
    exact ⟨rfl, ⟨NP, NS, v, al, vs, As, Vs, { h with st := h.st.xt hb xP (by decide), pl := hpl, ra := row_xt h.ra hb xP (by decide), rv := row_xt h.rv hb xP (by decide), la := fun p hp => ⟨(h.la p hp).1.xt hb xP (by decide), (h.la p hp).2⟩, lv := fun p hp => ⟨(h.lv p hp).1.xt hb xP (by decide), (h.lv p hp).2⟩ }⟩, hb.belowN (by simp [NP]) hN, keeps_of_but hb xP (by decide)⟩
  | ver n =>
    refine (line_version _ ws P S _ _ _ v al vs _ n w hB ht hw hsz h.st h.pl hg (Lib.hid (by rw [bs_size]; simp [Item.line, verHead])) (Lib.hid (bs_rest (by simp [Item.line, verHead]))) (kind_ver n)).mono ?_
    rintro e w' ⟨rfl, hpl, hst, hb⟩
    exact ⟨rfl, ⟨NP, NS, v, al, vs, As, Vs, { h with st := hst, pl := hpl, ra := row_xt h.ra hb xPS (by decide), rv := row_xt h.rv hb xPS (by decide), la := fun p hp => ⟨(h.la p hp).1.xt hb xPS (by decide), (h.la p hp).2⟩, lv := fun p hp => ⟨(h.lv p hp).1.xt hb xPS (by decide), (h.lv p hp).2⟩ }⟩, hb.belowN nPS hN, keeps_of_but hb xPS (by decide)⟩
  | alt a =>
    have xA : Xt w (S :: al.ownBlock.toList) [112, 99] := .cons lS (.row h.ra)
    have hl := AltR.Good.len hg
    refine (line_media (H := Nat) _ ws a.attrs P S _ _ _ v al vs _ _ (Ptrs As) w hB ht hw hsz h.st h.pl (kind_alt a) (Lib.hid (by rw [bs_size]; simp [Item.line, altHead])) (Lib.hid (bs_rest (by simp [Item.line, altHead]))) (fun x hx => (AltR.Good.attrT hg x hx).ok) a.key a.nodup (by omega) h.ra (by have : s.alts.length < 1000 := hc; omega)).mono ?_
    rintro e w' ⟨rfl, al', A, hst, hpl, hra, hlA, hA, hb⟩
    refine ⟨rfl, ⟨NP, NS, v, al', vs, As ++ [(A, altC a)], Vs, { st := hst, pl := hpl, ra := ?_, rv := row_xt h.rv hb xA (by decide), ea := ?_, ev := h.ev, la := ?_, lv := fun p hp => ⟨(h.lv p hp).1.xt hb xA (by decide), (h.lv p hp).2⟩, a0 := ?_, vo := h.vo, nd := h.nd }⟩, hb.belowN ?_ hN, keeps_of_but hb xA (by decide)⟩
    · simp only [RS.step, List.length_append, List.length_cons, List.length_nil, Ptrs, List.map_append, List.map_cons, List.map_nil]
      exact hra
    · simp [RS.step, h.ea]
    · intro p hp
      rcases List.mem_append.1 hp with hp | hp
      · exact ⟨(h.la p hp).1.xt hb xA (by decide), (h.la p hp).2⟩
      · simp at hp; subst hp; exact ⟨hlA, by show N ≤ A; omega⟩
    · intro h0; simp [RS.step] at h0
    · intro k hk
      rcases List.mem_cons.1 hk with rfl | hk
      · exact NS
      · exact own_base h.ra k (by simpa using hk)
  | inf x =>
    obtain ⟨hc0, hc1⟩ := hc
    have xV : Xt w (P :: S :: vs.ownBlock.toList) [81, 112, 92] := .cons lP (.cons lS (.row h.rv))
    have hl := VarR.Good.len hg
    have hst0 := h.st
    have hall := opn_none hc0
    rw [show s.opn.isSome = false by rw [hc0]; rfl] at hst0
    refine (line_inf (H := Nat) rateOf _ ws x.attrs P S _ _ v al vs _ _ (Ptrs Vs) w hB ht hw hsz hst0 h.pl (kind_inf x) (Lib.hid (by rw [bs_size]; simp [Item.line, infHead])) (Lib.hid (bs_rest (by simp [Item.line, infHead]))) (fun y hy => (VarR.Good.attrT hg y hy).ok) x.nodup (by omega) (VarR.Good.key hg N) h.rv (by rw [hall, List.length_map]; omega) rateOf_nil NP NS).mono ?_
    rintro e w' ⟨rfl, vs', V, hst, hpl, hrv, hlV, hV, hb⟩
    refine ⟨rfl, ⟨NP, NS, _, al, vs', As, Vs ++ [(V, opnC x)], { st := hst, pl := hpl, ra := row_xt h.ra hb xV (by decide), rv := ?_, ea := h.ea, ev := ?_, la := fun p hp => ⟨(h.la p hp).1.xt hb xV (by decide), (h.la p hp).2⟩, lv := ?_, a0 := h.a0, vo := ?_, nd := ?_ }⟩, hb.belowN ?_ hN, keeps_of_but hb xV (by decide)⟩
    · rw [hall] at hrv
      simp only [RS.all, RS.step, Option.map_some, Option.toList, List.length_append, List.length_cons, List.length_nil, Ptrs, List.map_append, List.map_cons, List.map_nil]
      exact hrv
    · simp [RS.step, RS.all, h.ev, hall, hc0]
    · intro p hp
      rcases List.mem_append.1 hp with hp | hp
      · exact ⟨(h.lv p hp).1.xt hb xV (by decide), (h.lv p hp).2⟩
      · simp at hp; subst hp; exact ⟨hlV, by show N ≤ V; omega⟩
    · intro c hcc
      simp only [RS.step, Option.some.injEq] at hcc
      subst hcc
      exact ⟨V, Vs, rfl, rfl⟩
    · rw [List.map_append, List.map_singleton]
      refine List.nodup_append.2 ⟨h.nd, by simp, ?_⟩
      intro a ha b hb' e
      simp at hb'
      obtain ⟨p, hp, rfl⟩ := List.mem_map.1 ha
      have := (h.lv p hp).1.lt
      omega
    · intro k hk
      simp only [List.mem_cons] at hk
      rcases hk with rfl | rfl | hk
      · exact NP
      · exact NS
      · exact own_base h.rv k (by simpa using hk)
  | fr x =>
    obtain ⟨hc0, hca, hc1⟩ := hc
    have xV : Xt w (P :: S :: vs.ownBlock.toList) [81, 112, 92] := .cons lP (.cons lS (.row h.rv))
    have hl := VarR.Good.flen hg
    have hst0 := h.st
    have hall := opn_none hc0
    rw [show s.opn.isSome = false by rw [hc0]; rfl] at hst0
    have hal := h.a0 hca
    subst hal
    refine (line_frames (H := Nat) _ ws x.frAttrs P S _ _ v vs _ _ (Ptrs Vs) w hB ht hw hsz hst0 h.pl (kind_fr x) (Lib.hid (by rw [bs_size]; simp [Item.line, frHead])) (Lib.hid (bs_rest (by simp [Item.line, frHead]))) (fun y hy => (VarR.Good.fattrT hg y hy).ok) x.fnodup (by omega) (VarR.Good.fkey hg) h.rv (by rw [hall, List.length_map]; omega) NP NS).mono ?_
    rintro e w' ⟨rfl, vs', V, hst, hpl, hrv, hlV, hV, hb⟩
    refine ⟨rfl, ⟨NP, NS, .pointer (some ⟨V, 0, none⟩), .slice none 0 0, vs', As, Vs ++ [(V, VarS.cells ⟨true, x, []⟩)], { st := ?_, pl := hpl, ra := row_xt h.ra hb xV (by decide), rv := ?_, ea := h.ea, ev := ?_, la := fun p hp => ⟨(h.la p hp).1.xt hb xV (by decide), (h.la p hp).2⟩, lv := ?_, a0 := h.a0, vo := ?_, nd := ?_ }⟩, hb.belowN ?_ hN, keeps_of_but hb xV (by decide)⟩
    · simp only [RS.step, hc0]; exact hst
    · rw [hall] at hrv
      simp only [RS.all, RS.step, hc0, Option.map_none, Option.toList, List.append_nil, List.length_append, List.length_cons, List.length_nil, Ptrs, List.map_append, List.map_cons, List.map_nil]
      exact hrv
    · simp [RS.step, RS.all, h.ev, hall, hc0]
    · intro p hp
      rcases List.mem_append.1 hp with hp | hp
      · exact ⟨(h.lv p hp).1.xt hb xV (by decide), (h.lv p hp).2⟩
      · simp at hp; subst hp; exact ⟨hlV, by show N ≤ V; omega⟩
    · intro c hcc
      simp [RS.step, hc0] at hcc
    · rw [List.map_append, List.map_singleton]
      refine List.nodup_append.2 ⟨h.nd, by simp, ?_⟩
      intro a ha b hb' e
      simp at hb'
      obtain ⟨p, hp, rfl⟩ := List.mem_map.1 ha
      have := (h.lv p hp).1.lt
      omega
    · intro k hk
      simp only [List.mem_cons] at hk
      rcases hk with rfl | rfl | hk
      · exact NP
      · exact NS
      · exact own_base h.rv k (by simpa using hk)
  | uri l =>
    cases hop : s.opn with
    | none => exact absurd hop hc
    | some c =>
    obtain ⟨V, l0, rfl, rfl⟩ := h.vo c hop
    have hst0 := h.st
    rw [show s.opn.isSome = true by rw [hop]; rfl] at hst0
    have hlV := h.lv (V, opnC c) (by simp)
    have hsize : (opnC c).size = 17 := by simp [opnC, vCells]
    have xV : Xt w [V, S] [98, 112] := .cons hlV.1 (.cons lS .nil)
    refine (line_uri _ ws P S _ _ al vs _ V (opnC c) ((opnC c)[0]'(by omega)) w hB ht hw hsz hst0 h.pl hlV.1 (Lib.hid (by simp)) (kind_uri hg.2.1)).mono ?_
    rintro e w' ⟨rfl, hst, hlV', hb⟩
    have hall : s.all = s.vars.map VarS.cells ++ [opnC c] := by simp [RS.all, hop]
    have hev := h.ev
    rw [hall, List.map_append, List.map_singleton] at hev
    obtain ⟨hev1, _⟩ := List.append_inj' hev rfl
    have hnd := h.nd
    rw [List.map_append, List.map_singleton] at hnd
    refine ⟨rfl, ⟨NP, NS, _, al, vs, As, l0 ++ [(V, VarS.cells ⟨false, c, l⟩)], { st := hst, pl := h.pl.xt hb xV (by decide), ra := row_xt h.ra hb xV (by decide), rv := ?_, ea := h.ea, ev := ?_, la := fun p hp => ⟨(h.la p hp).1.xt hb xV (by decide), (h.la p hp).2⟩, lv := ?_, a0 := h.a0, vo := ?_, nd := ?_ }⟩, hb.belowN ?_ hN, keeps_of_but hb xV (by decide)⟩
    · have := row_xt h.rv hb xV (by decide)
      rw [hall] at this
      simp only [RS.all, RS.step, hop, Option.map_some, Option.toList, List.append_nil, List.length_append, List.length_cons, List.length_nil, Ptrs, List.map_append, List.map_cons, List.map_nil] at this ⊢
      exact this
    · simp [RS.step, RS.all, hop, hev1]
    · intro p hp
      rcases List.mem_append.1 hp with hp | hp
      · have hlp := h.lv p (by simp [hp])
        refine ⟨hlp.1.but hb ?_, hlp.2⟩
        simp only [List.mem_cons, List.not_mem_nil, or_false, not_or]
        refine ⟨fun e => ?_, hlp.1.ne lS (by decide)⟩
        exact (List.nodup_append.1 hnd).2.2 p.1 (List.mem_map_of_mem hp) V (by simp) e
      · simp at hp; subst hp; exact ⟨hlV', hlV.2⟩
    · intro c' hcc
      simp [RS.step] at hcc
    · rw [List.map_append, List.map_singleton]; exact hnd
    · intro k hk
      simp only [List.mem_cons, List.not_mem_nil, or_false] at hk
      rcases hk with rfl | rfl
      · exact hlV.2
      · exact NS
end Go.Proofs.YtlghdacdpkaoeaaGreatDoor
