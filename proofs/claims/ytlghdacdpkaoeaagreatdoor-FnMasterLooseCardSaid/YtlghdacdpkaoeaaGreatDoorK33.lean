import Derived.Test.YtlghdacdpkaoeaaGreatDoorK14
import Derived.Test.YtlghdacdpkaoeaaGreatDoorK32
import Derived.LaidEql
namespace Go.Proofs.YtlghdacdpkaoeaaGreatDoor
open Go.RowKit Go.Proofs.YtlghdacdpkaoeaaGreatDoorW.PrintWords Go.Maps
open Go.Lib hiding intOf
set_option linter.unusedVariables false
set_option linter.unusedSimpArgs false
structure BaseE (N : Nat) (w : World) : Prop where
  base : Base N w
  eof : ∃ a, w.cell? ⟨1, 0, none⟩ = some (.iface 136 (.pointer (some a)))
theorem BaseE.below {N : Nat} {w w' : World} (h : BaseE N w) (hb : Below N w w') : BaseE N w' :=
  ⟨h.base.below hb, by obtain ⟨a, e⟩ := h.eof; exact ⟨a, (hb.cell h.base.big.1).trans e⟩⟩
theorem eql_err (W : World) (a : Addr) : (binOp .eql 64 (.iface 136 (.pointer (some a))) (.iface 136 (.pointer (some a)))).run Tryz.prog W = .ok (.bool true) W := by
  obtain ⟨ms, hi⟩ : ∃ ms, Tryz.prog.underlying 64 = some (.interface ms) := ⟨_, Tryz.underlying64⟩
  have h1 : ((Tryz.prog.info? 136).map (fun i => i.comparable)) = some true := by kernel_rfl
  have h2 : ((Tryz.prog.info? 138).isSome) = true := by kernel_rfl
  obtain ⟨i, hi1, hi2⟩ := Option.map_eq_some_iff.1 h1
  obtain ⟨j, hj⟩ := Option.isSome_iff_exists.1 h2
  exact run_eql_iface_ptr_same W a hi Tryz.underlying136 hi1 hi2 hj
theorem eql_nil (W : World) (tp : TypeId) (v : Value) : (binOp .eql 64 .nilIface (.iface tp v)).run Tryz.prog W = .ok (.bool false) W := by
  obtain ⟨ms, hi⟩ : ∃ ms, Tryz.prog.underlying 64 = some (.interface ms) := ⟨_, Tryz.underlying64⟩
  exact run_eql_iface_nil_left W tp v hi
structure RSok (s : RS) : Prop where
  na : s.alts.length ≤ 1000
  nv : s.vars.length + s.opn.toList.length ≤ 1000
  ga : ∀ a ∈ s.alts, a.Good
theorem RSok.start : RSok RS.start := ⟨by simp [RS.start], by simp [RS.start], by simp [RS.start]⟩
theorem RSok.step {s : RS} {it : Item} (h : RSok s) (hg : it.Good) (hc : s.can it) : RSok (s.step it) := by
  obtain ⟨h1, h2, h3⟩ := h
  cases it with
  | alt a =>
    have : s.alts.length < 1000 := hc
    refine ⟨by simp [RS.step]; omega, h2, ?_⟩
    intro x hx
    rcases List.mem_append.1 hx with hx | hx
    · exact h3 x hx
    · simp at hx; subst hx; exact hg
  | inf v => exact ⟨h1, by simp [RS.step]; have := hc.2; omega, h3⟩
  | uri l =>
    refine ⟨h1, ?_, h3⟩
    simp only [RS.step, List.length_append, Option.toList_none, List.length_nil]
    cases ho : s.opn with
    | none => rw [ho] at h2; simp at h2 ⊢; exact h2
    | some v => rw [ho] at h2; simp at h2 ⊢; omega
  | fr v =>
    obtain ⟨hc1, hc2, hc3⟩ := hc
    refine ⟨h1, ?_, h3⟩
    simp only [RS.step, List.length_append, hc1]
    simp; omega
  | _ => exact ⟨h1, h2, h3⟩
theorem RSok.run : ∀ {l : List Item} {s : RS}, RSok s → s.okay l → RSok (s.run l)
  | [], s, h, _ => h
  | it :: r, s, h, ho => (RSok.run (h.step ho.1 ho.2.1) ho.2.2 : RSok ((s.step it).run r))
def restT (r : List (Item × Bool)) : List UInt8 := unlines (r.map lineOf)
theorem restT_append (a b : List (Item × Bool)) : restT (a ++ b) = restT a ++ restT b := by simp [restT, unlines_append]
theorem restT_drop (a b : List (Item × Bool)) : (restT (a ++ b)).drop ((restT (a ++ b)).length - (restT b).length) = restT b := by
  rw [restT_append, List.length_append, Nat.add_sub_cancel, List.drop_left]
theorem lineOf_no10 {p : Item × Bool} (h : p.1.Good) : (10 : UInt8) ∉ lineOf p := by
  obtain ⟨h1, _⟩ := line_no10 h
  intro hm
  rcases List.mem_append.1 hm with hm | hm
  · exact h1 hm
  · unfold crOf at hm; split at hm <;> simp at hm
theorem RdEx.other {N P S : Nat} {w w' : World} {X : List Nat} {Ts : List TypeId} {s : RS} {v al vs : Value} {As Vs : List (Nat × Array Value)} (h : RdEx N P S w s v al vs As Vs) (hb : But X w w') (hx : Xt w X Ts) (hT : ∀ T ∈ 101 :: mineT, T ∉ Ts) : RdEx N P S w' s v al vs As Vs :=
  { h with st := h.st.xt hb hx (hT _ (by decide)), pl := h.pl.xt hb hx (hT _ (by decide)), ra := row_xt h.ra hb hx (hT _ (by decide)), rv := row_xt h.rv hb hx (hT _ (by decide)), la := fun p hp => ⟨(h.la p hp).1.xt hb hx (hT _ (by decide)), (h.la p hp).2⟩, lv := fun p hp => ⟨(h.lv p hp).1.xt hb hx (hT _ (by decide)), (h.lv p hp).2⟩ }
theorem RdAt.other {N P S : Nat} {w w' : World} {X : List Nat} {Ts : List TypeId} {s : RS} (h : RdAt N P S w s) (hb : But X w w') (hx : Xt w X Ts) (hT : ∀ T ∈ 101 :: mineT, T ∉ Ts) : RdAt N P S w' s := by
  obtain ⟨v, al, vs, As, Vs, h'⟩ := h.ex; exact ⟨h.NP, h.NS, v, al, vs, As, Vs, h'.other hb hx hT⟩
theorem BufAt.keeps {w w' : World} {B D : Nat} {l : List UInt8} {o cap : Nat} {cu : Array Value} (h : BufAt w B D l o cap cu) (hk : Keeps w w') : BufAt w' B D l o cap cu := by
  obtain ⟨⟨lr, hb⟩, hr, r1, r2, r3, r4⟩ := h
  exact ⟨⟨lr, hk _ _ _ hb (by decide)⟩, hk _ _ _ hr (by decide), r1, r2, r3, r4⟩
theorem BufAt.xt {w : World} {B D : Nat} {l : List UInt8} {o cap : Nat} {cu : Array Value} (h : BufAt w B D l o cap cu) : Xt w [B] [79] := by
  obtain ⟨⟨lr, hb⟩, _⟩ := h
  exact .cons hb .nil
theorem crOf_sp (b : Bool) : ∀ c ∈ crOf b ++ [10], Lib.isSp c = true ∧ c < 128 := by cases b <;> decide
theorem crOf_len (b : Bool) : (crOf b ++ [10]).length ≤ 10 := by cases b <;> decide
theorem eof_but {N B : Nat} {w w' : World} {v : Value} (hb : But [B] w w') (hg : 1 < N) (hNB : N ≤ B) (hN : N ≤ w.heap.size) (h : w.cell? ⟨1, 0, none⟩ = some v) : w'.cell? ⟨1, 0, none⟩ = some v :=
  ((hb.belowN (by simp [hNB]) hN).cell hg).trans h
def DecRel (N P S B D cap : Nat) (cu : Array Value) (its : List (Item × Bool)) (w0 : World) (k : Nat) (v : Value) (w : World) : Prop :=
  (∃ done rest, its = done ++ rest ∧ k = rest.length + 1 ∧ v = .bool false ∧ BufAt w B D (restT its) ((restT its).length - (restT rest).length) cap cu ∧ RdAt N P S w (RS.start.run (done.map Prod.fst)) ∧ Below N w0 w) ∨
  (k = 0 ∧ v = .bool true ∧ RdAt N P S w (RS.start.run (its.map Prod.fst)) ∧ Below N w0 w)
structure DoneAt (N P : Nat) (w : World) (s : RS) : Prop where
  ex : ∃ vs As Vs, PlAt w P vs s.ver s.ind ∧ w.ownsRow N 92 1 vs Vs.length (PtrsA Vs) ∧ As.map Prod.snd = s.alts ∧ Vs.map Prod.snd = s.vars ∧ (∀ p ∈ As, Lies w p.1 101 (altC p.2) ∧ N ≤ p.1) ∧ (∀ p ∈ Vs, Att N As w p ∧ N ≤ p.1)
def errOf (b : Bool) (v : Value) : Prop := if b then v = .nilIface else ∃ t a, v = .iface t (.pointer (some a))
theorem errors_New (s : ByteArray) (w : World) : Calls Tryz.prog 38 #[.string s] w fun e w' => e = .returned (.iface 136 (.pointer (some ⟨w.heap.size, 0, none⟩))) ∧ Below w.heap.size w w' := by
  go_enter Tryz.func38, Tryz.ntmps38
  go_wp2
  go_ret
  exact ⟨rfl, (Below.refl _ _).alloc (Nat.le_refl _) _⟩
structure AtPre (N P S : Nat) (w : World) (s : RS) (v al vs : Value) (As : List (Nat × AltR)) (Vs : List (Nat × VarS)) : Prop where
  st : StAt w S s.m3u false v al
  pl : PlAt w P vs s.ver s.ind
  ra : w.ownsRow N 99 1 al As.length (PtrsA As)
  rv : w.ownsRow N 92 1 vs Vs.length (PtrsA Vs)
  la : ∀ p ∈ As, Lies w p.1 101 (altC p.2) ∧ p.2.Good
  lan : ∀ p ∈ As, N ≤ p.1
  lv : ∀ p ∈ Vs, Lies w p.1 98 p.2.cells ∧ N ≤ p.1
  nd : (Vs.map Prod.fst).Nodup
  hf : As = [] ∨ ∀ p ∈ Vs, p.2.fr = false
  na : As.length ≤ 1000
  nv : Vs.length ≤ 1000
  ea : As.map Prod.snd = s.alts
  ev : Vs.map Prod.snd = s.vars
theorem rd_attach {N P S : Nat} {w : World} {s : RS} (h : RdAt N P S w s) (hs : RSok s) (ho : s.opn = none) (hfr : s.alts = [] ∨ ∀ x ∈ s.vars, x.fr = false) : ∃ v al vs As Vs, AtPre N P S w s v al vs As Vs := by
  obtain ⟨_, _, v, al, vs, As, Vs, h⟩ := h
  obtain ⟨As', rfl, ea⟩ := unmap h.ea
  have hev := h.ev
  rw [opn_none ho] at hev
  obtain ⟨Vs', rfl, ev⟩ := unmap hev
  have pa : Ptrs (As'.map fun p => (p.1, altC p.2)) = PtrsA As' := by simp [Ptrs, PtrsA]
  have pv : Ptrs (Vs'.map fun p => (p.1, p.2.cells)) = PtrsA Vs' := by simp [Ptrs, PtrsA]
  have la : s.alts.length = As'.length := by rw [← ea]; simp
  have lv : s.all.length = Vs'.length := by rw [opn_none ho, ← ev]; simp
  refine ⟨v, al, vs, As', Vs', ⟨?_, h.pl, ?_, ?_, ?_, ?_, ?_, ?_, ?_, ?_, ?_, ea, ev⟩⟩
  · have := h.st; rw [ho] at this; exact this
  · rw [← pa, ← la]; exact h.ra
  · rw [← pv, ← lv]; exact h.rv
  · intro p hp
    refine ⟨(h.la (p.1, altC p.2) (List.mem_map.2 ⟨p, hp, rfl⟩)).1, hs.ga p.2 ?_⟩
    rw [← ea]; exact List.mem_map_of_mem hp
  · exact fun p hp => (h.la (p.1, altC p.2) (List.mem_map.2 ⟨p, hp, rfl⟩)).2
  · exact fun p hp => h.lv (p.1, p.2.cells) (List.mem_map.2 ⟨p, hp, rfl⟩)
  · have := h.nd; rw [List.map_map] at this; exact this
  · rcases hfr with h0 | h0
    · left; rw [h0] at ea; simpa using ea
    · right; intro p hp; refine h0 p.2 ?_; rw [← ev]; exact List.mem_map_of_mem hp
  · rw [← la]; exact hs.na
  · rw [← lv, opn_none ho, List.length_map]; have := hs.nv; omega
theorem AtPre.done {N P S : Nat} {w w' : World} {s : RS} {v al vs : Value} {As : List (Nat × AltR)} {Vs : List (Nat × VarS)} (h : AtPre N P S w s v al vs As Vs) (hA : ∀ p ∈ Vs, Att N As w' p) (hB : But (Vs.map Prod.fst) w w') : DoneAt N P w' s := by
  have hx := xt_vars h.lv (fun p hp => hp)
  exact ⟨vs, As, Vs, h.pl.xt hB hx (by decide), row_xt h.rv hB hx (by decide), h.ea, h.ev, fun p hp => ⟨(h.la p hp).1.xt hB hx (by decide), h.lan p hp⟩, fun p hp => ⟨hA p hp, (h.lv p hp).2⟩⟩
theorem Att.below {N : Nat} {As : List (Nat × AltR)} {w w' : World} {p : Nat × VarS} (h : Att N As w p) (hb : Below w.heap.size w w') : Att N As w' p := by
  obtain ⟨sl, h1, h2⟩ := h
  exact ⟨sl, h1.below hb, row_below h2 hb⟩
theorem DoneAt.below {N P : Nat} {w w' : World} {s : RS} (h : DoneAt N P w s) (hb : Below w.heap.size w w') : DoneAt N P w' s := by
  obtain ⟨vs, As, Vs, h1, h2, h3, h4, h5, h6⟩ := h
  exact ⟨vs, As, Vs, h1.below hb, row_below h2 hb, h3, h4, fun p hp => ⟨(h5 p hp).1.below hb, (h5 p hp).2⟩, fun p hp => ⟨(h6 p hp).1.below hb, (h6 p hp).2⟩⟩
theorem AtPre.below {N P S : Nat} {w w' : World} {s : RS} {v al vs : Value} {As : List (Nat × AltR)} {Vs : List (Nat × VarS)} (h : AtPre N P S w s v al vs As Vs) (hN : N ≤ w.heap.size) (hB : But (Vs.map Prod.fst) w w') : Below N w w' :=
  hB.belowN (fun k hk => by obtain ⟨p, hp, rfl⟩ := List.mem_map.1 hk; exact (h.lv p hp).2) hN
theorem start_rd {N P : Nat} {w : World} (hP : PlAt w P (.slice none 0 0) 3 false) (hNP : N ≤ P) (hN : N ≤ w.heap.size) (z : Array Value) (hz : z.size = 20) (h1 : z[1]? = some (.bool false)) (h2 : z[2]? = some (.bool false)) (h3 : z[15]? = some (.pointer none)) (h4 : z[16]? = some (.slice none 0 0)) :
    RdAt N P w.heap.size (w.alloc (.cells z 112)) RS.start :=
  ⟨hNP, hN, .pointer none, .slice none 0 0, .slice none 0 0, [], [], { st := ⟨z, heap_alloc_new w _, hz, h1, h2, h3, h4⟩, pl := hP.alloc _, ra := World.ownsRow_nil _ _ _ _, rv := World.ownsRow_nil _ _ _ _, ea := rfl, ev := rfl, la := by simp, lv := by simp, a0 := fun _ => rfl, vo := by simp [RS.start], nd := by simp }⟩
theorem BufAt.below {w w' : World} {B D : Nat} {l : List UInt8} {o cap : Nat} {cu : Array Value} (h : BufAt w B D l o cap cu) (hb : Below w.heap.size w w') : BufAt w' B D l o cap cu := h.keeps (.of_below hb)
theorem unl_cons (p : Item × Bool) (r : List (Item × Bool)) : restT (p :: r) = lineOf p ++ 10 :: restT r := rfl
theorem okay_at {s : RS} {done r : List (Item × Bool)} {p : Item × Bool} (h : s.okay ((done ++ p :: r).map Prod.fst)) : p.1.Good ∧ (s.run (done.map Prod.fst)).can p.1 := by
  rw [List.map_append, List.map_cons, RS.okay_append] at h
  exact ⟨h.2.1, h.2.2.1⟩
theorem run_at {s : RS} {done : List (Item × Bool)} {p : Item × Bool} : s.run ((done ++ [p]).map Prod.fst) = (s.run (done.map Prod.fst)).step p.1 := by
  rw [List.map_append, RS.run_append]; rfl
set_option maxRecDepth 100000 in
set_option maxHeartbeats 8000000 in
theorem decode_calls {N P B D cap : Nat} {cu : Array Value} (its : List (Item × Bool)) (w : World) (hE : BaseE N w) (hP : PlAt w P (.slice none 0 0) 3 false) (hNP : N ≤ P) (hNB : N ≤ B) (hBuf : BufAt w B D (restT its) 0 cap cu) (hok : RS.start.okay (its.map Prod.fst)) (hopn : (RS.start.run (its.map Prod.fst)).opn = none)
    (hfr : (RS.start.run (its.map Prod.fst)).alts = [] ∨ ∀ x ∈ (RS.start.run (its.map Prod.fst)).vars, x.fr = false) :
    Calls Tryz.prog 30 #[.pointer (some ⟨P, 0, none⟩), .pointer (some ⟨B, 0, none⟩), .bool true] w fun e w' => ∃ v, e = .returned v ∧ errOf (RS.start.run (its.map Prod.fst)).m3u v ∧ DoneAt N P w' (RS.start.run (its.map Prod.fst)) ∧ Below N w w' := by
  have hN := hE.base.size
  have lP := hP.lt
  have lB : B < w.heap.size := by obtain ⟨⟨lr, hb⟩, _⟩ := hBuf; exact hb.lt
  have HE := Lib.hid hE
  have HP := Lib.hid hP
  have HBuf := Lib.hid hBuf
  have HOK := Lib.hid hok
  have HOP := Lib.hid hopn
  have HFR := Lib.hid hfr
  clear hE hP hBuf hok hopn hfr
  go_enter Tryz.func30, Tryz.ntmps30
  go_wp2_with fail
  have hS : Hid (RdAt N P w.heap.size (w.alloc (.cells #[.int .u64 0, .bool false, .bool false, .bool false, .bool false, .bool false, .bool false, .bool false, .bool false, .bool false, .string ⟨#[]⟩, .int .i64 0, .int .i64 0, .float .f64 0, .string ⟨#[]⟩, .pointer none, .slice none 0 0, .pointer none, .pointer none, .pointer none] 112)) RS.start) := Lib.hid (start_rd HP.out hNP hN _ rfl rfl rfl rfl rfl)
  go_loopg [7] (its.length + 1) (fun k v7 wr => DecRel N P w.heap.size B D cap cu its w k v7 wr)
  case atStart =>
    refine .inl ⟨[], its, rfl, rfl, rfl, ?_, hS.out, (Below.refl N w).alloc hN _⟩
    rw [Nat.sub_self]
    exact HBuf.out.below ((Below.refl _ w).alloc (Nat.le_refl _) _)
  case round =>
    rcases hrel with ⟨done, rest, hits, hk, rfl, hbuf, hrd, hbel⟩ | ⟨hk, rfl, hrd, hbel⟩
    · cases rest with
      | cons p r =>
        have HITS := Lib.hid hits
        have HK := Lib.hid hk
        have hgc := okay_at (by rw [← hits]; exact HOK.out)
        have HGC := Lib.hid hgc
        have hdr : (restT its).drop ((restT its).length - (restT (p :: r)).length) = lineOf p ++ 10 :: restT r := by rw [hits, restT_drop, unl_cons]
        have hoff : (restT its).length - (restT (p :: r)).length + ((lineOf p).length + 1) = (restT its).length - (restT r).length := by
          rw [hits, restT_append, List.length_append, unl_cons]; simp; omega
        have HOFF := Lib.hid hoff
        have HRS := Lib.hid (ReadString_hit _ _ hbuf hdr (lineOf_no10 hgc.1))
        have HRD := Lib.hid hrd
        have HXB := Lib.hid hbuf.xt
        have HBEL := Lib.hid hbel
        have hnil := fun W a => eql_nil W 136 (.pointer (some a))
        obtain ⟨ea, heof⟩ := (HE.out.below hbel).eof
        clear hits hk hgc hdr hoff hbuf hrd hbel
        go_wp2_with (first
          | (go_at_call 35; refine HRS.out.mono ?_; rintro e w1 ⟨rfl, hbe⟩; have HBE := Lib.hid hbe; clear hbe; have hb1 := Lib.hid (HBEL.out.trans (HBE.out.but.belowN (by simp [hNB]) (Nat.le_trans hN HBEL.out.size))); obtain ⟨ea1, heof1⟩ := (HE.out.below hb1.out).eof; have hrd1 := Lib.hid (HRD.out.other HBE.out.but HXB.out (by decide)); rw [show bs (lineOf p ++ [10]) = bs (p.1.line ++ (crOf p.2 ++ [10])) by simp [lineOf]])
          | (go_at_call 36; refine (item_calls p.1 (crOf p.2 ++ [10]) P w.heap.size _ w1 (HE.out.below hb1.out).base HGC.out.1 HGC.out.2 (crOf_sp p.2) (crOf_len p.2) hrd1.out).mono ?_; rintro e w2 ⟨rfl, hl1, hl2, hl3⟩; have HL := Lib.hid (And.intro hl1 (And.intro hl2 hl3)); clear hl1 hl2 hl3))
        go_roundg r.length.succ
        case measure => rw [HK.out]; simp
        case rel =>
          refine .inl ⟨done ++ [p], r, by rw [HITS.out]; simp, rfl, rfl, ?_, by rw [run_at]; exact HL.out.1, hb1.out.trans HL.out.2.1⟩
          rw [← HOFF.out]
          exact HBE.out.at'.keeps HL.out.2.2
      | nil =>
        have hits' : its = done := by simpa using hits
        have HITS := Lib.hid hits'
        have HK := Lib.hid hk
        have hdr : (restT its).drop ((restT its).length - (restT []).length) = [] := by
          rw [hits]; exact restT_drop done []
        obtain ⟨ea, heof⟩ := (HE.out.below hbel).eof
        have HRS := Lib.hid (ReadString_end _ hbuf (by rw [hdr]; simp) ⟨_, _, rfl⟩ heof)
        rw [hdr] at HRS
        have HRD := Lib.hid hrd
        have HXB := Lib.hid hbuf.xt
        have HBEL := Lib.hid hbel
        have heq := fun W => eql_err W ea
        have HCAN : Hid ((RS.start.run (done.map Prod.fst)).can .blank) := Lib.hid (by show _ = none; rw [← hits']; exact HOP.out)
        clear hits hits' hk hdr hbuf hrd hbel
        go_wp2_with (first
          | (go_at_call 35; refine HRS.out.mono ?_; rintro e w1 ⟨rfl, hbe⟩; have HBE := Lib.hid hbe; clear hbe; have heof1 := eof_but HBE.out.but (HE.out.below HBEL.out).base.big.1 hNB (HE.out.below HBEL.out).base.size heof; have hb1 := Lib.hid (HBEL.out.trans (HBE.out.but.belowN (by simp [hNB]) (Nat.le_trans hN HBEL.out.size))); have hrd1 := Lib.hid (HRD.out.other HBE.out.but HXB.out (by decide)))
          | (go_at_call 36; refine (item_calls .blank [] P w.heap.size _ w1 (HE.out.below hb1.out).base trivial HCAN.out (by simp) (by simp) hrd1.out).mono ?_; rintro e w2 ⟨rfl, hl1, hl2, hl3⟩; have HL := Lib.hid (And.intro hl1 (And.intro hl2 hl3)); clear hl1 hl2 hl3))
        go_roundg 0
        case measure => rw [HK.out]; simp
        case rel => exact .inr ⟨rfl, rfl, by rw [HITS.out]; exact HL.out.1, hb1.out.trans HL.out.2.1⟩
    · obtain ⟨v, al, vs, As, Vs, hat⟩ := rd_attach hrd (RSok.start.run HOK.out) HOP.out HFR.out
      have HA := Lib.hid hat
      have HBEL := Lib.hid hbel
      have hNw : N ≤ wr.heap.size := Nat.le_trans hN hbel.size
      clear hrd hbel hk hat
      obtain ⟨_, c1, _, _, c16, _, _, _, _, _⟩ := HA.out.st.cells
      cases hm3 : (RS.start.run (its.map Prod.fst)).m3u
      all_goals go_wp2_with (first | (go_at_call 38; refine (errors_New _ _).mono ?_; rintro e w4 ⟨rfl, hb4⟩) | (go_at_call 37; refine (attach_calls N P vs al _ _ As Vs wr hNw HA.out.pl HA.out.ra HA.out.rv HA.out.la HA.out.lv HA.out.nd HA.out.hf HA.out.na HA.out.nv).mono ?_; rintro e w3 ⟨rfl, ha1, ha2⟩; have HA1 := Lib.hid ha1; have HA2 := Lib.hid ha2; have hst3 := Lib.hid (HA.out.st.xt ha2 (xt_vars HA.out.lv (fun p hp => hp)) (by decide)); clear ha1 ha2; obtain ⟨_, c1', _, _, _, _, _, _, _, _⟩ := hst3.out.cells))
      · go_ret
        exact ⟨_, rfl, by rw [hm3]; exact ⟨_, _, rfl⟩, (HA.out.done HA1.out HA2.out).below hb4, (HBEL.out.trans (HA.out.below hNw HA2.out)).trans (below_down hb4 (Nat.le_trans hNw HA2.out.size))⟩
      · go_ret
        exact ⟨_, rfl, by rw [hm3]; rfl, HA.out.done HA1.out HA2.out, HBEL.out.trans (HA.out.below hNw HA2.out)⟩
end Go.Proofs.YtlghdacdpkaoeaaGreatDoor
