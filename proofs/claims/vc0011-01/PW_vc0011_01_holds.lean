import PyProof.Rows.All
import Wide.All
import OpenK.AllK
import Wide.FinOn
import PySem.Challenge.RW_vc0011_01
open PySem PySem.W PyProof.Rows PySem.Calls PySem.Spec
set_option Elab.async false
set_option maxRecDepth 100000
set_option linter.unusedVariables false
set_option linter.unusedSimpArgs false
namespace Mine
section
set_option maxHeartbeats 0
open_top hd for PySem.Challenge.rw_vc0011_01
end
end Mine
section
set_option maxHeartbeats 4000000
namespace Mine
abbrev P0 : Program := PySem.Challenge.rw_vc0011_01.prog
abbrev MD (w : World) : Model := model P0 w
noncomputable abbrev K (w : World) : Frag := hd.heap_39 w.params
def sel (h : Heap) (p : Nat → Bool) : Heap := ⟨(Array.range h.objs.size).map fun i => if p i then h.objs[i]?.getD { cls := .none, data := .freed } else { cls := .none, data := .freed }, h.life⟩
theorem ltz {h : Heap} {a : Nat} {o : Obj} (e : h.get? a = some o) : @LT.lt Nat _ a h.objs.size := Heap.lt_size e
theorem nea {a b : Nat} (h : @Ne Nat a b) : @Ne Addr a b := h
theorem sel_get (h : Heap) (p : Nat → Bool) (b : Nat) : (sel h p).get? b = if p b then h.get? b else none := by
  unfold sel Heap.get?
  dsimp only
  rw [Array.getElem?_map]
  by_cases hb : b < h.objs.size
  · have hr : (Array.range h.objs.size)[b]? = some b := by rw [Array.getElem?_range, if_pos hb]
    rw [hr]
    simp only [Option.map_some]
    by_cases hp : p b = true
    · simp only [hp, if_true, Array.getElem?_eq_getElem hb, Option.getD_some]
    · simp only [hp, Bool.false_eq_true, if_false]
  · have hr : (Array.range h.objs.size)[b]? = none := by rw [Array.getElem?_range, if_neg hb]
    have h2 : h.objs[b]? = none := Array.getElem?_eq_none (Nat.le_of_not_lt hb)
    rw [hr, h2]
    simp
def Ext (g g' : Heap) : Prop := ∀ (b : Nat) o, g.get? b = some o → g'.get? b = some o
theorem Ext.rfl' {g : Heap} : Ext g g := fun _ _ e => e
theorem Ext.trans {g g' g'' : Heap} (a : Ext g g') (b : Ext g' g'') : Ext g g'' := fun x o e => b x o (a x o e)
def Kx (h h' : Heap) : Prop := ∀ (b : Nat) o, h.get? b = some o → b ≠ 245 → b ≠ 502 → h'.get? b = some o
theorem nodup_key {α β : Type} {l : List (α × β)} (hn : (l.map (·.1)).Nodup) {p q : α × β} (hp : p ∈ l) (hq : q ∈ l) (e : p.1 = q.1) : p = q := by
  obtain ⟨i, hi⟩ := List.mem_iff_getElem?.mp hp
  obtain ⟨j, hj⟩ := List.mem_iff_getElem?.mp hq
  have lt : i < (l.map (·.1)).length := by rw [List.length_map]; exact (List.getElem?_eq_some_iff.mp hi).1
  have ij : i = j := (List.getElem?_inj lt hn).mp (by simp only [List.getElem?_map, hi, hj, Option.map_some, e])
  subst ij
  exact Option.some.inj (hi.symm.trans hj)
def Tab1 (R : Value → Str → Prop) (ps : Array Value) (line col : Int) (qual : Str) : Prop := ps = #[] ∨ ∃ c', ps = #[rawInt line, rawInt col, .ref c'] ∧ R (.ref c') qual
abbrev q1 : Str := "_determine_attrib_eq_order.<locals>.decide_callable_or_boolean"
abbrev q2 : Str := "_law_new.<locals>.<lambda>"
structure Glob (w : World) (h : Heap) : Prop where
  kin : (K w).In h
  bi : ∃ mb, h.Ns builtinsNs mb ∧ ∀ x : Str, x ≠ "__name__" → mb x = bootBuiltins x
  hd1 : CodeHd h 249 245
  hd2 : CodeHd h 506 502
  b4 : ∃ ob, h.get? 4 = some ob ∧ ob.cls = .type "module" ∧ ob.dict = some builtinsNs ∧ ob.data = .plain
structure Tabs (h g : Heap) : Prop where
  t1 : ∃ ps, h.get? 245 = some (tabObj ps) ∧ Tab1 g.CodeRec ps 238 4 q1
  t2 : ∃ ps, h.get? 502 = some (tabObj ps) ∧ Tab1 g.CodeRec ps 459 11 q2
structure GlobP (w : World) (h gp : Heap) : Prop where
  gl : Glob w h
  kg : (K w).In gp
structure Cx where
  s0 : Shared
  gp : Heap
  L : Nat
abbrev Own := List (Nat × (Obj → Prop))
structure Sp (w : World) (c : Cx) (g : Heap) (l : List (Str × Value)) (own : Own) (s : Shared) : Prop where
  gens : s.gens = c.s0.gens
  os : s.os = c.s0.os
  gl0 : GlobP w c.s0.heap c.gp
  tabs : Tabs s.heap g
  t0 : (∀ o, c.s0.heap.get? 245 = some o → o.cls = .none) ∧ (∀ o, c.s0.heap.get? 502 = some o → o.cls = .none)
  old : Kx c.s0.heap s.heap
  osz : c.s0.heap.objs.size ≤ s.heap.objs.size
  sz : c.s0.heap.objs.size ≤ c.L
  low : 502 < c.s0.heap.objs.size
  ge : Ext g s.heap
  gs : ∀ (b : Nat) o, g.get? b = some o → (c.gp.get? b).isSome = true ∨ c.s0.heap.objs.size ≤ b
  gp : Ext c.gp g
  gt1 : g.get? 245 = none
  gt2 : g.get? 502 = none
  ns : ∃ m, s.heap.Ns c.L m ∧ ∀ x v, l.lookup x = some v → m x = some v
  gL : g.get? c.L = none
  ow : ∀ p ∈ own, (∃ o, s.heap.get? p.1 = some o ∧ p.2 o) ∧ g.get? p.1 = none ∧ c.s0.heap.objs.size ≤ p.1 ∧ p.1 ≠ c.L
  nd : (own.map (·.1)).Nodup
structure New (s0 s' : Shared) (gp gq : Heap) : Prop where
  ext : Ext gp gq
  new : ∀ (b : Nat) o, s'.heap.get? b = some o → s0.heap.objs.size ≤ b → gq.get? b = some o
structure Back (w : World) (gp : Heap) (s0 s' : Shared) : Prop where
  gens : s'.gens = s0.gens
  os : s'.os = s0.os
  gl : Glob w s'.heap
  old : Kx s0.heap s'.heap
  sz : s0.heap.objs.size ≤ s'.heap.objs.size
  tabs : ∀ gq, New s0 s' gp gq → Tabs s'.heap gq
theorem Kx.ns {h h' : Heap} (k : Kx h h') {a : Nat} {m : Str → Option Value} (n : h.Ns a m) (n1 : a ≠ 245) (n2 : a ≠ 502) : h'.Ns a m := by
  obtain ⟨o, es, ep, ho, r⟩ := n
  exact ⟨o, es, ep, k _ _ ho n1 n2, r⟩
theorem codeHd_kx {h h' : Heap} {cc P : Addr} (x : CodeHd h cc P) (k : Kx h h') (n1 : cc ≠ 245) (n2 : cc ≠ 502) : CodeHd h' cc P := by
  obtain ⟨o, vs, file, tf, flags, tg, inF, text, tt, a, r⟩ := x
  exact ⟨o, vs, file, tf, flags, tg, inF, text, tt, k _ _ a n1 n2, r⟩
theorem k_not1 (w : World) : (K w).lookup 245 = none := by kernel_rfl
theorem k_not2 (w : World) : (K w).lookup 502 = none := by kernel_rfl
theorem kin_kx {w : World} {h h' : Heap} (x : (K w).In h) (k : Kx h h') : (K w).In h' := fun a o e => k a o (x a o e) (by rintro rfl; rw [k_not1] at e; cases e) (by rintro rfl; rw [k_not2] at e; cases e)
theorem Glob.kx {w : World} {h h' : Heap} (G : Glob w h) (k : Kx h h') : Glob w h' := by
  obtain ⟨mb, n, hb⟩ := G.bi
  obtain ⟨ob, e, r⟩ := G.b4
  exact ⟨kin_kx G.kin k, ⟨mb, k.ns n (by decide) (by decide), hb⟩, codeHd_kx G.hd1 k (by decide) (by decide), codeHd_kx G.hd2 k (by decide) (by decide), ⟨ob, k _ _ e (by decide) (by decide), r⟩⟩
theorem Kx.trans {a b d : Heap} (x : Kx a b) (y : Kx b d) : Kx a d := fun i o e n1 n2 => y i o (x i o e n1 n2) n1 n2
theorem tab1_mono {R R' : Value → Str → Prop} {ps : Array Value} {i j : Int} {q : Str} (x : Tab1 R ps i j q) (h : ∀ v, R v q → R' v q) : Tab1 R' ps i j q := x.imp id fun ⟨c', e, r⟩ => ⟨c', e, h _ r⟩
section
variable {w : World} {c : Cx} {g : Heap} {l : List (Str × Value)} {own : Own} {s : Shared}
theorem Sp.L_lt (S : Sp w c g l own s) : c.L < s.heap.objs.size := let ⟨_, n, _⟩ := S.ns; n.lt
theorem Sp.gl (S : Sp w c g l own s) : Glob w s.heap := S.gl0.gl.kx S.old
theorem Sp.kg (S : Sp w c g l own s) : (K w).In g := fun a o e => S.gp a o (S.gl0.kg a o e)
theorem tabs_mono {h g g' : Heap} (T : Tabs h g) (e : Ext g g') : Tabs h g' := by
  obtain ⟨⟨p1, t1, u1⟩, ⟨p2, t2, u2⟩⟩ := T
  exact ⟨⟨p1, t1, tab1_mono u1 fun v x => x.keeps e⟩, ⟨p2, t2, tab1_mono u2 fun v x => x.keeps e⟩⟩
theorem tabs_to {h h' g : Heap} (T : Tabs h g) (a : ∀ o, h.get? 245 = some o → h'.get? 245 = some o) (b : ∀ o, h.get? 502 = some o → h'.get? 502 = some o) : Tabs h' g := by
  obtain ⟨⟨p1, t1, u1⟩, ⟨p2, t2, u2⟩⟩ := T
  exact ⟨⟨p1, a _ t1, u1⟩, ⟨p2, b _ t2, u2⟩⟩
theorem Sp.post (S : Sp w c g l own s) {gq : Heap} (N : New c.s0 s c.gp gq) : Ext g gq := fun b o e => by
  rcases S.gs b o e with x | x
  · exact N.ext b o (by
      obtain ⟨o', h'⟩ := Option.isSome_iff_exists.mp x
      have := S.gp b o' h'
      rw [this] at e; cases e; exact h')
  · exact N.new b o (S.ge b o e) x
theorem Sp.back (S : Sp w c g l own s) : Back w c.gp c.s0 s := ⟨S.gens, S.os, S.gl, S.old, S.osz, fun _ N => tabs_mono S.tabs (S.post N)⟩
theorem Sp.new_of (S : Sp w c g l own s) {a : Nat} (h : s.heap.objs.size ≤ a) : g.get? a = none ∧ c.s0.heap.objs.size ≤ a ∧ a ≠ c.L ∧ (∀ p ∈ own, p.1 ≠ a) := by
  have hL := S.L_lt
  refine ⟨?_, Nat.le_trans S.osz h, Nat.ne_of_gt (Nat.lt_of_lt_of_le hL h), fun p hp => ?_⟩
  · cases e : g.get? a with
    | none => rfl
    | some o => exact absurd (Heap.lt_size (S.ge _ _ e)) (Nat.not_lt.mpr h)
  · obtain ⟨⟨o, ho, _⟩, _⟩ := S.ow p hp
    exact Nat.ne_of_lt (Nat.lt_of_lt_of_le (Heap.lt_size ho) h)
theorem Sp.lim (S : Sp w c g l own s) : s.heap.NoLimit := by
  have := isNs_of_in (N := cStatics) S.gl.kin (by kernel_rfl)
  exact ⟨_, .of_isNs this, nsMap_none_of_in S.gl.kin (by kernel_rfl) (by kernel_rfl)⟩
theorem Sp.tk (S : Sp w c g l own s) {s' : Shared} (e : s'.heap = s.heap) (hg : s'.gens = s.gens) (ho : s'.os = s.os) : Sp w c g l own s' := by
  obtain ⟨a1, a2, a3, a4, t0, a5, a6, a7, a8, a9, a10, a11, a12, a13, a14, a15, a16, a17⟩ := S
  rw [← e] at a4 a5 a6 a9 a14 a16
  exact ⟨hg.trans a1, ho.trans a2, a3, a4, t0, a5, a6, a7, a8, a9, a10, a11, a12, a13, a14, a15, a16, a17⟩
theorem get_push_none {h : Heap} {o : Obj} {b : Nat} (hb : b ≠ h.objs.size) : (h.push o).get? b = h.get? b := by
  unfold Heap.push Heap.get?
  dsimp only
  rw [Array.getElem?_push]
  simp [hb]
theorem Sp.push (S : Sp w c g l own s) {o : Obj} {P : Obj → Prop} (hf : o.isFreed = false) (hP : P o) {s' : Shared} (e : s'.heap = s.heap.push o) (hg : s'.gens = s.gens) (ho : s'.os = s.os) :
    Sp w c g l ((s.heap.objs.size, P) :: own) s' := by
  obtain ⟨n1, n2, n3, n4⟩ := S.new_of (Nat.le_refl s.heap.objs.size)
  have hk : ∀ (b : Nat) o', s.heap.get? b = some o' → s'.heap.get? b = some o' := fun b o' x => by rw [e]; exact Heap.get?_push_of_some _ x
  have hk2 : Kx s.heap s'.heap := fun b o' x _ _ => hk b o' x
  obtain ⟨m, n, hm⟩ := S.ns
  refine ⟨hg.trans S.gens, ho.trans S.os, S.gl0, tabs_to S.tabs (fun o x => hk _ _ x) (fun o x => hk _ _ x), S.t0, S.old.trans hk2, Nat.le_trans S.osz (by rw [e, Heap.size_push]; omega), S.sz, S.low, fun b o' x => hk b o' (S.ge b o' x), S.gs, S.gp, S.gt1, S.gt2, ⟨m, n.keeps hk, hm⟩, S.gL, ?_, ?_⟩
  · intro p hp
    rcases List.mem_cons.mp hp with rfl | hp
    · exact ⟨⟨o, by rw [e]; exact Heap.get?_push_size _ hf, hP⟩, n1, n2, n3⟩
    · obtain ⟨⟨o', h1, h2⟩, h3⟩ := S.ow p hp
      exact ⟨⟨o', hk _ _ h1, h2⟩, h3⟩
  · rw [List.map_cons, List.nodup_cons]
    exact ⟨fun hm => by obtain ⟨p, hp, hq⟩ := List.mem_map.mp hm; exact n4 p hp hq, S.nd⟩
theorem Sp.chg (S : Sp w c g l own s) {i : Nat} {a : Nat} {P P' : Obj → Prop} (hi : own[i]? = some (a, P)) {s' : Shared} (hs : Heap.ExtBut a s.heap s'.heap) (hz : s.heap.objs.size ≤ s'.heap.objs.size) {o' : Obj} (e : s'.heap.get? a = some o') (hP : P' o') (hg : s'.gens = s.gens) (ho : s'.os = s.os) :
    Sp w c g l (own.set i (a, P')) s' := by
  have hm := List.mem_of_getElem? hi
  obtain ⟨⟨o, h1, h2⟩, h3, h4, h5⟩ := S.ow _ hm
  dsimp only at h1 h3 h4 h5
  have lo := S.low
  have gne : ∀ (b : Nat) o, g.get? b = some o → b ≠ a := fun (b : Nat) o x y => by subst y; rw [h3] at x; cases x
  have one : ∀ (b : Nat) o, c.s0.heap.get? b = some o → b ≠ a := fun (b : Nat) o x y => by subst y; have := ltz x; omega
  have k0 : Kx c.s0.heap s'.heap := fun b o' x n1 n2 => hs b o' (one b o' x) (S.old b o' x n1 n2)
  obtain ⟨m, n, hm'⟩ := S.ns
  obtain ⟨hl, hgi⟩ := List.getElem?_eq_some_iff.mp hi
  have em : (own.set i (a, P')).map (·.1) = own.map (·.1) := by
    rw [List.map_set]
    have : (own.map (·.1))[i]? = some a := by rw [List.getElem?_map, hi]; rfl
    exact X.set_same this
  refine ⟨hg.trans S.gens, ho.trans S.os, S.gl0, tabs_to S.tabs (fun o x => hs _ _ (nea (by omega)) x) (fun o x => hs _ _ (nea (by omega)) x), S.t0, k0, Nat.le_trans S.osz hz, S.sz, S.low, fun b o' x => hs b o' (gne b o' x) (S.ge b o' x), S.gs, S.gp, S.gt1, S.gt2, ⟨m, n.extBut hs (Ne.symm h5), hm'⟩, S.gL, ?_, by rw [em]; exact S.nd⟩
  intro p hp
  by_cases hpa : p.1 = a
  · have hx : (a, P') ∈ own.set i (a, P') := List.mem_set hl _
    have : p = (a, P') := by
      have nd : ((own.set i (a, P')).map (·.1)).Nodup := by rw [em]; exact S.nd
      exact nodup_key nd hp hx hpa
    subst this
    exact ⟨⟨o', e, hP⟩, h3, h4, h5⟩
  · rcases List.mem_or_eq_of_mem_set hp with hp | rfl
    · obtain ⟨⟨o2, q1, q2⟩, q3⟩ := S.ow p hp
      exact ⟨⟨o2, hs _ _ hpa q1, q2⟩, q3⟩
    · exact absurd rfl hpa
theorem Sp.loc (S : Sp w c g l own s) {s' : Shared} {x : Str} {v : Value} (hs : Heap.SameBut c.L s.heap s'.heap) (hn : ∃ m : Str → Option Value, (∀ x v, l.lookup x = some v → m x = some v) ∧ s'.heap.Ns c.L fun y => if y = x then some v else m y) (hg : s'.gens = s.gens) (ho : s'.os = s.os) : Sp w c g ((x, v) :: l) own s' := by
  have lo := S.low
  have lz := S.sz
  have gne : ∀ (b : Nat) o, g.get? b = some o → b ≠ c.L := fun (b : Nat) o x y => by subst y; rw [S.gL] at x; cases x
  have one : ∀ (b : Nat) o, c.s0.heap.get? b = some o → b ≠ c.L := fun (b : Nat) o x y => by subst y; have := ltz x; omega
  have k0 : Kx c.s0.heap s'.heap := fun b o' x n1 n2 => (hs.2 b (one b o' x)).trans (S.old b o' x n1 n2)
  obtain ⟨m, hm', n'⟩ := hn
  refine ⟨hg.trans S.gens, ho.trans S.os, S.gl0, tabs_to S.tabs (fun o x => (hs.2 _ (nea (by omega))).trans x) (fun o x => (hs.2 _ (nea (by omega))).trans x), S.t0, k0, by rw [hs.1]; exact S.osz, S.sz, S.low, fun b o' x => (hs.2 b (gne b o' x)).trans (S.ge b o' x), S.gs, S.gp, S.gt1, S.gt2, ⟨_, n', ?_⟩, S.gL, ?_, S.nd⟩
  · intro y u hy
    rw [List.lookup_cons] at hy
    by_cases h : y = x
    · subst h
      simp only [BEq.rfl] at hy
      rw [if_pos rfl]; exact hy
    · have : (y == x) = false := by simpa using h
      rw [this] at hy
      rw [if_neg h]; exact hm' y u hy
  · intro p hp
    obtain ⟨⟨o2, q1, q2⟩, q3⟩ := S.ow p hp
    exact ⟨⟨o2, (hs.2 _ q3.2.2).trans q1, q2⟩, q3⟩
theorem Sp.weakL (S : Sp w c g l own s) {l' : List (Str × Value)} (h : ∀ p ∈ l', l.lookup p.1 = some p.2) : Sp w c g l' own s := by
  obtain ⟨a1, a2, a3, a4, t0, a5, a6, a7, a8, a9, a10, a11, a12, a13, ⟨m, n, hm⟩, a15, a16, a17⟩ := S
  refine ⟨a1, a2, a3, a4, t0, a5, a6, a7, a8, a9, a10, a11, a12, a13, ⟨m, n, fun x v e => hm x v ?_⟩, a15, a16, a17⟩
  have : (x, v) ∈ l' := by
    clear h
    induction l' with
    | nil => cases e
    | cons p r ih =>
      rw [List.lookup_cons] at e
      by_cases hx : x = p.1
      · subst hx; simp only [BEq.rfl] at e; cases e; exact .head _
      · have : (x == p.1) = false := by simpa using hx
        rw [this] at e; exact .tail _ (ih e)
  exact h _ this
theorem Sp.weakO (S : Sp w c g l own s) {own' : Own} (h : own'.Sublist own) : Sp w c g l own' s := by
  obtain ⟨a1, a2, a3, a4, t0, a5, a6, a7, a8, a9, a10, a11, a12, a13, a14, a15, a16, a17⟩ := S
  exact ⟨a1, a2, a3, a4, t0, a5, a6, a7, a8, a9, a10, a11, a12, a13, a14, a15, fun p hp => a16 p (h.subset hp), a17.sublist (h.map _)⟩
theorem Sp.freeze (S : Sp w c g l own s) {own' : Own} {a : Nat} {P : Obj → Prop} (h : (own').Sublist own) (hm : (a, P) ∈ own) (hn : a ∉ own'.map (·.1)) :
    ∃ g' o, Ext g g' ∧ g'.get? a = some o ∧ P o ∧ Sp w c g' l own' s := by
  obtain ⟨⟨o, h1, h2⟩, h3, h4, h5⟩ := S.ow _ hm
  dsimp only at h1 h3 h4 h5
  have lo := S.low
  let g' := sel s.heap fun b => (g.get? b).isSome || b == a
  have ga : ∀ (b : Nat), g'.get? b = if ((g.get? b).isSome || b == a) = true then s.heap.get? b else none := sel_get _ _
  have e1 : Ext g g' := fun b o' x => by rw [ga, x]; simp only [Option.isSome_some, Bool.true_or, if_true]; exact S.ge b o' x
  have e2 : ∀ (b : Nat) o', g'.get? b = some o' → g.get? b = some o' ∨ b = a := fun b o' x => by
    rw [ga] at x
    cases q : g.get? b with
    | some o2 =>
      rw [q] at x
      simp only [Option.isSome_some, Bool.true_or, if_true] at x
      rw [S.ge b o2 q] at x
      exact .inl x
    | none =>
      rw [q] at x
      by_cases hb : b = a
      · exact .inr hb
      · simp [hb] at x
  have e3 : ∀ (b : Nat), g.get? b = none → b ≠ a → g'.get? b = none := fun b x y => by
    cases q : g'.get? b with
    | none => rfl
    | some o' => rcases e2 b o' q with z | z
                 · rw [x] at z; cases z
                 · exact absurd z y
  refine ⟨g', o, e1, by rw [ga]; simp [h1], h2, ⟨S.gens, S.os, S.gl0, tabs_mono S.tabs e1, S.t0, S.old, S.osz, S.sz, S.low, fun b o' x => ?_, fun b o' x => ?_, S.gp.trans e1, e3 _ S.gt1 (nea (by omega)), e3 _ S.gt2 (nea (by omega)), S.ns, e3 _ S.gL (Ne.symm h5), fun p hp => ?_, S.nd.sublist (h.map _)⟩⟩
  · rw [ga] at x; split at x
    · exact x
    · cases x
  · rcases e2 b o' x with z | rfl
    · exact S.gs b o' z
    · exact .inr h4
  · obtain ⟨q1, q2, q3⟩ := S.ow p (h.subset hp)
    exact ⟨q1, e3 _ q2 (fun z => hn (by rw [← z]; exact List.mem_map_of_mem hp)), q3⟩
theorem Sp.after (S : Sp w c g l own s) {s' : Shared} (B : Back w g s s') : ∃ g', Ext g g' ∧ Sp w c g' l own s' ∧ New s s' g g' := by
  have lo := S.low
  have oz := S.osz
  let g' := sel s'.heap fun b => (g.get? b).isSome || decide (s.heap.objs.size ≤ b)
  have ga : ∀ (b : Nat), g'.get? b = if ((g.get? b).isSome || decide (s.heap.objs.size ≤ b)) = true then s'.heap.get? b else none := sel_get _ _
  have n1 : ∀ (b : Nat) o, g.get? b = some o → b ≠ 245 ∧ b ≠ 502 := by
    intro b o x
    refine ⟨fun z => ?_, fun z => ?_⟩
    · rw [z, S.gt1] at x; cases x
    · rw [z, S.gt2] at x; cases x
  have e1 : Ext g g' := fun b o' x => by rw [ga, x]; simp only [Option.isSome_some, Bool.true_or, if_true]; exact B.old b o' (S.ge b o' x) (n1 b o' x).1 (n1 b o' x).2
  have e2 : ∀ (b : Nat) o', g'.get? b = some o' → g.get? b = some o' ∨ s.heap.objs.size ≤ b := fun b o' x => by
    rw [ga] at x
    cases q : g.get? b with
    | some o2 =>
      rw [q] at x
      simp only [Option.isSome_some, Bool.true_or, if_true] at x
      rw [B.old b o2 (S.ge b o2 q) (n1 b o2 q).1 (n1 b o2 q).2] at x
      exact .inl x
    | none =>
      rw [q] at x
      by_cases hb : s.heap.objs.size ≤ b
      · exact .inr hb
      · simp [hb] at x
  have e3 : ∀ (b : Nat), g.get? b = none → b < s.heap.objs.size → g'.get? b = none := fun b x y => by
    cases q : g'.get? b with
    | none => rfl
    | some o' => rcases e2 b o' q with z | z
                 · rw [x] at z; cases z
                 · omega
  have e4 : New s s' g g' := ⟨e1, fun (b : Nat) o x y => by rw [ga]; simp [y, x]⟩
  have l5 : 245 < s.heap.objs.size := by omega
  have hsL := S.L_lt
  refine ⟨g', e1, ⟨B.gens.trans S.gens, B.os.trans S.os, S.gl0, B.tabs g' e4, S.t0, S.old.trans B.old, Nat.le_trans S.osz B.sz, S.sz, S.low, fun b o' x => ?_, fun b o' x => ?_, S.gp.trans e1, e3 _ S.gt1 l5, e3 _ S.gt2 (by omega), ?_, e3 _ S.gL hsL, fun p hp => ?_, S.nd⟩, e4⟩
  · rw [ga] at x; split at x
    · exact x
    · cases x
  · rcases e2 b o' x with z | z
    · exact S.gs b o' z
    · exact .inr (by omega)
  · obtain ⟨m, n, hm⟩ := S.ns
    have := S.sz
    exact ⟨m, B.old.ns n (by omega) (by omega), hm⟩
  · obtain ⟨⟨o, q1, q2⟩, q3, q4, q5⟩ := S.ow p hp
    exact ⟨⟨o, B.old _ _ q1 (by omega) (by omega), q2⟩, e3 _ q3 (Heap.lt_size q1), q4, q5⟩
end
end Mine
end
section
set_option maxHeartbeats 4000000
namespace Mine
theorem tabs_none {h g : Heap} (T : Tabs h g) : (∀ o, h.get? 245 = some o → o.cls = .none) ∧ (∀ o, h.get? 502 = some o → o.cls = .none) := by
  obtain ⟨⟨p1, t1, _⟩, ⟨p2, t2, _⟩⟩ := T
  exact ⟨fun o e => by rw [t1] at e; cases e; rfl, fun o e => by rw [t2] at e; cases e; rfl⟩
structure In (w : World) (gp : Heap) (s : Shared) : Prop where
  gl : Glob w s.heap
  tabs : Tabs s.heap gp
  ge : Ext gp s.heap
  gt1 : gp.get? 245 = none
  gt2 : gp.get? 502 = none
  low : 502 < s.heap.objs.size
  kg : (K w).In gp
section
variable {c : Cx} {g : Heap} {l : List (Str × Value)} {own : Own} {s : Shared} {A : Around} {E : Value → Shared → Prop} {w : World} {gp : Heap}
theorem Sp.inn (S : Sp w c g l own s) : In w g s := ⟨S.gl, S.tabs, S.ge, S.gt1, S.gt2, Nat.lt_of_lt_of_le S.low S.osz, S.kg⟩
theorem In.t0 (I : In w gp s) : (∀ o, s.heap.get? 245 = some o → o.cls = .none) ∧ (∀ o, s.heap.get? 502 = some o → o.cls = .none) := tabs_none I.tabs
theorem start {I : In w gp s} {L : Nat} {s1 : Shared} {m : Str → Option Value} (hns : s1.heap.Ns L m) (hk : ∀ b o, s.heap.get? b = some o → s1.heap.get? b = some o) (hz : s.heap.objs.size ≤ L) (hg : s1.gens = s.gens) (ho : s1.os = s.os)
    (hm : ∀ x v, l.lookup x = some v → m x = some v) (own : Own) (ow : ∀ p ∈ own, (∃ o, s1.heap.get? p.1 = some o ∧ p.2 o) ∧ s.heap.objs.size ≤ p.1 ∧ p.1 ≠ L) (nd : (own.map (·.1)).Nodup) : Sp w ⟨s, gp, L⟩ gp l own s1 := by
  have k : Kx s.heap s1.heap := fun b o x _ _ => hk b o x
  have hL := hns.lt
  have gn : ∀ b : Nat, s.heap.objs.size ≤ b → gp.get? b = none := fun b hb => by
    cases e : gp.get? b with
    | none => rfl
    | some o => exact absurd (ltz (I.ge _ _ e)) (Nat.not_lt.mpr hb)
  refine ⟨hg, ho, ⟨I.gl, I.kg⟩, tabs_to I.tabs (fun o x => hk _ _ x) (fun o x => hk _ _ x), I.t0, k, Nat.le_of_lt (Nat.lt_of_le_of_lt hz hL), hz, I.low, fun b o x => hk b o (I.ge b o x), fun b o x => .inl (by show (gp.get? b).isSome = true; rw [x]; rfl), Ext.rfl', I.gt1, I.gt2, ⟨m, hns, hm⟩, gn L hz, fun p hp => ?_, nd⟩
  obtain ⟨a, b, d⟩ := ow p hp
  exact ⟨a, gn _ b, b, d⟩
def retQ (Q : Value → Shared → Prop) (f : Flow) (s : Shared) : Prop := match f with
  | .ret v => Q v s
  | _ => Q .none s
theorem ret_v {Q : Value → Shared → Prop} {v : Value} (h : Q v s) : retQ Q (.ret v) s := h
theorem ret_n {Q : Value → Shared → Prop} (h : Q .none s) : retQ Q .next s := h
def seqQ (M : Model) (A : Around) (rest : List Stmt) (env : Env) (Q : Flow → Shared → Prop) (E : Value → Shared → Prop) (f : Flow) (s : Shared) : Prop := match f with
  | .next => wpAny M A (execs rest env) Q E s
  | f => Q f s
theorem sq {M : Model} {env : Env} {st : Stmt} {rest : List Stmt} {Q : Flow → Shared → Prop} (h : wpAny M A (exec st env) (seqQ M A rest env Q E) E s) : wpAny M A (execs (st :: rest) env) Q E s :=
  wpAny_execs_cons (wpAny_mono h (fun f s' q => by cases f <;> exact q) fun _ _ e => e)
theorem sq_next {M : Model} {env : Env} {rest : List Stmt} {Q : Flow → Shared → Prop} (h : wpAny M A (execs rest env) Q E s) : seqQ M A rest env Q E .next s := h
theorem sq_ret {M : Model} {env : Env} {rest : List Stmt} {v : Value} {Q : Flow → Shared → Prop} (h : Q (.ret v) s) : seqQ M A rest env Q E (.ret v) s := h
theorem ex_nil {M : Model} {env : Env} {Q : Flow → Shared → Prop} (h : Q .next s) : wpAny M A (execs [] env) Q E s := wpAny_execs_nil h
theorem enter {f : Addr} {name qual : Str} {params : Arguments} {body : List Stmt} {scope : Scope} {dV kV doc pm cdv ct oc : Value} {an od : Option Addr} {osl : Array (Option Value)} {pos : List Value} {kw : List (Str × Value)} {binds : List (Str × Value)} {Q : Value → Shared → Prop}
    (I : In w gp s) (hroom : A.depth < recursionLimit)
    (ho : (hd.heap_39 w.params).lookup f = some ⟨oc, od, .func (fnOf name qual params body scope dV kV doc pm an cdv ct), osl⟩) (hcd : codeIn (hd.heap_39 w.params) cdv qual = true)
    (hbind : BindsTo s (fnOf name qual params body scope dV kV doc pm an cdv ct) ⟨pos, kw⟩ binds) (hloc : ∀ y ∈ binds, scope.names.lookup y.1 = some .local)
    (h : ∀ L s1, Sp w ⟨s, gp, L⟩ gp binds.reverse [] s1 →
      wpAny (MD w) (A.deeper (envOf qual scope L f cdv)) (execs body (envOf qual scope L f cdv)) (retQ Q) (fun _ _ => False) s1)
    (hcell : ∀ x ∈ scope.names, x.2 ≠ .cell) (hco : scope.isCoroutine = false) (hgen : scope.isGenerator = false) (hk : scope.kind = .function) : wpAny (MD w) A (call (.ref f) pos kw) Q E s := by
  have hlim : s.heap.NoLimit := ⟨_, .of_isNs (isNs_of_in (N := cStatics) I.gl.kin (by kernel_rfl)), nsMap_none_of_in I.gl.kin (by kernel_rfl) (by kernel_rfl)⟩
  refine wpAny_call (codeAny_call_def (fd := fnOf name qual params body scope dV kV doc pm an cdv ct) (body := body) (binds := binds) hroom (I.gl.kin _ _ ho) rfl hlim (codeRec_of I.gl.kin hcd) rfl hbind hcell hloc (fun h₁ hns hk₁ => ?_) hco hgen hk)
  refine wpAny_mono (h s.heap.objs.size _ (start (I := I) (s1 := { s with heap := h₁, toks := s.toks + binds.length }) (own := []) hns hk₁ (Nat.le_refl _) rfl rfl (fun x v e => e) (fun _ hp => nomatch hp) .nil)) (fun fl s' q => ?_) fun _ _ x => x.elim
  cases fl <;> exact q
variable {env : Env}
theorem nm {x : Str} {pos : Pos} {v : Value} {Q : Value → Shared → Prop} (S : Sp w c g l own s) (hv : l.lookup x = some v) (h : Q v s)
    (hL : env.locals = c.L := by rfl) (hk : env.scope.kind = .function := by rfl) (hl : env.kindOf x = some .local := by kernel_rfl) (hd : (x == ("__debug__" : Str)) = false := by kernel_rfl) : wpAny (MD w) A (eval (.Name x pos) env) Q E s := by
  obtain ⟨m, n, hm⟩ := S.ns
  exact wpAny_Name (wpAny_loadName_local hk hl (hL ▸ n) (hm _ _ hv) h) hd
theorem nsIn_ns {w : World} {h : Heap} (X : (K w).In h) : h.Ns mainGlobals (h.nsMap mainGlobals) := .of_isNs (isNs_of_in (N := mainGlobals) X (by kernel_rfl))
theorem nmK {x : Str} {pos : Pos} {v : Value} {Q : Value → Shared → Prop} (S : Sp w c g l own s) (hv : nsIn (hd.heap_39 w.params) mainGlobals x = some (some v)) (h : Q v s)
    (hG : env.globals = mainGlobals := by rfl) (hk : env.scope.kind = .function := by rfl) (hl : env.kindOf x = some .globalImplicit := by kernel_rfl) (hd : (x == ("__debug__" : Str)) = false := by kernel_rfl) : wpAny (MD w) A (eval (.Name x pos) env) Q E s :=
  have n := nsIn_ns S.gl.kin
  Name_function_global hk hl (loadGlobal_global (hG ▸ n) (mg_of S.gl.kin n hv) h) hd
theorem nmB {x : Str} {pos : Pos} {v : Value} {Q : Value → Shared → Prop} (S : Sp w c g l own s) (hn : nsIn (hd.heap_39 w.params) mainGlobals x = some none) (hv : bootBuiltins x = some v) (h : Q v s)
    (hx : (x == ("__name__" : Str)) = false := by kernel_rfl) (hG : env.globals = mainGlobals := by rfl) (hB : env.builtins = builtinsNs := by rfl) (hk : env.scope.kind = .function := by rfl) (hl : env.kindOf x = some .globalImplicit := by kernel_rfl) (hd : (x == ("__debug__" : Str)) = false := by kernel_rfl) : wpAny (MD w) A (eval (.Name x pos) env) Q E s := by
  have n := nsIn_ns S.gl.kin
  obtain ⟨mb, nb, hb⟩ := S.gl.bi
  exact Name_function_global hk hl (loadGlobal_builtin (hG ▸ n) (mg_none_of S.gl.kin n hn) (hB ▸ nb) ((hb x (by intro e; subst e; simp at hx)).trans hv) h) hd
theorem c_int {i : Int} {k : Nat} {pos : Pos} {Q : Value → Shared → Prop} (S : Sp w c g l own s) (h : ∀ s' t, Sp w c g l own s' → Q (.int i t) s') : wpAny (MD w) A (eval (.Constant (.int i) k pos) env) Q E s := wpAny_Constant_int (h _ _ (S.tk rfl rfl rfl))
theorem c_str {x : Str} {k : Nat} {pos : Pos} {Q : Value → Shared → Prop} (S : Sp w c g l own s) (h : ∀ s' t, Sp w c g l own s' → Q (.str x t) s') : wpAny (MD w) A (eval (.Constant (.str x) k pos) env) Q E s := wpAny_Constant_str (h _ _ (S.tk rfl rfl rfl))
theorem sn {x : Str} {v : Value} {Q : Unit → Shared → Prop} (S : Sp w c g l own s) (h : ∀ s', Sp w c g ((x, v) :: l) own s' → Q () s')
    (hL : env.locals = c.L := by rfl) (hl : env.kindOf x = some .local := by kernel_rfl) (hp : (env.scope.kind == .class || (env.scope.kind == .module && env.locals != env.globals)) = false := by rfl) : wpAny (MD w) A (storeName env x v) Q E s := by
  obtain ⟨m, n, hm⟩ := S.ns
  refine wpAny_storeName_local hl (hL ▸ n) (fun h' hn hs => h _ ?_) hp
  rw [hL] at hn hs
  exact S.loc hs ⟨m, hm, hn⟩ rfl rfl
end
inductive Two {α β : Type} (R : α → β → Prop) : List α → List β → Prop
  | nil : Two R [] []
  | cons {a b as bs} : R a b → Two R as bs → Two R (a :: as) (b :: bs)
theorem Two.length {α β : Type} {R : α → β → Prop} {as : List α} {bs : List β} (h : Two R as bs) : as.length = bs.length := by
  induction h with
  | nil => rfl
  | cons _ _ ih => simp [ih]
theorem Two.imp {α β : Type} {R R' : α → β → Prop} (f : ∀ a b, R a b → R' a b) {as : List α} {bs : List β} (h : Two R as bs) : Two R' as bs := by
  induction h with
  | nil => exact .nil
  | cons r _ ih => exact .cons (f _ _ r) ih
theorem Two.snoc {α β : Type} {R : α → β → Prop} {as : List α} {bs : List β} (h : Two R as bs) {a : α} {b : β} (r : R a b) : Two R (as ++ [a]) (bs ++ [b]) := by
  induction h with
  | nil => exact .cons r .nil
  | cons r' _ ih => exact .cons r' ih
theorem Two.get {α β : Type} {R : α → β → Prop} {as : List α} {bs : List β} (h : Two R as bs) {i : Nat} {b : β} (e : bs[i]? = some b) : ∃ a, as[i]? = some a ∧ R a b := by
  induction h generalizing i with
  | nil => cases e
  | cons r _ ih =>
    cases i with
    | zero => cases e; exact ⟨_, rfl, r⟩
    | succ i => exact ih e
theorem Two.get' {α β : Type} {R : α → β → Prop} {as : List α} {bs : List β} (h : Two R as bs) {i : Nat} {a : α} (e : as[i]? = some a) : ∃ b, bs[i]? = some b ∧ R a b := by
  induction h generalizing i with
  | nil => cases e
  | cons r _ ih =>
    cases i with
    | zero => cases e; exact ⟨_, rfl, r⟩
    | succ i => exact ih e
def KV (w : World) (e : DictEntry) (kv : Str × Value) : Prop := (∃ t, e.key = .str kv.1 t) ∧ e.val = kv.2 ∧ e.hash = PyData.keyHash w.params kv.1
def DictO (w : World) (kvs : List (Str × Value)) (o : Obj) : Prop := ∃ es n, o = dictOf es n ∧ Two (KV w) es kvs ∧ (kvs.map (·.1)).Nodup
def put (x : Str) (v : Value) : List (Str × Value) → List (Str × Value)
  | [] => [(x, v)]
  | (y, u) :: r => if y = x then (y, v) :: r else (y, u) :: put x v r
theorem isStr_kv {w : World} {e : DictEntry} {kv : Str × Value} (h : KV w e kv) (x : Str) : e.key.isStr x = decide (kv.1 = x) := by
  obtain ⟨⟨t, a⟩, _⟩ := h
  rw [a]
  show (kv.1 == x) = _
  by_cases q : kv.1 = x <;> simp [q]
theorem kv_ref {w : World} {e : DictEntry} {kv : Str × Value} (h : KV w e kv) : e.refKey = false := by
  obtain ⟨⟨t, a⟩, _⟩ := h
  unfold DictEntry.refKey
  rw [a]
theorem noRefKey {w : World} {es : List DictEntry} {kvs : List (Str × Value)} (h : Two (KV w) es kvs) : es.any (·.refKey) = false := by
  induction h with
  | nil => rfl
  | cons r _ ih => rw [List.any_cons, kv_ref r, ih]; rfl
theorem getL_kv {w : World} {es : List DictEntry} {kvs : List (Str × Value)} (h : Two (KV w) es kvs) (x : Str) : getL x es = some (kvs.lookup x) := by
  have key : es.find? (·.key.isStr x) = none ∧ kvs.lookup x = none ∧ es.any (·.refKey) = false ∨ ∃ e, es.find? (·.key.isStr x) = some e ∧ kvs.lookup x = some e.val := by
    induction h with
    | nil => exact .inl ⟨rfl, rfl, rfl⟩
    | cons r _ ih =>
      rename_i e kv es kvs _
      have h1 := isStr_kv r x
      obtain ⟨⟨t, a⟩, b, _⟩ := r
      rw [List.find?_cons, List.lookup_cons, h1]
      by_cases q : kv.1 = x
      · refine .inr ⟨e, by simp [q], ?_⟩
        have : (x == kv.1) = true := by simp [q]
        rw [this, b]
      · have q2 : (x == kv.1) = false := by simpa using fun z => q z.symm
        rw [q2]
        simp only [q, decide_false]
        rcases ih with ⟨i1, i2, i3⟩ | i
        · refine .inl ⟨i1, i2, ?_⟩
          rw [List.any_cons, i3, Bool.or_false]
          unfold DictEntry.refKey
          rw [a]
        · exact .inr i
  unfold getL
  rcases key with ⟨a, b, d⟩ | ⟨e, a, b⟩
  · rw [a, b, d]; rfl
  · rw [a, b]
theorem putL_kv {w : World} {es : List DictEntry} {kvs : List (Str × Value)} (h : Two (KV w) es kvs) (x : Str) (t : Tok) (v : Value) : Two (KV w) (putL x (PyData.keyHash w.params x) (.str x t) v es) (put x v kvs) := by
  induction h with
  | nil => exact .cons ⟨⟨t, rfl⟩, rfl, rfl⟩ .nil
  | cons r h ih =>
    rename_i e kv es kvs
    obtain ⟨y, u⟩ := kv
    have h1 := isStr_kv r x
    unfold putL put
    rw [h1]
    by_cases q : y = x
    · simp only [q, decide_true, if_true]
      obtain ⟨a, b, d⟩ := r
      subst q
      exact .cons ⟨a, rfl, d⟩ h
    · simp only [q, decide_false, Bool.false_eq_true, if_false]
      exact .cons r ih
theorem put_len (x : Str) (v : Value) (kvs : List (Str × Value)) : (put x v kvs).length ≤ kvs.length + 1 := by
  induction kvs with
  | nil => exact Nat.le_refl _
  | cons p r ih =>
    obtain ⟨y, u⟩ := p
    unfold put
    split
    · exact Nat.le_succ _
    · simpa using ih
theorem put_keys (x : Str) (v : Value) (kvs : List (Str × Value)) : (put x v kvs).map (·.1) = if x ∈ kvs.map (·.1) then kvs.map (·.1) else kvs.map (·.1) ++ [x] := by
  induction kvs with
  | nil => simp [put]
  | cons p r ih =>
    obtain ⟨y, u⟩ := p
    unfold put
    by_cases q : y = x
    · simp [q]
    · have q' : ¬ x = y := fun z => q z.symm
      simp only [q, if_false, List.map_cons, ih, List.mem_cons, q', false_or]
      split <;> simp
theorem put_nodup {x : Str} {v : Value} {kvs : List (Str × Value)} (h : (kvs.map (·.1)).Nodup) : ((put x v kvs).map (·.1)).Nodup := by
  rw [put_keys]
  split
  · exact h
  · rename_i q
    rw [List.nodup_append]
    exact ⟨h, by simp, by intro a ha b hb; simp at hb; subst hb; intro e; subst e; exact q ha⟩
theorem lookup_put (x : Str) (v : Value) (kvs : List (Str × Value)) (y : Str) : (put x v kvs).lookup y = if y = x then some v else kvs.lookup y := by
  induction kvs with
  | nil =>
    by_cases q : y = x
    · simp [put, q]
    · have : (y == x) = false := by simpa using q
      simp [put, List.lookup_cons, this, q]
  | cons p r ih =>
    obtain ⟨z, u⟩ := p
    unfold put
    by_cases q : z = x
    · subst q
      by_cases q2 : y = z
      · simp [q2]
      · have : (y == z) = false := by simpa using q2
        simp [List.lookup_cons, this, q2]
    · simp only [q, if_false, List.lookup_cons, ih]
      by_cases q2 : y = z
      · subst q2; simp [q]
      · have : (y == z) = false := by simpa using q2
        simp [this]
theorem DictO.put {w : World} {kvs : List (Str × Value)} {es : List DictEntry} (T : Two (KV w) es kvs) (hn : (kvs.map (·.1)).Nodup) (x : Str) (t : Tok) (v : Value) (m : Nat) :
    DictO w (put x v kvs) (dictOf (putL x (PyData.keyHash w.params x) (.str x t) v es) m) := ⟨_, _, rfl, putL_kv T x t v, put_nodup hn⟩
def IsInst (w : World) (h : Heap) (x C : Nat) (kvs : List (Str × Value)) : Prop := ∃ dx od, h.get? x = some (instObj C dx) ∧ h.get? dx = some od ∧ DictO w kvs od
theorem IsInst.mono {w : World} {h h' : Heap} {x C : Nat} {kvs : List (Str × Value)} (I : IsInst w h x C kvs) (e : Ext h h') : IsInst w h' x C kvs := let ⟨dx, od, a, b, d⟩ := I; ⟨dx, od, e _ _ a, e _ _ b, d⟩
abbrev listO (vs : List Value) (n : Nat) : Obj := { cls := .type "list", data := .seq vs.toArray n }
abbrev tupO (vs : List Value) (n : Nat) : Obj := { cls := .type "tuple", data := .seq vs.toArray n }
def ListP (vs : List Value) (o : Obj) : Prop := ∃ n, o = listO vs n
def TupP (vs : List Value) (o : Obj) : Prop := ∃ n, o = tupO vs n
def IsL (h : Heap) (a : Nat) (vs : List Value) : Prop := ∃ n, h.get? a = some (listO vs n)
def IsT (h : Heap) (a : Nat) (vs : List Value) : Prop := ∃ n, h.get? a = some (tupO vs n)
def IsD0 (w : World) (h : Heap) (a : Nat) (kvs : List (Str × Value)) : Prop := ∃ o, h.get? a = some o ∧ DictO w kvs o
theorem IsL.mono {h h' : Heap} {a : Nat} {vs : List Value} (I : IsL h a vs) (e : Ext h h') : IsL h' a vs := let ⟨n, x⟩ := I; ⟨n, e _ _ x⟩
theorem IsT.mono {h h' : Heap} {a : Nat} {vs : List Value} (I : IsT h a vs) (e : Ext h h') : IsT h' a vs := let ⟨n, x⟩ := I; ⟨n, e _ _ x⟩
theorem IsD0.mono {w : World} {h h' : Heap} {a : Nat} {kvs : List (Str × Value)} (I : IsD0 w h a kvs) (e : Ext h h') : IsD0 w h' a kvs := let ⟨o, x, d⟩ := I; ⟨o, e _ _ x, d⟩
theorem IsL.list {h : Heap} {a : Nat} {vs : List Value} (I : IsL h a vs) : h.IsList a vs.toArray := let ⟨n, x⟩ := I; ⟨_, x, rfl, n, rfl⟩
theorem IsT.tup {h : Heap} {a : Nat} {vs : List Value} (I : IsT h a vs) : h.IsTuple a vs.toArray := let ⟨n, x⟩ := I; ⟨_, x, rfl, n, rfl⟩
theorem IsT.tup' {h : Heap} {a : Nat} {vs : List Value} (I : IsT h a vs) : IsTup h a vs.toArray := let ⟨n, x⟩ := I; ⟨_, x, rfl, n, rfl⟩
theorem IsD0.dictOf {w : World} {h : Heap} {a : Nat} {kvs : List (Str × Value)} (I : IsD0 w h a kvs) : h.DictOf (strKind P0 w) a kvs := by
  obtain ⟨o, x, es, n, rfl, T, hn⟩ := I
  refine ⟨_, es.toArray, n, x, ⟨rfl, rfl, rfl⟩, rfl, ?_, ?_, hn⟩
  · intro e he
    have he : e ∈ es := by simpa using he
    obtain ⟨i, hi⟩ := List.getElem?_of_mem he
    obtain ⟨kv, _, ⟨t, a⟩, b, d⟩ := T.get' hi
    exact ⟨kv.1, by rw [a]; exact strKind_is P0 w _ _, d⟩
  · clear x hn
    simp only [List.toList_toArray]
    induction T with
    | nil => exact .nil
    | cons r _ ih =>
      obtain ⟨⟨t, a⟩, b, d⟩ := r
      exact .cons (by rw [a]; exact strKind_is P0 w _ _) b ih
theorem IsD0.of {w : World} {h : Heap} {a : Nat} {kvs : List (Str × Value)} (D : h.DictOf (strKind P0 w) a kvs) : IsD0 w h a kvs := by
  obtain ⟨⟨oc, od, dt, sl⟩, es, n, x, ⟨e1, e2, e3⟩, e4, hk, hp, hn⟩ := D
  dsimp only at e1 e2 e3 e4
  subst e1 e2 e3 e4
  refine ⟨_, x, es.toList, n, by simp, ?_, hn⟩
  clear x hn
  obtain ⟨l⟩ := es
  dsimp only at hp
  have hk2 : ∀ e ∈ l, ∃ k, (strKind P0 w).is k e.key = true ∧ e.hash = (strKind P0 w).hash k := fun e he => hk e (by simpa using he)
  clear hk
  show Two (KV w) l kvs
  induction hp with
  | nil => exact .nil
  | @cons e kv es kvs r1 r2 _ ih =>
    refine .cons ?_ (ih fun e' he => hk2 e' (List.Mem.tail _ he))
    obtain ⟨t, ht⟩ := Value.isStrOf_shape r1
    obtain ⟨k, k1, k2⟩ := hk2 e (List.Mem.head _)
    have : k = kv.1 := (strKind P0 w).inj _ _ _ k1 r1
    subst this
    exact ⟨⟨t, ht⟩, r2, k2⟩
def IsD (w : World) (h : Heap) (a : Nat) (kvs : List (Str × Value)) : Prop := IsD0 w h a kvs ∧ @Ne Nat a 1
theorem IsD.mono {w : World} {h h' : Heap} {a : Nat} {kvs : List (Str × Value)} (I : IsD w h a kvs) (e : Ext h h') : IsD w h' a kvs := ⟨I.1.mono e, I.2⟩
theorem IsD.dictOf {w : World} {h : Heap} {a : Nat} {kvs : List (Str × Value)} (I : IsD w h a kvs) : h.DictOf (strKind P0 w) a kvs := I.1.dictOf
theorem IsD.sm {w : World} {h : Heap} {a : Nat} {kvs : List (Str × Value)} (I : IsD w h a kvs) : (a == sysModules) = false := by simpa [sysModules] using I.2
theorem map_ne (k : Str) (v : Value) : ∀ (r : List (Str × Value)), k ∉ r.map (·.1) → r.map (fun kv => if kv.1 = k then (kv.1, v) else kv) = r
  | [], _ => rfl
  | p :: r, h => by
    simp only [List.map_cons, List.mem_cons, not_or] at h
    rw [List.map_cons, map_ne k v r h.2, if_neg (fun z => h.1 z.symm)]
theorem stored_put (kvs : List (Str × Value)) (k : Str) (v : Value) (hn : (kvs.map (·.1)).Nodup) : stored kvs k v = put k v kvs := by
  induction kvs with
  | nil => rfl
  | cons p r ih =>
    obtain ⟨y, u⟩ := p
    rw [List.map_cons, List.nodup_cons] at hn
    have ih := ih hn.2
    unfold stored at ih ⊢
    unfold put
    by_cases q : y = k
    · subst q
      have h1 := map_ne y v r hn.1
      simp only [List.any_cons, decide_true, Bool.true_or, if_true, List.map_cons, h1]
    · simp only [q, List.any_cons, decide_false, Bool.false_or, if_false, List.map_cons]
      split
      · rename_i h; rw [if_pos h] at ih; rw [ih]
      · rename_i h; rw [if_neg h] at ih; rw [List.cons_append, ih]
section
variable {w : World} {c : Cx} {g : Heap} {l : List (Str × Value)} {own : Own} {s : Shared} {A : Around} {E : Value → Shared → Prop} {gp : Heap} {env : Env}
theorem In.ne (I : In w gp s) {a : Nat} {o : Obj} (h : s.heap.get? a = some o) (hc : o.cls ≠ .none) : a ≠ 245 ∧ a ≠ 502 :=
  ⟨fun z => hc (I.t0.1 o (z ▸ h)), fun z => hc (I.t0.2 o (z ▸ h))⟩
theorem Sp.of0 (S : Sp w c g l own s) {a : Nat} {o : Obj} (h : c.s0.heap.get? a = some o) (hc : o.cls ≠ .none) : s.heap.get? a = some o := S.old a o h (fun z => hc (S.t0.1 o (z ▸ h))) fun z => hc (S.t0.2 o (z ▸ h))
theorem DictO.cls {kvs : List (Str × Value)} {o : Obj} (D : DictO w kvs o) : o.cls ≠ .none := by obtain ⟨es, n, rfl, _⟩ := D; intro e; cases e
theorem Sp.inst0 (S : Sp w c g l own s) {x C : Nat} {kvs : List (Str × Value)} (I : IsInst w c.s0.heap x C kvs) : IsInst w s.heap x C kvs := let ⟨dx, od, a, b, d⟩ := I; ⟨dx, od, S.of0 a (by intro e; cases e), S.of0 b d.cls, d⟩
theorem Sp.list0 (S : Sp w c g l own s) {a : Nat} {vs : List Value} (I : IsL c.s0.heap a vs) : IsL s.heap a vs := let ⟨n, x⟩ := I; ⟨n, S.of0 x (by intro e; cases e)⟩
theorem Sp.tup0 (S : Sp w c g l own s) {a : Nat} {vs : List Value} (I : IsT c.s0.heap a vs) : IsT s.heap a vs := let ⟨n, x⟩ := I; ⟨n, S.of0 x (by intro e; cases e)⟩
theorem Sp.dict0 (S : Sp w c g l own s) {a : Nat} {kvs : List (Str × Value)} (I : IsD w c.s0.heap a kvs) : IsD w s.heap a kvs := let ⟨⟨o, x, d⟩, n⟩ := I; ⟨⟨o, S.of0 x d.cls, d⟩, n⟩
theorem Sp.at (S : Sp w c g l own s) (i : Nat) {a : Nat} {P : Obj → Prop} (h : own[i]? = some (a, P)) : ∃ o, s.heap.get? a = some o ∧ P o := (S.ow _ (List.mem_of_getElem? h)).1
theorem ga {x C : Nat} {kvs : List (Str × Value)} {name : Str} {v : Value} {attr : Option Value} {expr : Bool} {Q : Value → Shared → Prop} (S : Sp w c g l own s)
    (I : IsInst w s.heap x C kvs) (hl : kvs.lookup name = some v)
    (hg : plainGet (hd.heap_39 w.params) C name = true) (hh : hasDictIn (hd.heap_39 w.params) C = true) (ha : findIn (hd.heap_39 w.params) (.ref C) name = some attr) (hn : noGet (hd.heap_39 w.params) attr = true)
    (hv : handedIn v = true) (h : ∀ s', Sp w c g l own s' → Q v s') : wpAny (MD w) A (getAttr (.ref x) name expr) Q E s := by
  obtain ⟨dx, od, hx, hdx, es, n, rfl, T, _⟩ := I
  have I : W.InstAt s.heap x (instObj C dx) C (some (dictOf es n)) := ⟨hx, rfl, rfl, hdx⟩
  exact get_value S.gl.kin I (plainGet_of hg).1 (findObj_own hh ha hn (by rw [lookIn_dict, getL_kv T, hl])) hv (h _ (S.tk rfl rfl rfl))
theorem osaD {x C dx i : Nat} {kvs : List (Str × Value)} {name : Str} {tk : Tok} {v : Value} {R : Result → Shared → Prop} (S : Sp w c g l own s)
    (hx : s.heap.get? x = some (instObj C dx)) (hi : own[i]? = some (dx, DictO w kvs))
    (hp : plainOver (hd.heap_39 w.params) C = true) (ht : takerIn (hd.heap_39 w.params) C name = some none) (hh : hasDictIn (hd.heap_39 w.params) C = true)
    (hz : kvs.length ≤ 900) (h : ∀ s', Sp w c g l (own.set i (dx, DictO w (put name v kvs))) s' → R (.ok (.ret .none)) s') : codeAny (MD w) A (.call (.builtin "object.__setattr__") ⟨[.ref x, .str name tk, v], []⟩) R s := by
  obtain ⟨od, hdx, es, n, rfl, T, hn⟩ := S.at i hi
  have I : W.InstAt s.heap x (instObj C dx) C (some (dictOf es n)) := ⟨hx, rfl, rfl, hdx⟩
  have X := S.gl.kin
  refine osa_open X I hp ht fun b => ?_
  obtain ⟨cd, hc, hd'⟩ := any_some hh
  have e1 := putName_dict name (PyData.keyHash w.params name) (.str name s.toks) v es n
  have T2 := DictO.put T hn name s.toks v (putN name es n)
  have lz : (putL name (PyData.keyHash w.params name) (.str name s.toks) v es).length ≤ 1000 := by
    rw [(putL_kv T name s.toks v).length]; have := put_len name v kvs; omega
  have D' := Heap.get?_update_self (h := s.heap) (Obj.putName name (PyData.keyHash w.params name) (.str name s.toks) v) hdx (by rw [e1]; rfl)
  rw [e1] at D'
  refine wpAny_bind (wpAny_pure (wpAny_bind (wpAny_bind (wpAny_loadPart hx (wpAny_bind ((looks_clsIn X hc).here ?_))))))
  rw [hd']
  refine wpAny_pure (a := some dx) (wpAny_bind (wpAny_pure (wpAny_bind ?_)))
  unfold nsSet
  refine wpAny_bind (wpAny_bind (wpAny_askSetting (wpAny_pure (wpAny_bind (wpAny_mkText (wpAny_bind (wpAny_loadPart hdx ?_)))))))
  have cc : (!es.toArray.any (·.key.isStr name) && es.toArray.any (·.refKey)) = false := by
    rw [List.any_toArray, List.any_toArray, noRefKey T, Bool.and_false]
  dsimp only
  rw [aRefKeyMayBeTheName_at, cc]
  refine wpAny_updatePart hdx ?_
  refine wpAny_bind (wpAny_lookBehind (o := dictOf (putL name (PyData.keyHash w.params name) (.str name s.toks) v es) (putN name es n)) D' (pastItsLine_dict (by rw [List.size_toArray, sizeLine_eq]; omega)) ?_)
  exact wpAny_pure (h _ (S.chg hi (Heap.SameBut.update ..).extBut (Nat.le_of_eq (Heap.SameBut.update ..).1.symm) D' T2 rfl rfl))
theorem sa {x C dx i : Nat} {kvs : List (Str × Value)} {name : Str} {v : Value} {Q : Unit → Shared → Prop} (S : Sp w c g l own s)
    (hx : s.heap.get? x = some (instObj C dx)) (hi : own[i]? = some (dx, DictO w kvs))
    (hs : findIn (hd.heap_39 w.params) (.ref C) "__setattr__" = some (some (.builtin "object.__setattr__"))) (hp : plainOver (hd.heap_39 w.params) C = true) (ht : takerIn (hd.heap_39 w.params) C name = some none) (hh : hasDictIn (hd.heap_39 w.params) C = true)
    (hz : kvs.length ≤ 900) (h : ∀ s', Sp w c g l (own.set i (dx, DictO w (put name v kvs))) s' → Q () s') : wpAny (MD w) A (setAttr (.ref x) name v) Q E s := by
  obtain ⟨od, hdx, es, n, rfl, T, hn⟩ := S.at i hi
  have I : W.InstAt s.heap x (instObj C dx) C (some (dictOf es n)) := ⟨hx, rfl, rfl, hdx⟩
  exact set_plain S.gl.kin I hs (osaD (s := { s with toks := s.toks + 1 }) (S.tk rfl rfl rfl) hx hi hp ht hh hz h)
theorem isi {x t cl : Value} {H : Heap → Prop} {b : Bool} {Q : Value → Shared → Prop} (S : Sp w c g l own s) (Z : KitX (hd.heap_39 w.params) x t H) (p : H s.heap) (e : kitOne (hd.heap_39 w.params) t cl = some b) (hx : x ≠ .builtin "__main__.__loader__#opaque")
  (h : ∀ s', Sp w c g l own s' → Q (.bool b) s') : wpAny (MD w) A (call (.builtin "isinstance") [x, cl]) Q E s := kia_one Z S.gl.kin p e hx fun _ => h _ (S.tk rfl rfl rfl)
theorem dSet {d i : Nat} {kvs : List (Str × Value)} {k : Str} {t : Tok} {v : Value} {Q : Unit → Shared → Prop} (S : Sp w c g l own s) (hi : own[i]? = some (d, DictO w kvs)) (hz : kvs.length ≤ sizeLine)
    (h : ∀ s', Sp w c g l (own.set i (d, DictO w (put k v kvs))) s' → Q () s') : wpAny (MD w) A (setItem (.ref d) (.str k t) v) Q E s := by
  obtain ⟨o, hd, D⟩ := S.at i hi
  refine wpAny_setItem_pairs (knd := strKind P0 w) (strKind_is P0 w k t) (IsD0.dictOf ⟨o, hd, D⟩) (fun h' D' hs => ?_) hz
  rw [stored_put _ _ _ (by obtain ⟨_, _, _, _, n⟩ := D; exact n)] at D'
  obtain ⟨o', x', D'⟩ := IsD0.of D'
  exact h _ (S.chg hi hs.extBut (Nat.le_of_eq hs.1.symm) x' D' rfl rfl)
theorem map_lookup {h : Heap} {d : Nat} {kvs : List (Str × Value)} (D : IsD0 w h d kvs) : h.MapOf (strKind P0 w) d fun k => kvs.lookup k := by
  obtain ⟨o, es, ep, a, b, e, f, p, n⟩ := D.dictOf
  refine ⟨o, es, ep, a, b, e, f, fun k => ?_⟩
  obtain ⟨l⟩ := es
  unfold findBy
  rw [List.find?_toArray]
  clear a b e f n D
  dsimp only at p
  induction p with
  | nil => rfl
  | @cons e kv es kvs r1 r2 _ ih =>
    rw [List.find?_cons]
    show _ = List.lookup k (kv :: kvs)
    rw [List.lookup_cons]
    have := KeyKind.is_eq_decide (knd := strKind P0 w) r1 k
    rw [this]
    by_cases q : k = kv.1
    · subst q; simp [r2]
    · have q2 : (k == kv.1) = false := by simpa using q
      rw [q2]; simp only [q, decide_false]; exact ih
theorem dGet {d : Nat} {kvs : List (Str × Value)} {k : Str} {t : Tok} {v : Value} {Q : Value → Shared → Prop} (S : Sp w c g l own s) (D : IsD0 w s.heap d kvs) (hv : kvs.lookup k = some v)
    (h : ∀ s', Sp w c g l own s' → Q v s') : wpAny (MD w) A (getItem (.ref d) (.str k t)) Q E s := wpAny_getItem_of (knd := strKind P0 w) (strKind_is P0 w k t) (map_lookup D) hv (h _ (S.tk rfl rfl rfl))
theorem sysMod (S : Sp w c g l own s) {d : Nat} (hd : c.s0.heap.objs.size ≤ d ∨ 502 < d) : (d == sysModules) = false := by
  have := S.low
  have e : sysModules = 1 := rfl
  rw [e]
  rcases hd with h | h <;> simp <;> omega
theorem dIn {d : Nat} {kvs : List (Str × Value)} {k : Str} {t : Tok} {Q : Value → Shared → Prop} (S : Sp w c g l own s) (D : IsD w s.heap d kvs)
    (h : ∀ s', Sp w c g l own s' → Q (.bool (kvs.lookup k).isSome) s') : wpAny (MD w) A (compareOp .In (.str k t) (.ref d)) Q E s := wpAny_in_of (knd := strKind P0 w) (strKind_is P0 w k t) D.sm (map_lookup D.1) (h _ (S.tk rfl rfl rfl))
theorem dNin {d : Nat} {kvs : List (Str × Value)} {k : Str} {t : Tok} {Q : Value → Shared → Prop} (S : Sp w c g l own s) (D : IsD w s.heap d kvs)
    (h : ∀ s', Sp w c g l own s' → Q (.bool (!(kvs.lookup k).isSome)) s') : wpAny (MD w) A (compareOp .NotIn (.str k t) (.ref d)) Q E s := wpAny_notIn_of (knd := strKind P0 w) (strKind_is P0 w k t) D.sm (map_lookup D.1) (h _ (S.tk rfl rfl rfl))
theorem Sp.isD (S : Sp w c g l own s) (i : Nat) {d : Nat} {kvs : List (Str × Value)} (hi : own[i]? = some (d, DictO w kvs)) : IsD w s.heap d kvs := by
  obtain ⟨h1, _, h3, _⟩ := S.ow _ (List.mem_of_getElem? hi)
  have := S.low
  exact ⟨h1, by dsimp only at h3; omega⟩
theorem newD {pos : Pos} {Q : Value → Shared → Prop} (S : Sp w c g l own s) (h : ∀ s' a, Sp w c g l ((a, DictO w []) :: own) s' → Q (.ref a) s') : wpAny (MD w) A (eval (.Dict [] [] pos) env) Q E s :=
  wpAny_Dict_empty (h _ _ (S.push rfl ⟨[], 0, rfl, .nil, .nil⟩ rfl rfl rfl))
theorem newL {vs : List Value} {Q : Value → Shared → Prop} (S : Sp w c g l own s) (hz : vs.length ≤ sizeLine) (h : ∀ s' a, Sp w c g l ((a, ListP vs) :: own) s' → Q (.ref a) s') : wpAny (MD w) A (newList vs) Q E s :=
  wpAny_newList (h _ _ (S.push rfl ⟨0, rfl⟩ rfl rfl rfl)) hz
theorem newT {vs : List Value} {Q : Value → Shared → Prop} (S : Sp w c g l own s) (hz : vs.length ≤ sizeLine) (h : ∀ s' a, Sp w c g l ((a, TupP vs) :: own) s' → Q (.ref a) s') : wpAny (MD w) A (newTuple vs) Q E s :=
  wpAny_newTuple (h _ _ (S.push rfl ⟨0, rfl⟩ rfl rfl rfl)) hz
theorem newTf {vs : List Value} {Q : Value → Shared → Prop} (S : Sp w c g l own s) (hz : vs.length ≤ sizeLine) (h : ∀ s' a g', Ext g g' → IsT g' a vs → Sp w c g' l own s' → Q (.ref a) s') : wpAny (MD w) A (newTuple vs) Q E s :=
  newT S hz fun s' a S' => by
    have nd := S'.nd
    rw [List.map_cons, List.nodup_cons] at nd
    obtain ⟨g', o, e, ha, ⟨n, rfl⟩, S2⟩ := S'.freeze (own' := own) (List.sublist_cons_self ..) (List.Mem.head _) nd.1
    exact h s' a g' e ⟨n, ha⟩ S2
theorem newLf {vs : List Value} {Q : Value → Shared → Prop} (S : Sp w c g l own s) (hz : vs.length ≤ sizeLine) (h : ∀ s' a g', Ext g g' → IsL g' a vs → Sp w c g' l own s' → Q (.ref a) s') : wpAny (MD w) A (newList vs) Q E s :=
  newL S hz fun s' a S' => by
    have nd := S'.nd
    rw [List.map_cons, List.nodup_cons] at nd
    obtain ⟨g', o, e, ha, ⟨n, rfl⟩, S2⟩ := S'.freeze (own' := own) (List.sublist_cons_self ..) (List.Mem.head _) nd.1
    exact h s' a g' e ⟨n, ha⟩ S2
theorem app {a i : Nat} {vs : List Value} {v : Value} {Q : Value → Shared → Prop} (S : Sp w c g l own s) (hi : own[i]? = some (a, ListP vs)) (hz : vs.length ≤ sizeLine)
    (h : ∀ s', Sp w c g l (own.set i (a, ListP (vs ++ [v]))) s' → Q .none s') : wpAny (MD w) A (call (.builtin "list.append") [.ref a, v]) Q E s := by
  obtain ⟨o, ha, n, rfl⟩ := S.at i hi
  refine wpAny_list_append_plain (items := vs.toArray) ⟨n, ha⟩ (fun h' P' hs => ?_) (by rw [List.size_toArray]; exact hz)
  obtain ⟨m, x'⟩ := P'
  exact h _ (S.chg hi hs.extBut (Nat.le_of_eq hs.1.symm) x' ⟨m, by simp [listO]⟩ rfl rfl)
end
end Mine
end
section
set_option maxHeartbeats 4000000
namespace Mine
def itO (its : List (Nat × Obj)) : Own := its.map fun p => (p.1, fun o => o = p.2)
def NsP (l : List (Str × Value)) (o : Obj) : Prop := ∃ (m : Str → Option Value) (es : Array DictEntry) (ep : Nat), o.data = .dict es ep ∧ StrKeys es ∧ (∀ name, nsFind es name = m name) ∧ ∀ x v, l.lookup x = some v → m x = some v
theorem itO_keys (its : List (Nat × Obj)) : (itO its).map (·.1) = its.map (·.1) := by unfold itO; rw [List.map_map]; rfl
section
variable {w : World} {c : Cx} {g : Heap} {l : List (Str × Value)} {own : Own} {s : Shared} {A : Around} {E : Value → Shared → Prop} {env : Env}
theorem Sp.perm (S : Sp w c g l own s) {own' : Own} (h : ∀ p ∈ own', p ∈ own) (nd : (own'.map (·.1)).Nodup) : Sp w c g l own' s := by
  obtain ⟨a1, a2, a3, a4, t0, a5, a6, a7, a8, a9, a10, a11, a12, a13, a14, a15, a16, a17⟩ := S
  exact ⟨a1, a2, a3, a4, t0, a5, a6, a7, a8, a9, a10, a11, a12, a13, a14, a15, fun p hp => a16 p (h p hp), nd⟩
theorem Sp.toEnd (S : Sp w c g l (own' ++ own) s) : Sp w c g l (own ++ own') s := S.perm (fun p hp => by simp only [List.mem_append] at hp ⊢; exact hp.symm) (by
  have := S.nd
  rw [List.map_append] at this ⊢
  exact (List.perm_append_comm.nodup_iff).mp this)
theorem live_its {h : Heap} : ∀ {its : List (Nat × Obj)}, (∀ b ∈ its.map (·.1), ∃ o, h.get? b = some o) → ∃ its' : List (Nat × Obj), its'.map (·.1) = its.map (·.1) ∧ ∀ p ∈ its', h.get? p.1 = some p.2
  | [], _ => ⟨[], rfl, fun _ hp => nomatch hp⟩
  | p :: r, hl => by
    obtain ⟨o, ho⟩ := hl p.1 (List.Mem.head _)
    obtain ⟨r', e, h'⟩ := live_its (its := r) fun b hb => hl b (List.Mem.tail _ hb)
    exact ⟨(p.1, o) :: r', by simp [e], fun q hq => by rcases List.mem_cons.mp hq with rfl | hq; exact ho; exact h' q hq⟩
theorem Sp.chgs {its : List (Nat × Obj)} (S : Sp w c g l (own ++ itO its) s) {s' : Shared} (hk : ∀ (b : Nat) o, b ∉ its.map (·.1) → s.heap.get? b = some o → s'.heap.get? b = some o) (hg : s'.gens = s.gens) (ho : s'.os = s.os) {its' : List (Nat × Obj)} (e : its'.map (·.1) = its.map (·.1)) (hl : ∀ p ∈ its', s'.heap.get? p.1 = some p.2) :
    Sp w c g l (own ++ itO its') s' := by
  have lo := S.low
  have lz := S.sz
  have nin : ∀ {b : Nat}, b ∈ its.map (·.1) → g.get? b = none ∧ c.s0.heap.objs.size ≤ b ∧ b ≠ c.L := fun {b} hb => by
    rw [← itO_keys] at hb
    obtain ⟨p, hp, rfl⟩ := List.mem_map.mp hb
    exact (S.ow p (List.mem_append_right _ hp)).2
  have gne : ∀ (b : Nat) o, g.get? b = some o → b ∉ its.map (·.1) := fun b o x y => by rw [(nin y).1] at x; cases x
  have one : ∀ (b : Nat), b < c.s0.heap.objs.size → b ∉ its.map (·.1) := fun b x y => by have := (nin y).2.1; omega
  obtain ⟨m, n, hm⟩ := S.ns
  have hL : c.L ∉ its.map (·.1) := fun y => (nin y).2.2 rfl
  have n' : s'.heap.Ns c.L m := n.at' fun o x => hk _ o hL x
  have hnd : ((own ++ itO its').map (·.1)) = ((own ++ itO its).map (·.1)) := by rw [List.map_append, List.map_append, itO_keys, itO_keys, e]
  refine ⟨hg.trans S.gens, ho.trans S.os, S.gl0, tabs_to S.tabs (fun o x => hk _ _ (one _ (by omega)) x) (fun o x => hk _ _ (one _ (by omega)) x), S.t0, fun b o x n1 n2 => hk b o (one b (ltz x)) (S.old b o x n1 n2), ?_, S.sz, S.low, fun b o x => hk b o (gne b o x) (S.ge b o x), S.gs, S.gp, S.gt1, S.gt2, ⟨m, n', hm⟩, S.gL, ?_, by rw [hnd]; exact S.nd⟩
  · exact Nat.le_of_lt (Nat.lt_of_le_of_lt lz n'.lt)
  · intro p hp
    rcases List.mem_append.mp hp with hp | hp
    · obtain ⟨⟨o, q1, q2⟩, q3⟩ := S.ow p (List.mem_append_left _ hp)
      refine ⟨⟨o, hk _ o (fun y => ?_) q1, q2⟩, q3⟩
      have nd := S.nd
      rw [List.map_append, itO_keys, List.nodup_append] at nd
      exact nd.2.2 p.1 (List.mem_map_of_mem hp) p.1 y rfl
    · have hb : p.1 ∈ its.map (·.1) := by rw [← e, ← itO_keys]; exact List.mem_map_of_mem hp
      unfold itO at hp
      obtain ⟨q, hq, rfl⟩ := List.mem_map.mp hp
      exact ⟨⟨q.2, hl q hq, rfl⟩, nin hb⟩
structure KT (w : World) (A : Around) (target : Expr) (I : Nat) (fp wr : List Addr) (n : Nat) (P Md : Nat → Value → Heap → Prop) (St : Nat → Heap → Prop) : Prop where
  W : KTurns P0 w A target I fp wr n P Md St
  live : ∀ i h, St i h → ∀ b ∈ wr, ∃ o, h.get? b = some o
  self : ∀ (s : Shared) (Q : Value → Shared → Prop) (E : Value → Shared → Prop), St 0 s.heap → Q (.ref I) s → wpAny (MD w) A (pyIter (.ref I)) Q E s
structure At (g : Heap) (fp wr : List Addr) (its : List (Nat × Obj)) : Prop where
  keys : its.map (·.1) = wr
  fp : ∀ b ∈ fp, b ∉ wr → (g.get? b).isSome = true
theorem At.mono {g g' : Heap} {fp wr : List Addr} {its : List (Nat × Obj)} (h : At g fp wr its) (e : Ext g g') : At g' fp wr its := ⟨h.keys, fun b h1 h2 => by
  obtain ⟨o, x⟩ := Option.isSome_iff_exists.mp (h.fp b h1 h2); rw [e b o x]; rfl⟩
variable {target : Expr} {I : Nat} {fp wr : List Addr} {n : Nat} {P Md : Nat → Value → Heap → Prop} {St : Nat → Heap → Prop}
theorem KT.keep (T : KT w A target I fp wr n P Md St) {c' : Cx} {g' : Heap} {l' : List (Str × Value)} {own' : Own} {s' : Shared} {its : List (Nat × Obj)} {k : Nat} (a : At g fp wr its) (S : Sp w c g l (own ++ itO its) s) (S' : Sp w c' g' l' (own' ++ itO its) s') (e : Ext g g') (h : St k s.heap) : St k s'.heap := by
  refine T.W.frame k _ _ h fun b hb o x => ?_
  by_cases hw : b ∈ wr
  · rw [← a.keys] at hw
    obtain ⟨p, hp, rfl⟩ := List.mem_map.mp hw
    have hm : (p.1, fun o => o = p.2) ∈ itO its := List.mem_map_of_mem hp
    obtain ⟨⟨o1, x1, e1⟩, _⟩ := S.ow _ (List.mem_append_right _ hm)
    obtain ⟨⟨o2, x2, e2⟩, _⟩ := S'.ow _ (List.mem_append_right _ hm)
    dsimp only at x1 x2 e1 e2
    rw [x1] at x; cases x
    rw [x2, e2, e1]
  · obtain ⟨o1, x1⟩ := Option.isSome_iff_exists.mp (a.fp b hb hw)
    rw [S.ge b o1 x1] at x; cases x
    exact S'.ge b o (e b o x1)
theorem KT.next (T : KT w A target I fp wr n P Md St) {its : List (Nat × Obj)} {k : Nat} (a : At g fp wr its) (S : Sp w c g l (own ++ itO its) s) (h : St k s.heap) (hk : k < n) {N : Shared → Prop} {F : Value → Shared → Prop} {E2 : Value → Shared → Prop}
    (hF : ∀ v s' its', P k v s'.heap → St (k + 1) s'.heap → At g fp wr its' → Sp w c g l (own ++ itO its') s' → F v s') :
    wpAny (MD w) A (pyNext (.ref I)) (fun r s₁ => match r with | none => N s₁ | some v => wpAny (MD w) A (letOwnedTupleGo target (.ref I) v) (fun _ s₀ => F v s₀) E2 s₁) E s := by
  refine T.W.item k s _ _ hk h fun v h1 tk hm hk1 => ?_
  dsimp only
  refine T.W.go k v _ _ _ hm fun h2 hP hst hk2 => ?_
  have hkk : ∀ (b : Nat) o, b ∉ its.map (·.1) → s.heap.get? b = some o → h2.get? b = some o := fun b o hb x => by rw [a.keys] at hb; exact hk2 b o hb (hk1 b o hb x)
  obtain ⟨its', e, hl⟩ := live_its (h := h2) (its := its) (by rw [a.keys]; exact T.live _ _ hst)
  exact hF v _ its' hP hst ⟨e.trans a.keys, a.fp⟩ (S.chgs (s' := { s with heap := h2, toks := tk }) hkk rfl rfl e hl)
theorem KT.fin (T : KT w A target I fp wr n P Md St) {its : List (Nat × Obj)} (a : At g fp wr its) (S : Sp w c g l (own ++ itO its) s) (h : St n s.heap) {N : Shared → Prop} {F : Value → Shared → Prop}
    (hN : ∀ s', Sp w c g l own s' → N s') : wpAny (MD w) A (pyNext (.ref I)) (fun r s₁ => match r with | none => N s₁ | some v => F v s₁) E s := by
  refine T.W.done s _ _ h fun h1 tk hk1 => ?_
  dsimp only
  have lo := S.low
  have lz := S.sz
  have nin : ∀ {b : Nat}, b ∈ its.map (·.1) → g.get? b = none ∧ c.s0.heap.objs.size ≤ b ∧ b ≠ c.L := fun {b} hb => by
    rw [← itO_keys] at hb
    obtain ⟨p, hp, rfl⟩ := List.mem_map.mp hb
    exact (S.ow p (List.mem_append_right _ hp)).2
  have hk : ∀ (b : Nat) o, b ∉ its.map (·.1) → s.heap.get? b = some o → h1.get? b = some o := fun b o hb x => by rw [a.keys] at hb; exact hk1 b o hb x
  have one : ∀ (b : Nat), b < c.s0.heap.objs.size → b ∉ its.map (·.1) := fun b x y => by have := (nin y).2.1; omega
  obtain ⟨m, nn, hm⟩ := S.ns
  have n' : h1.Ns c.L m := nn.at' fun o x => hk _ o (fun y => (nin y).2.2 rfl) x
  have nd := S.nd
  rw [List.map_append, itO_keys, List.nodup_append] at nd
  refine hN _ ⟨S.gens, S.os, S.gl0, tabs_to S.tabs (fun o x => hk _ _ (one _ (by omega)) x) (fun o x => hk _ _ (one _ (by omega)) x), S.t0, fun b o x n1 n2 => hk b o (one b (ltz x)) (S.old b o x n1 n2), Nat.le_of_lt (Nat.lt_of_le_of_lt lz n'.lt), S.sz, S.low, fun b o x => hk b o (fun y => by rw [(nin y).1] at x; cases x) (S.ge b o x), S.gs, S.gp, S.gt1, S.gt2, ⟨m, n', hm⟩, S.gL, ?_, nd.1⟩
  intro p hp
  obtain ⟨⟨o, q1, q2⟩, q3⟩ := S.ow p (List.mem_append_left _ hp)
  exact ⟨⟨o, hk _ o (fun y => nd.2.2 p.1 (List.mem_map_of_mem hp) p.1 y rfl) q1, q2⟩, q3⟩
def Asg (w : World) (A : Around) (target : Expr) (env : Env) (c : Cx) (P : Nat → Value → Heap → Prop) (vals : Nat → List (Str × Value) → Prop) : Prop :=
  ∀ k v g l own s (Q : Unit → Shared → Prop) E, P k v s.heap → Sp w c g l own s → (∀ b s', vals k b → Sp w c g (b ++ l) own s' → Q () s') → wpAny (MD w) A (assign target env v) Q E s
theorem asg1 {x : Str} {px : Pos} {P1 : Nat → Value → Prop} (hL : env.locals = c.L) (hl : env.kindOf x = some .local) (hp : (env.scope.kind == .class || (env.scope.kind == .module && env.locals != env.globals)) = false) : Asg w A (.Name x px) env c (fun k v _ => P1 k v) fun k b => ∃ v, b = [(x, v)] ∧ P1 k v :=
  fun k v g l own s Q E p S h => wpAny_assign_Name (sn S (fun s' S' => h [(x, v)] s' ⟨v, rfl, p⟩ S') hL hl hp)
theorem asg2 {x y : Str} {px py tp : Pos} {kk : Nat} {P1 : Nat → Value → Heap → Prop} {P2 : Nat → Value → Value → Prop} (hh : A.handled = none) (hP : ∀ k v h, P1 k v h → ∃ (T : Nat) (a b : Value), v = .ref T ∧ h.IsTuple T #[a, b] ∧ P2 k a b) (hL : env.locals = c.L) (hx : env.kindOf x = some .local) (hy : env.kindOf y = some .local)
    (hp : (env.scope.kind == .class || (env.scope.kind == .module && env.locals != env.globals)) = false) : Asg w A (.Tuple [.Name x px, .Name y py] kk tp) env c P1 fun k b => ∃ u v, b = [(y, v), (x, u)] ∧ P2 k u v := by
  intro k v g l own s Q E p S h
  obtain ⟨T, a, b, rfl, hT, p2⟩ := hP _ _ _ p
  refine wpAny_assign_Tuple hh hT rfl rfl fun h₁ he₁ => ?_
  have S1 : Sp w c g l own { s with heap := h₁ } := by
    have hk : ∀ (b : Nat) o, s.heap.get? b = some o → h₁.get? b = some o := fun b o x => he₁ b o (nea (Nat.ne_of_lt (ltz x))) x
    have := (show Sp w c g l (own ++ itO []) s by simpa [itO] using S).chgs (s' := { s with heap := h₁ }) (its' := []) (fun b o _ x => hk b o x) rfl rfl rfl (fun _ hp => nomatch hp)
    simpa [itO] using this
  show wpAny _ _ (assignInOrder [assign (.Name x px) env, assign (.Name y py) env] [a, b]) _ _ _
  refine assignInOrder_cons (wpAny_assign_Name (sn S1 (fun s2 S2 => ?_) hL hx hp))
  refine assignInOrder_cons (wpAny_assign_Name (sn S2 (fun s3 S3 => ?_) hL hy hp))
  exact assignInOrder_nil (h [(y, b), (x, a)] _ ⟨a, b, rfl, p2⟩ S3)
theorem forK {body orelse : List Stmt} {R : Result → Shared → Prop} {its : List (Nat × Obj)} {vals : Nat → List (Str × Value) → Prop} (T : KT w A target I fp wr n P Md St) (a : At g fp wr its) (S : Sp w c g l (own ++ itO its) s) (h0 : St 0 s.heap) (asg : Asg w A target env c P vals)
    (Inv : Nat → Heap → List (Str × Value) → Own → Prop) (i0 : Inv 0 g l own)
    (turn : ∀ k its g' l' own' b s', k < n → Ext g g' → Inv k g' l' own' → vals k b → Sp w c g' (b ++ l') (own' ++ itO its) s' →
      wpAny (MD w) A (execs body env) (fun f s'' => match f with
        | .next | .cont => ∃ g'' l'' own'', Ext g' g'' ∧ Inv (k + 1) g'' l'' own'' ∧ Sp w c g'' l'' (own'' ++ itO its) s''
        | .brk => R (.ok .next) s''
        | .ret v => R (.ok (.ret v)) s'') (notedBy (MD w) A env fun e s' => R (.error e) s') s')
    (fin : ∀ g' l' own' s', Ext g g' → Inv n g' l' own' → Sp w c g' l' own' s' → wpAny (MD w) A (execs orelse env) (fun f s₃ => R (.ok f) s₃) (notedBy (MD w) A env fun e s' => R (.error e) s') s') :
    codeAny (MD w) A (.forLoop target (.ref I) body orelse env) R s := by
  refine codeAny_forLoop_any (fun m s => ∃ k g' l' own' its', m = n - k ∧ k ≤ n ∧ Ext g g' ∧ Inv k g' l' own' ∧ At g' fp wr its' ∧ Sp w c g' l' (own' ++ itO its') s ∧ St k s.heap) ?_ n ⟨0, g, l, own, its, rfl, Nat.zero_le _, Ext.rfl', i0, a, S, h0⟩
  rintro m s ⟨k, g', l', own', its', rfl, hk, e, iv, a', S', st⟩
  by_cases hkn : k < n
  · refine T.next a' S' st hkn fun v s2 its2 hP st2 a2 S2 => ?_
    refine asg k v _ _ _ _ _ _ hP S2 fun b s3 hv S3 => ?_
    have st3 := T.keep a2 S2 S3 Ext.rfl' st2
    refine wpAny_mono (turn k its2 g' l' own' b s3 hkn e iv hv S3) (fun f s4 hf => ?_) fun _ _ h => h
    cases f with
    | next =>
      obtain ⟨g'', l'', own'', e'', iv'', S4⟩ := hf
      exact ⟨n - (k + 1), by omega, k + 1, g'', l'', own'', its2, rfl, hkn, e.trans e'', iv'', a2.mono e'', S4, T.keep a2 S3 S4 e'' st3⟩
    | cont =>
      obtain ⟨g'', l'', own'', e'', iv'', S4⟩ := hf
      exact ⟨n - (k + 1), by omega, k + 1, g'', l'', own'', its2, rfl, hkn, e.trans e'', iv'', a2.mono e'', S4, T.keep a2 S3 S4 e'' st3⟩
    | brk => exact hf
    | ret v => exact hf
  · have : k = n := Nat.le_antisymm hk (Nat.not_lt.mp hkn)
    subst this
    exact T.fin a' S' st fun s2 S2 => fin g' l' own' s2 e iv S2
end
end Mine
end
section
set_option maxHeartbeats 4000000
namespace Mine
section
variable {w : World} {c : Cx} {g : Heap} {l : List (Str × Value)} {own : Own} {s : Shared} {A : Around} {E : Value → Shared → Prop} {env : Env}
variable {target : Expr} {I : Nat} {fp wr : List Addr} {n : Nat} {P Md : Nat → Value → Heap → Prop} {St : Nat → Heap → Prop}
def Itr (w : World) (A : Around) (target : Expr) (c : Cx) (g : Heap) (l : List (Str × Value)) (own : Own) (n : Nat) (P : Nat → Value → Heap → Prop) (Q : Value → Shared → Prop) : Prop :=
  ∀ I fp wr Md St its s', KT w A target I fp wr n P Md St → At g fp wr its → Sp w c g l (own ++ itO its) s' → St 0 s'.heap → Q (.ref I) s'
theorem Sp.pushE (S : Sp w c g l own s) {o : Obj} (hf : o.isFreed = false) {s' : Shared} (e : s'.heap = s.heap.push o) (hg : s'.gens = s.gens) (ho : s'.os = s.os) : Sp w c g l (own ++ itO [(s.heap.objs.size, o)]) s' :=
  Sp.toEnd (own' := itO [(s.heap.objs.size, o)]) (S.push (P := fun x => x = o) hf rfl e hg ho)
theorem at1 {a : Nat} {o : Obj} {I : Nat} {oi : Obj} (h : g.get? a = some o) : At g [I, a] [I] [(I, oi)] := ⟨rfl, fun b hb hn => by
  simp only [List.mem_cons, List.not_mem_nil, or_false] at hb hn
  rcases hb with rfl | rfl
  · exact absurd rfl hn
  · rw [h]; rfl⟩
theorem it_T {a : Nat} {vs : List Value} {x : Str} {px : Pos} {Q : Value → Shared → Prop} (hh : A.handled = none) (S : Sp w c g l own s) (hT : IsT g a vs) (h : Itr w A (.Name x px) c g l own vs.length (fun i v _ => vs[i]? = some v) Q) : wpAny (MD w) A (pyIter (.ref a)) Q E s := by
  obtain ⟨k, hg⟩ := id hT
  have hT' : s.heap.IsTuple a vs.toArray := (hT.mono S.ge).tup
  refine wpAny_pyIter_tuple hT' ?_
  have ne : a ≠ s.heap.objs.size := Nat.ne_of_lt (ltz (S.ge _ _ hg))
  have W := Walks.tuple (prog := P0) (w := w) hh s.heap.objs.size a (nea ne) vs.toArray
  have K := KTurns.ofWalks (target := .Name x px) W (fun i v s Q E _ q => wpAny_pure q)
  have e : vs.toArray.size = vs.length := List.size_toArray ..
  rw [e] at K
  simp only [List.getElem?_toArray] at K
  refine h _ _ _ _ _ [(s.heap.objs.size, _)] _ (KT.mk K (fun i h st b hb => ?_) (fun s Q E st q => W.self 0 s Q E st q)) (at1 hg) (S.pushE rfl rfl rfl rfl) ⟨⟨_, Heap.get?_push_size _ rfl, rfl, rfl⟩, hT'.at fun o e => Heap.get?_push_of_some _ e⟩
  obtain ⟨⟨o, ho, _⟩, _⟩ := st
  rw [List.mem_singleton.mp hb]; exact ⟨o, ho⟩
theorem it_L {a : Nat} {vs : List Value} {x : Str} {px : Pos} {Q : Value → Shared → Prop} (hh : A.handled = none) (S : Sp w c g l own s) (hT : IsL g a vs) (h : Itr w A (.Name x px) c g l own vs.length (fun i v _ => vs[i]? = some v) Q) : wpAny (MD w) A (pyIter (.ref a)) Q E s := by
  obtain ⟨k, hg⟩ := id hT
  have hT' : s.heap.IsList a vs.toArray := (hT.mono S.ge).list
  refine wpAny_pyIter_list hT' ?_
  have ne : a ≠ s.heap.objs.size := Nat.ne_of_lt (ltz (S.ge _ _ hg))
  have W := Walks.list (prog := P0) (w := w) hh s.heap.objs.size a (nea ne) vs.toArray
  have K := KTurns.ofWalks (target := .Name x px) W (fun i v s Q E _ q => wpAny_pure q)
  have e : vs.toArray.size = vs.length := List.size_toArray ..
  rw [e] at K
  simp only [List.getElem?_toArray] at K
  refine h _ _ _ _ _ [(s.heap.objs.size, _)] _ (KT.mk K (fun i h st b hb => ?_) (fun s Q E st q => W.self 0 s Q E st q)) (at1 hg) (S.pushE rfl rfl rfl rfl) ⟨⟨_, Heap.get?_push_size _ rfl, rfl, rfl⟩, hT'.at fun o e => Heap.get?_push_of_some _ e⟩
  obtain ⟨⟨o, ho, _⟩, _⟩ := st
  rw [List.mem_singleton.mp hb]; exact ⟨o, ho⟩
theorem IsD.at {h : Heap} {a : Nat} {kvs : List (Str × Value)} (I : IsD w h a kvs) : ∃ ep, h.DictAt (strKind P0 w) a kvs ep := let ⟨o, es, ep, r⟩ := I.dictOf; ⟨ep, o, es, r⟩
theorem it_D {a : Nat} {kvs : List (Str × Value)} {x : Str} {px : Pos} {Q : Value → Shared → Prop} (hh : A.handled = none) (S : Sp w c g l own s) (hT : IsD w g a kvs) (h : Itr w A (.Name x px) c g l own kvs.length (fun i v _ => ∃ k u t, kvs[i]? = some (k, u) ∧ v = .str k t) Q) : wpAny (MD w) A (pyIter (.ref a)) Q E s := by
  obtain ⟨o, hg, _⟩ := id hT.1
  obtain ⟨ep, hT'⟩ := (hT.mono S.ge).at
  refine wpAny_pyIter_dict hT.sm hT' ?_
  have ne : a ≠ s.heap.objs.size := Nat.ne_of_lt (ltz (S.ge _ _ hg))
  have W := Walks.dictKeys (prog := P0) (w := w) (knd := strKind P0 w) hh s.heap.objs.size a (nea ne) kvs ep
  have K := KTurns.ofWalks (target := .Name x px) W (fun i v s Q E _ q => wpAny_pure q)
  have e : (fun (i : Nat) (v : Value) (_ : Heap) => ∃ k u t, kvs[i]? = some (k, u) ∧ v = .str k t) = fun i v _ => ∃ k x, kvs[i]? = some (k, x) ∧ (strKind P0 w).is k v = true := by
    funext i v _
    refine propext ⟨?_, ?_⟩
    · rintro ⟨k, u, t, a, rfl⟩; exact ⟨k, u, a, strKind_is P0 w _ _⟩
    · rintro ⟨k, u, a, b⟩
      obtain ⟨t, rfl⟩ := Value.isStrOf_shape b
      exact ⟨k, u, t, a, rfl⟩
  rw [e] at h
  refine h _ _ _ _ _ [(s.heap.objs.size, _)] _ (KT.mk K (fun i h st b hb => ?_) (fun s Q E st q => W.self 0 s Q E st q)) (at1 hg) (S.pushE rfl rfl rfl rfl) ⟨⟨_, Heap.get?_push_size _ rfl, rfl, rfl⟩, hT'.at' fun o e => Heap.get?_push_of_some _ e⟩
  obtain ⟨⟨o, ho, _⟩, _⟩ := st
  rw [List.mem_singleton.mp hb]; exact ⟨o, ho⟩
def IsView (h : Heap) (a d : Nat) : Prop := ∃ o, h.get? a = some o ∧ o.cls = .type "dict_items" ∧ o.data = .fields #[.ref d]
theorem it_V {a d : Nat} {kvs : List (Str × Value)} {elts : List Expr} {kk : Nat} {px : Pos} {Q : Value → Shared → Prop} (hh : A.handled = none) (S : Sp w c g l own s) (hV : IsView g a d) (hT : IsD w g d kvs)
    (h : Itr w A (.Tuple elts kk px) c g l own kvs.length (fun i v h => ∃ (T : Nat) (k : Str) (t : Tok) (u : Value), v = .ref T ∧ kvs[i]? = some (k, u) ∧ h.IsTuple T #[.str k t, u]) Q) : wpAny (MD w) A (pyIter (.ref a)) Q E s := by
  obtain ⟨o, hg, _⟩ := id hT.1
  obtain ⟨ep, hT'⟩ := (hT.mono S.ge).at
  have hV' : s.heap.IsItemsView a d := let ⟨o, x, r⟩ := hV; ⟨o, S.ge _ _ x, r⟩
  refine wpAny_pyIter_items hV' hT' ?_
  have ne : d ≠ s.heap.objs.size := Nat.ne_of_lt (ltz (S.ge _ _ hg))
  have K := kti_itemsTurns (prog := P0) (w := w) (knd := strKind P0 w) (elts := elts) (kk := kk) (pos := px) hh s.heap.objs.size d (nea ne) kvs ep
  have e : (fun (i : Nat) (v : Value) (h : Heap) => ∃ (T : Nat) (k : Str) (t : Tok) (u : Value), v = .ref T ∧ kvs[i]? = some (k, u) ∧ h.IsTuple T #[.str k t, u]) = fun i v h => ∃ T key k x, v = .ref T ∧ kvs[i]? = some (k, x) ∧ (strKind P0 w).is k key = true ∧ h.IsTuple T #[key, x] := by
    funext i v h
    refine propext ⟨?_, ?_⟩
    · rintro ⟨T, k, t, u, rfl, a, b⟩; exact ⟨T, _, k, u, rfl, a, strKind_is P0 w _ _, b⟩
    · rintro ⟨T, key, k, u, rfl, a, b, d⟩
      obtain ⟨t, rfl⟩ := Value.isStrOf_shape b
      exact ⟨T, k, t, u, rfl, a, d⟩
  rw [e] at h
  refine h _ _ _ _ _ [(s.heap.objs.size, _)] _ (KT.mk K (fun i h st b hb => ?_) (fun s Q E st q => ?_)) (at1 hg) (S.pushE rfl rfl rfl rfl) ⟨⟨_, _, Heap.get?_push_size _ rfl⟩, hT'.at' fun o e => Heap.get?_push_of_some _ e⟩
  · obtain ⟨⟨ok, ov, ho⟩, _⟩ := st
    rw [List.mem_singleton.mp hb]; exact ⟨_, ho⟩
  · obtain ⟨⟨ok, ov, ho⟩, _⟩ := st
    exact kcp_self ho q
def Itr2 (w : World) (A : Around) (c : Cx) (g : Heap) (l : List (Str × Value)) (own : Own) (n : Nat) (P : Nat → Value → Heap → Prop) (Q : Value → Shared → Prop) : Prop :=
  ∀ I fp wr Md St its s', (∀ elts kk pos, KT w A (.Tuple elts kk pos) I fp wr n P Md St) → At g fp wr its → Sp w c g l (own ++ itO its) s' → St 0 s'.heap → Q (.ref I) s'
theorem newEnum {a : Nat} {vs : List Value} {Q : Value → Shared → Prop} (hh : A.handled = none) (S : Sp w c g l own s) (hT : IsL g a vs)
    (h : Itr2 w A c g l own vs.length (fun i v h => ∃ (T : Nat) (t : Tok) (u : Value), v = .ref T ∧ vs[i]? = some u ∧ h.IsTuple T #[.int i t, u]) Q) :
    wpAny (MD w) A (call (.type "enumerate") [.ref a]) Q E s := by
  obtain ⟨k, hg⟩ := id hT
  have hT' := (hT.mono S.ge).list
  have hz := ltz (S.ge _ _ hg)
  refine call_enumerate_list hT' fun h' he hi hsz hk => ?_
  obtain ⟨oi, hoi, hoi2⟩ := id hi
  have S1 : Sp w c g l (own ++ itO [(s.heap.objs.size, { cls := .type "cell", data := .cell none })]) { s with heap := s.heap.push { cls := .type "cell", data := .cell none } } := S.pushE rfl rfl rfl rfl
  have S2 : Sp w c g l ((own ++ itO [(s.heap.objs.size, { cls := .type "cell", data := .cell none })]) ++ itO [(s.heap.objs.size + 1, { cls := .type "cell", data := .cell none })]) { s with heap := (s.heap.push { cls := .type "cell", data := .cell none }).push { cls := .type "cell", data := .cell none } } := by
    have := S1.pushE (o := { cls := .type "cell", data := .cell none }) (s' := { s with heap := (s.heap.push { cls := .type "cell", data := .cell none }).push { cls := .type "cell", data := .cell none } }) rfl rfl rfl rfl
    rw [Heap.size_push] at this; exact this
  have S3 : Sp w c g l (own ++ itO [(s.heap.objs.size + 1, { cls := .type "cell", data := .cell none }), (s.heap.objs.size, { cls := .type "cell", data := .cell none })]) { s with heap := (s.heap.push { cls := .type "cell", data := .cell none }).push { cls := .type "cell", data := .cell none } } := by
    refine S2.perm (fun p hp => ?_) ?_
    · simp only [itO, List.map_cons, List.map_nil, List.mem_append, List.mem_cons, List.not_mem_nil, or_false] at hp ⊢
      rcases hp with hp | hp | hp
      · exact .inl (.inl hp)
      · exact .inr hp
      · exact .inl (.inr hp)
    · have nd := S2.nd
      rw [List.map_append, List.map_append, itO_keys, itO_keys] at nd
      rw [List.map_append, itO_keys]
      rw [List.append_assoc] at nd
      exact (List.Perm.append_left _ (List.Perm.swap ..)).nodup_iff.mp nd
  have S4 := S3.chgs (s' := { s with heap := h' }) (its' := [(s.heap.objs.size + 1, { cls := .type "enumerate", dict := none, data := .fields #[.none, .bool false, .ref s.heap.objs.size, rawInt 0, .none, .none], slots := #[] }), (s.heap.objs.size, oi)]) (fun (b : Nat) o hb x => by
    simp only [List.map_cons, List.map_nil, List.mem_cons, List.not_mem_nil, or_false, not_or] at hb
    refine hk b o ?_
    have e1 : ((s.heap.push { cls := .type "cell", data := .cell none }).push { cls := .type "cell", data := .cell none }).get? b = s.heap.get? b := by
      rw [get_push_none (by rw [Heap.size_push]; exact hb.1), get_push_none hb.2]
    exact e1 ▸ x) rfl rfl rfl (fun p hp => by
      rcases List.mem_cons.mp hp with rfl | hp
      · exact he
      · rw [List.mem_singleton.mp hp]; exact hoi)
  have W := (WalksT.enumerate (prog := P0) (w := w) hh (s.heap.objs.size + 1) s.heap.objs.size a (nea (by omega)) (nea (by omega)) (nea (by omega)) vs.toArray).toU
  have e : vs.toArray.size = vs.length := List.size_toArray ..
  rw [e] at W
  simp only [List.getElem?_toArray] at W
  have eP : (fun (i : Nat) (v : Value) (h : Heap) => ∃ (T : Nat) (t : Tok) (u : Value), v = .ref T ∧ vs[i]? = some u ∧ h.IsTuple T #[.int i t, u]) = fun i v h => ∃ T vals, v = .ref T ∧ (∃ t x, vs[i]? = some x ∧ vals = #[.int i t, x]) ∧ h.IsTuple T vals := by
    funext i v h
    refine propext ⟨?_, ?_⟩
    · rintro ⟨T, t, u, a, b, d⟩; exact ⟨T, _, a, ⟨t, u, b, rfl⟩, d⟩
    · rintro ⟨T, vals, a, ⟨t, u, b, rfl⟩, d⟩; exact ⟨T, t, u, a, b, d⟩
  rw [eP] at h
  refine h (s.heap.objs.size + 1) _ _ _ _ _ _ (fun elts kk pos => KT.mk (KTurns.ofWalksU (elts := elts) (k := kk) (pos := pos) W) (fun i h st b hb => ?_) (fun s Q E st q => W.self 0 s Q E st q)) ⟨rfl, fun b hb hn => ?_⟩ S4 ⟨⟨_, he⟩, hi, hT'.at fun o e => hk _ o e⟩
  · obtain ⟨⟨old, x1⟩, ⟨o, x2, _⟩, _⟩ := st
    rcases List.mem_cons.mp hb with rfl | hb
    · exact ⟨_, x1⟩
    · rw [List.mem_singleton.mp hb]; exact ⟨o, x2⟩
  · simp only [List.mem_cons, List.not_mem_nil, or_false, not_or] at hb hn
    rcases hb with rfl | rfl | rfl
    · exact absurd rfl hn.1
    · exact absurd rfl hn.2
    · rw [hg]; rfl
end
end Mine
end
section
set_option maxHeartbeats 4000000
namespace Mine
section
variable {w : World} {c : Cx} {g : Heap} {l : List (Str × Value)} {own : Own} {s : Shared} {A : Around} {E : Value → Shared → Prop} {env : Env}
variable {target : Expr} {I : Nat} {fp wr : List Addr} {n : Nat} {P Md : Nat → Value → Heap → Prop} {St : Nat → Heap → Prop}
theorem nodup_idx {α : Type} : ∀ {l : List α}, l.Nodup → ∀ {i j : Nat} {a : α}, l[i]? = some a → l[j]? = some a → i = j
  | [], _, i, j, a, h, _ => by simp at h
  | x :: r, nd, i, j, a, h, h' => by
    rw [List.nodup_cons] at nd
    cases i with
    | zero =>
      cases j with
      | zero => rfl
      | succ j => simp at h h'; subst h; exact absurd (List.mem_of_getElem? h') nd.1
    | succ i =>
      cases j with
      | zero => simp at h h'; subst h'; exact absurd (List.mem_of_getElem? h) nd.1
      | succ j => simp at h h'; rw [nodup_idx nd.2 h h']
theorem nodup_set {α : Type} : ∀ {l : List α}, l.Nodup → ∀ {i : Nat} {a : α}, a ∉ l → (l.set i a).Nodup
  | [], h, _, _, _ => by simp
  | x :: r, nd, i, a, h => by
    rw [List.nodup_cons] at nd
    simp only [List.mem_cons, not_or] at h
    cases i with
    | zero => rw [List.set_cons_zero, List.nodup_cons]; exact ⟨h.2, nd.2⟩
    | succ i =>
      rw [List.set_cons_succ, List.nodup_cons]
      refine ⟨fun hm => ?_, nodup_set nd.2 h.2⟩
      rcases List.mem_or_eq_of_mem_set hm with h1 | h1
      · exact nd.1 h1
      · exact h.1 h1.symm
theorem Sp.swap (S : Sp w c g l own s) {i C : Nat} {l' : List (Str × Value)} (h : own[i]? = some (C, NsP l')) : Sp w ⟨c.s0, c.gp, C⟩ g l' (own.set i (c.L, NsP l)) s := by
  have hm := List.mem_of_getElem? h
  obtain ⟨hl, hgi⟩ := List.getElem?_eq_some_iff.mp h
  obtain ⟨⟨o, q1, m', es, ep, q2, q3, q4, q5⟩, q6, q7, q8⟩ := S.ow _ hm
  dsimp only at q1 q6 q7 q8
  obtain ⟨m, ⟨oL, esL, epL, r1, r2, r3, r4⟩, hm2⟩ := S.ns
  have nd := S.nd
  have keys : (own.set i (c.L, NsP l)).map (·.1) = (own.map (·.1)).set i c.L := by rw [List.map_set]
  have nL : c.L ∉ own.map (·.1) := fun y => by
    obtain ⟨p, hp, e⟩ := List.mem_map.mp y
    exact (S.ow p hp).2.2.2 e
  have getK : ∀ j, (own.map (·.1))[j]? = some C → j = i := fun j hj => by
    have hi : (own.map (·.1))[i]? = some C := by rw [List.getElem?_map, h]; rfl
    exact nodup_idx nd hj hi
  obtain ⟨a1, a2, a3, a4, t0, a5, a6, a7, a8, a9, a10, a11, a12, a13, a14, a15, a16, a17⟩ := S
  refine ⟨a1, a2, a3, a4, t0, a5, a6, q7, a8, a9, a10, a11, a12, a13, ⟨m', ⟨o, es, ep, q1, q2, q3, q4⟩, q5⟩, q6, fun p hp => ?_, ?_⟩
  · obtain ⟨j, hj⟩ := List.getElem?_of_mem hp
    rw [List.getElem?_set] at hj
    by_cases hij : i = j
    · subst hij
      rw [if_pos rfl, if_pos hl] at hj
      cases hj
      exact ⟨⟨oL, r1, m, esL, epL, r2, r3, r4, hm2⟩, a15, a7, Ne.symm q8⟩
    · rw [if_neg hij] at hj
      obtain ⟨b1, b2, b3, b4⟩ := a16 p (List.mem_of_getElem? hj)
      refine ⟨b1, b2, b3, fun e => hij (getK j ?_).symm⟩
      rw [List.getElem?_map, hj]; exact congrArg some e
  · rw [keys]; exact nodup_set nd nL
theorem Sp.dropNs (S : Sp w c g l (own ++ [(I, NsP l')]) s) : (∃ m, s.heap.Ns I m) ∧ ∀ h', Heap.SameBut I s.heap h' → Sp w c g l own { s with heap := h' } := by
  obtain ⟨⟨o, q1, m', es, ep, q2, q3, q4, q5⟩, q6, q7, q8⟩ := S.ow (I, NsP l') (by simp)
  dsimp only at q1 q6 q7 q8
  refine ⟨⟨m', o, es, ep, q1, q2, q3, q4⟩, fun h' hs => ?_⟩
  have S' : Sp w c g l (own ++ itO [(I, o)]) s := by
    obtain ⟨a1, a2, a3, a4, t0, a5, a6, a7, a8, a9, a10, a11, a12, a13, a14, a15, a16, a17⟩ := S
    refine ⟨a1, a2, a3, a4, t0, a5, a6, a7, a8, a9, a10, a11, a12, a13, a14, a15, fun p hp => ?_, by rw [List.map_append] at a17 ⊢; rw [itO_keys]; exact a17⟩
    rcases List.mem_append.mp hp with hp | hp
    · exact a16 p (List.mem_append_left _ hp)
    · unfold itO at hp
      rw [List.map_cons, List.map_nil, List.mem_singleton] at hp
      subst hp
      exact ⟨⟨o, q1, rfl⟩, q6, q7, q8⟩
  obtain ⟨o', x'⟩ : ∃ o', h'.get? I = some o' ∨ h'.get? I = none := by
    cases e : h'.get? I with
    | none => exact ⟨o, .inr rfl⟩
    | some o' => exact ⟨o', .inl rfl⟩
  have lo := S.low
  have one : ∀ (b : Nat), b < c.s0.heap.objs.size → b ≠ I := fun b x y => by subst y; omega
  have gne : ∀ (b : Nat) o, g.get? b = some o → b ≠ I := fun (b : Nat) o x y => by subst y; rw [q6] at x; cases x
  obtain ⟨m, n, hm⟩ := S.ns
  have nd := S.nd
  rw [List.map_append, List.nodup_append] at nd
  refine ⟨S.gens, S.os, S.gl0, tabs_to S.tabs (fun o x => (hs.2 _ (nea (one _ (by omega)))).trans x) (fun o x => (hs.2 _ (nea (one _ (by omega)))).trans x), S.t0, fun b o x n1 n2 => (hs.2 b (nea (one b (ltz x)))).trans (S.old b o x n1 n2), by show _ ≤ h'.objs.size; rw [hs.1]; exact S.osz, S.sz, S.low, fun b o x => (hs.2 b (nea (gne b o x))).trans (S.ge b o x), S.gs, S.gp, S.gt1, S.gt2, ⟨m, n.sameBut hs (nea (Ne.symm q8)), hm⟩, S.gL, fun p hp => ?_, nd.1⟩
  obtain ⟨⟨o2, b1, b2⟩, b3⟩ := S.ow p (List.mem_append_left _ hp)
  exact ⟨⟨o2, (hs.2 _ (nea (fun y => nd.2.2 p.1 (List.mem_map_of_mem hp) I (by simp) y))).trans b1, b2⟩, b3⟩
def turnQ (M : Model) (A : Around) (ifs : List Expr) (elt : Expr) (cenv : Env) (yes : Value → Shared → Prop) (no : Shared → Prop) (E : Value → Shared → Prop) (s : Shared) : Prop := match ifs with
  | [] => wpAny M A (eval elt cenv) yes E s
  | t :: _ => wpAny M A (isTrue t cenv (eval t cenv)) (fun ok s₃ => if ok = true then wpAny M A (eval elt cenv) yes E s₃ else no s₃) E s
theorem compLoop {elt iter : Expr} {ifs : List Expr} {scope : Scope} {pos : Pos} {R : Result → Shared → Prop} {its : List (Nat × Obj)} {vals : Nat → List (Str × Value) → Prop} {o1 : Nat × (Obj → Prop)} {D : Nat}
    (T : KT w A target I fp wr n P Md St) (a : At g fp wr its) (S : Sp w c g l (o1 :: (D, ListP []) :: own ++ itO its) s) (st : St 0 s.heap) (asg : Asg w A target env c P vals) (hif : ifs.length ≤ 1) (hn : n ≤ sizeLine)
    (Inv : Nat → List Value → Heap → Own → Prop) (i0 : Inv 0 [] g own)
    (turn : ∀ k its b ys g' l' own' s' E', k < n → ys.length ≤ k → Ext g g' → Inv k ys g' own' → vals k b → Sp w c g' (b ++ l') (o1 :: (D, ListP ys) :: own' ++ itO its) s' →
      turnQ (MD w) A ifs elt env (fun y s'' => ∃ g'' l'' own'', Ext g' g'' ∧ Inv (k + 1) (ys ++ [y]) g'' own'' ∧ Sp w c g'' l'' (o1 :: (D, ListP ys) :: own'' ++ itO its) s'')
        (fun s'' => ∃ g'' l'' own'', Ext g' g'' ∧ Inv (k + 1) ys g'' own'' ∧ Sp w c g'' l'' (o1 :: (D, ListP ys) :: own'' ++ itO its) s'') E' s')
    (fin : ∀ ys g' l' own' s', Ext g g' → Inv n ys g' own' → Sp w c g' l' (o1 :: (D, ListP ys) :: own') s' → R (.ok .next) s') :
    codeAny (MD w) A (.compLoop (.ListComp elt [⟨target, iter, ifs, 0⟩] scope pos) 0 (.ref I) (.ref D) env) R s := by
  have key : ∀ (J : Nat → Shared → Prop), J = (fun m s => ∃ k ys g' l' own' its', m = n - k ∧ k ≤ n ∧ ys.length ≤ k ∧ Ext g g' ∧ Inv k ys g' own' ∧ At g' fp wr its' ∧ Sp w c g' l' (o1 :: (D, ListP ys) :: own' ++ itO its') s ∧ St k s.heap) →
      ∀ (m : Nat) (s : Shared) (E2 : Value → Shared → Prop), J m s → wpAny (MD w) A (pyNext (.ref I)) (fun r s₁ => match r with
      | none => R (.ok .next) s₁
      | some v => wpAny (MD w) A (letOwnedTupleGo target (.ref I) v) (fun _ s₀ => wpAny (MD w) A (assign target env v) (fun _ s₂ => turnQ (MD w) A ifs elt env (fun x s₄ => wpAny (MD w) A (call (.builtin "list.append") [.ref D, x]) (fun _ s₅ => ∃ m', m' < m ∧ J m' s₅) E2 s₄) (fun s₃ => ∃ m', m' < m ∧ J m' s₃) E2 s₂) E2 s₀) E2 s₁) E2 s := by
    rintro J rfl m s E2 ⟨k, ys, g', l', own', its', rfl, hk, hyk, e, iv, a', S', st⟩
    by_cases hkn : k < n
    · refine T.next (own := o1 :: (D, ListP ys) :: own') a' S' st hkn fun v s2 its2 hP st2 a2 S2 => ?_
      refine asg k v _ _ _ _ _ _ hP S2 fun b s3 hv S3 => ?_
      have st3 := T.keep a2 S2 S3 Ext.rfl' st2
      have tt := turn k its2 b ys g' l' own' s3 E2 hkn hyk e iv hv S3
      have yes : ∀ y s4, (∃ g'' l'' own'', Ext g' g'' ∧ Inv (k + 1) (ys ++ [y]) g'' own'' ∧ Sp w c g'' l'' (o1 :: (D, ListP ys) :: own'' ++ itO its2) s4) → wpAny (MD w) A (call (.builtin "list.append") [.ref D, y]) (fun _ s₅ => ∃ m', m' < n - k ∧ ∃ k ys g' l' own' its', m' = n - k ∧ k ≤ n ∧ ys.length ≤ k ∧ Ext g g' ∧ Inv k ys g' own' ∧ At g' fp wr its' ∧ Sp w c g' l' (o1 :: (D, ListP ys) :: own' ++ itO its') s₅ ∧ St k s₅.heap) E2 s4 := by
        rintro y s4 ⟨g'', l'', own'', e'', iv'', S4⟩
        have st4 := T.keep (own' := o1 :: (D, ListP ys) :: own'') a2 S3 S4 e'' st3
        refine app (i := 1) S4 rfl (by omega) fun s5 S5 => ?_
        have S5 : Sp w c g'' l'' (o1 :: (D, ListP (ys ++ [y])) :: own'' ++ itO its2) s5 := S5
        exact ⟨n - (k + 1), by omega, k + 1, ys ++ [y], g'', l'', own'', its2, rfl, hkn, by simp; omega, e.trans e'', iv'', a2.mono e'', S5, T.keep (own := o1 :: (D, ListP ys) :: own'') (own' := o1 :: (D, ListP (ys ++ [y])) :: own'') (a2.mono e'') S4 S5 Ext.rfl' st4⟩
      have no : ∀ s4, (∃ g'' l'' own'', Ext g' g'' ∧ Inv (k + 1) ys g'' own'' ∧ Sp w c g'' l'' (o1 :: (D, ListP ys) :: own'' ++ itO its2) s4) → ∃ m', m' < n - k ∧ ∃ k ys g' l' own' its', m' = n - k ∧ k ≤ n ∧ ys.length ≤ k ∧ Ext g g' ∧ Inv k ys g' own' ∧ At g' fp wr its' ∧ Sp w c g' l' (o1 :: (D, ListP ys) :: own' ++ itO its') s4 ∧ St k s4.heap := by
        rintro s4 ⟨g'', l'', own'', e'', iv'', S4⟩
        exact ⟨n - (k + 1), by omega, k + 1, ys, g'', l'', own'', its2, rfl, hkn, by omega, e.trans e'', iv'', a2.mono e'', S4, T.keep (own' := o1 :: (D, ListP ys) :: own'') a2 S3 S4 e'' st3⟩
      cases ifs with
      | nil => exact wpAny_mono tt yes fun _ _ h => h
      | cons t r =>
        refine wpAny_mono tt (fun ok s4 h4 => ?_) fun _ _ h => h
        cases ok with
        | true => exact wpAny_mono h4 yes fun _ _ h => h
        | false => exact no s4 h4
    · have : k = n := Nat.le_antisymm hk (Nat.not_lt.mp hkn)
      subst this
      exact T.fin (own := o1 :: (D, ListP ys) :: own') a' S' st fun s2 S2 => fin ys g' l' own' s2 e iv S2
  have j0 : ∃ k ys g' l' own' its', n = n - k ∧ k ≤ n ∧ ys.length ≤ k ∧ Ext g g' ∧ Inv k ys g' own' ∧ At g' fp wr its' ∧ Sp w c g' l' (o1 :: (D, ListP ys) :: own' ++ itO its') s ∧ St k s.heap := ⟨0, [], g, l, own, its, rfl, Nat.zero_le _, Nat.le_refl _, Ext.rfl', i0, a, S, st⟩
  match ifs, hif, key with
  | [], _, key => exact kcp_loop _ (fun m s hJ => key _ rfl m s _ hJ) n j0
  | [t], _, key => exact kct_loop _ (fun m s hJ => key _ rfl m s _ hJ) n j0
theorem compBlk {elt iter : Expr} {ifs : List Expr} {scope : Scope} {cl : List (Str × Addr)} {pos : Pos} {RR : Value → Addr → Result → Shared → Prop} {its : List (Nat × Obj)} {vals : Nat → List (Str × Value) → Prop}
    (T : KT w A target I fp wr n P Md St) (a : At g fp wr its) (S : Sp w c g l (own ++ itO its) s) (st : St 0 s.heap) (hcell : ∀ y ∈ scope.names, y.2 ≠ .cell) (hkind : scope.kind = .function)
    (asg : ∀ C, Asg w A target (compEnvC scope cl C env) ⟨c.s0, c.gp, C⟩ P vals) (hif : ifs.length ≤ 1) (hn : n ≤ sizeLine)
    (Inv : Nat → List Value → Heap → Own → Prop) (i0 : Inv 0 [] g own)
    (turn : ∀ C D k its b ys g' l' own' s' E', k < n → ys.length ≤ k → Ext g g' → Inv k ys g' own' → vals k b → Sp w ⟨c.s0, c.gp, C⟩ g' (b ++ l') ((c.L, NsP l) :: (D, ListP ys) :: own' ++ itO its) s' →
      turnQ (MD w) A ifs elt (compEnvC scope cl C env) (fun y s'' => ∃ g'' l'' own'', Ext g' g'' ∧ Inv (k + 1) (ys ++ [y]) g'' own'' ∧ Sp w ⟨c.s0, c.gp, C⟩ g'' l'' ((c.L, NsP l) :: (D, ListP ys) :: own'' ++ itO its) s'')
        (fun s'' => ∃ g'' l'' own'', Ext g' g'' ∧ Inv (k + 1) ys g'' own'' ∧ Sp w ⟨c.s0, c.gp, C⟩ g'' l'' ((c.L, NsP l) :: (D, ListP ys) :: own'' ++ itO its) s'') E' s')
    (fin : ∀ C lC D ys g' own' s', Ext g g' → Inv n ys g' own' → Sp w c g' l ((D, ListP ys) :: own' ++ [(C, NsP lC)]) s' → RR (.ref D) C (.ok .next) s') :
    wpAny (MD w) A (newList []) (fun acc s₃ => wpAny (MD w) A (newFunctionEnv scope env.globals cl [] env.qual none .none (some env)) (fun cenv s₄ =>
      codeAny (MD w) A (.compStart (.ListComp elt [⟨target, iter, ifs, 0⟩] scope pos) 0 (.ref I) acc { cenv with scope := relabel scope env }) (RR acc cenv.locals) s₄) E s₃) E s := by
  refine newL S (Nat.zero_le _) fun s1 D S1 => ?_
  have st1 := T.keep (own' := (D, ListP []) :: own) a S S1 Ext.rfl' st
  refine wpAny_newFunctionEnv hcell (by intro y hy; simp at hy) (fun h₁ hns hsb => ?_) hkind
  have S2 := S1.push (P := fun _ => True) (s' := { s1 with heap := s1.heap.push { cls := .type (if (some env).isSome then "dict" else "frame"), data := .dict #[] } }) rfl trivial rfl rfl rfl
  obtain ⟨oc, es, ep, x1, x2, x3, x4⟩ := id hns
  have S3 := S2.chg (i := 0) (P' := NsP []) rfl (s' := { s1 with heap := h₁, toks := s1.toks + ([] : List (Str × Value)).length }) hsb.extBut (Nat.le_of_eq hsb.1.symm) x1 ⟨_, es, ep, x2, x3, x4, fun _ _ e => nomatch e⟩ rfl rfl
  generalize s1.heap.objs.size = C at *
  have S4 := S3.swap (i := 0) (C := C) (l' := []) rfl
  have S4 : Sp w ⟨c.s0, c.gp, C⟩ g [] ((c.L, NsP l) :: (D, ListP []) :: own ++ itO its) { s1 with heap := h₁, toks := s1.toks + ([] : List (Str × Value)).length } := S4
  have st4 := T.keep (own := (D, ListP []) :: own) (own' := (c.L, NsP l) :: (D, ListP []) :: own) a S1 S4 Ext.rfl' st1
  have loop : codeAny (MD w) A (.compLoop (.ListComp elt [⟨target, iter, ifs, 0⟩] scope pos) 0 (.ref I) (.ref D) (compEnvC scope cl C env)) (RR (.ref D) C) { s1 with heap := h₁, toks := s1.toks + ([] : List (Str × Value)).length } :=
    compLoop T a S4 st4 (asg C) hif hn Inv i0 (fun k its b ys g' l' own' s' E' h1 h2 h3 h4 h5 h6 => turn C D k its b ys g' l' own' s' E' h1 h2 h3 h4 h5 h6) fun ys g' l' own' s' e iv S5 => by
      have S6 := S5.swap (i := 0) (C := c.L) (l' := l) rfl
      have S6 : Sp w c g' l ([(C, NsP l')] ++ ((D, ListP ys) :: own')) s' := S6
      exact fin C l' D ys g' own' s' e iv S6.toEnd
  exact codeAny_compStart_list loop (T.self _ _ _ st4 loop)
theorem lcomp {elt iter : Expr} {ifs : List Expr} {scope : Scope} {cl : List (Str × Addr)} {pos : Pos} {Q : Value → Shared → Prop} (hclos : closureFor scope env = pure cl) (hkind : scope.kind = .function)
    (hnames : ∀ x ∈ scope.names, x.2 = .local → scope.names.lookup x.1 = some .local)
    (h : wpAny (MD w) A (eval iter env) (fun x s₁ => wpAny (MD w) A (pyIter x) (fun it s₂ => wpAny (MD w) A (newList []) (fun acc s₃ => wpAny (MD w) A (newFunctionEnv scope env.globals cl [] env.qual none .none (some env)) (fun cenv s₄ =>
      codeAny (MD w) A (.compStart (.ListComp elt [⟨target, iter, ifs, 0⟩] scope pos) 0 it acc { cenv with scope := relabel scope env }) (compPost (MD w) A E none Q acc cenv.locals) s₄) E s₃) E s₂) E s₁) E s)
    (hs : ∀ x, foldedSetIterable iter env x = pure x := by intro _; rfl) : wpAny (MD w) A (eval (.ListComp elt [⟨target, iter, ifs, 0⟩] scope pos) env) Q E s := by
  rw [eval_ListComp]
  exact wpAny_comprehension_free (use := none) rfl hs hclos hkind hnames h
theorem lpost {C D : Nat} {lC : List (Str × Value)} {Q : Value → Shared → Prop} (S : Sp w c g l (own ++ [(C, NsP lC)]) s) (h : ∀ s', Sp w c g l own s' → Q (.ref D) s') : compPost (MD w) A E none Q (.ref D) C (.ok .next) s := by
  obtain ⟨⟨m, n⟩, d⟩ := S.dropNs
  exact ⟨m, n, fun h' hs => h _ (d h' hs)⟩
theorem lcompA {elt iter : Expr} {ifs : List Expr} {scope : Scope} {cl : List (Str × Addr)} {x : Str} {px pos spos : Pos} {Q : Flow → Shared → Prop} (hsw : swapsWith (.ListComp elt [⟨target, iter, ifs, 0⟩] scope pos) (some (.Name x px)) spos.line env = pure true) (hclos : closureFor scope env = pure cl) (hkind : scope.kind = .function)
    (hnames : ∀ x ∈ scope.names, x.2 = .local → scope.names.lookup x.1 = some .local)
    (h : wpAny (MD w) A (eval iter env) (fun y s₁ => wpAny (MD w) A (pyIter y) (fun it s₂ => wpAny (MD w) A (newList []) (fun acc s₃ => wpAny (MD w) A (newFunctionEnv scope env.globals cl [] env.qual none .none (some env)) (fun cenv s₄ =>
      codeAny (MD w) A (.compStart (.ListComp elt [⟨target, iter, ifs, 0⟩] scope pos) 0 it acc { cenv with scope := relabel scope env }) (compPost (MD w) A E (some (assign (.Name x px) env)) (fun _ s' => Q .next s') acc cenv.locals) s₄) E s₃) E s₂) E s₁) E s)
    (hs : ∀ x, foldedSetIterable iter env x = pure x := by intro _; rfl) : wpAny (MD w) A (exec (.Assign [.Name x px] (.ListComp elt [⟨target, iter, ifs, 0⟩] scope pos) spos) env) Q E s := by
  rw [exec_Assign_Name_used _ _ _ _ hsw]
  refine wpAny_bind (wpAny_standAt (wpAny_bind ?_))
  show wpAny _ _ (evalThenUse _ _ _) _ _ _
  rw [arm_evalThenUse_ListComp]
  refine wpAny_bind (wpAny_mono (wpAny_comprehension_free (use := some (assign (.Name x px) env)) (Q := fun _ s' => Q .next s') rfl hs hclos hkind hnames h) (fun _ s' hq => ?_) fun _ _ e => e)
  exact wpAny_pure (wpAny_pure hq)
theorem apost {C D : Nat} {lC : List (Str × Value)} {x : Str} {px : Pos} {Q : Value → Shared → Prop} (S : Sp w c g l ((D, ListP ys) :: own ++ [(C, NsP lC)]) s) (hL : env.locals = c.L) (hl : env.kindOf x = some .local) (hp : (env.scope.kind == .class || (env.scope.kind == .module && env.locals != env.globals)) = false)
    (h : ∀ s', Sp w c g ((x, .ref D) :: l) ((D, ListP ys) :: own) s' → Q .none s') : compPost (MD w) A E (some (assign (.Name x px) env)) Q (.ref D) C (.ok .next) s := by
  refine wpAny_assign_Name (sn S (fun s1 S1 => ?_) hL hl hp)
  obtain ⟨⟨m, n⟩, d⟩ := S1.dropNs
  exact ⟨m, n, fun h' hs => h _ (d h' hs)⟩
end
end Mine
end
section
set_option maxHeartbeats 4000000
namespace Mine
def CellP (v : Option Value) (o : Obj) : Prop := o.data = .cell v
theorem lookup_rev_append {α : Type} (a b : List (Str × α)) (x : Str) : (a ++ b).lookup x = match a.lookup x with | some v => some v | none => b.lookup x := by
  induction a with
  | nil => rfl
  | cons p r ih =>
    obtain ⟨y, u⟩ := p
    rw [List.cons_append, List.lookup_cons, List.lookup_cons, ih]
    by_cases h : (x == y) = true
    · rw [h]
    · rw [Bool.not_eq_true] at h; rw [h]
theorem bindL_eq (kindOf : Str → Option NameKind) : ∀ (binds : List (Str × Value)) (m : Str → Option Value) (x : Str) (v : Value), (binds.filter fun y => decide (kindOf y.1 = some .local)).reverse.lookup x = some v → bindL kindOf binds m x = some v
  | [], m, x, v, h => nomatch h
  | (n, u) :: r, m, x, v, h => by
    have low : ∀ (r : List (Str × Value)) (m m' : Str → Option Value) (x : Str), (∀ v, m x = some v → m' x = some v) → ∀ v, bindL kindOf r m x = some v → bindL kindOf r m' x = some v := by
      intro r
      induction r with
      | nil => intro m m' x h v hv; exact h v hv
      | cons p r ih =>
        intro m m' x h v hv
        obtain ⟨y, u⟩ := p
        unfold bindL at hv ⊢
        refine ih _ _ x (fun v hv => ?_) v hv
        split at hv
        · rename_i hk
          rw [if_pos hk]
          by_cases hx : x = y
          · simp only [hx, if_true] at hv ⊢; exact hv
          · simp only [hx, if_false] at hv ⊢; exact h v hv
        · rename_i hk
          rw [if_neg hk]; exact h v hv
    unfold bindL
    rw [List.filter_cons] at h
    by_cases hk : kindOf n = some .local
    · simp only [hk, decide_true, if_true, List.reverse_cons] at h
      rw [lookup_rev_append] at h
      rw [if_pos hk]
      split at h
      · rename_i v' hv
        cases h
        exact low r _ _ x (fun v h => h) _ (bindL_eq kindOf r _ x v hv)
      · rename_i hv
        rw [List.lookup_cons] at h
        by_cases hx : x = n
        · subst hx
          simp only [BEq.rfl] at h
          cases h
          have keep : ∀ (r : List (Str × Value)) (m : Str → Option Value), (r.filter fun y => decide (kindOf y.1 = some .local)).reverse.lookup x = none → bindL kindOf r m x = m x := by
            intro r
            induction r with
            | nil => intro m _; rfl
            | cons p r ih =>
              intro m hn
              obtain ⟨y, u⟩ := p
              unfold bindL
              rw [List.filter_cons] at hn
              by_cases hy : kindOf y = some .local
              · simp only [hy, decide_true, if_true, List.reverse_cons] at hn
                rw [lookup_rev_append] at hn
                split at hn
                · cases hn
                · rename_i hn2
                  rw [ih _ hn2, if_pos hy]
                  rw [List.lookup_cons] at hn
                  by_cases hxy : x = y
                  · subst hxy; simp at hn
                  · simp only [hxy, if_false]
              · simp only [hy, decide_false, Bool.false_eq_true, if_false] at hn
                rw [ih _ hn, if_neg hy]
          rw [keep r _ hv]
          simp
        · have : (x == n) = false := by simpa using hx
          rw [this] at h
          cases h
    · simp only [hk, decide_false, Bool.false_eq_true, if_false] at h
      rw [if_neg hk]
      exact bindL_eq kindOf r _ x v h
section
variable {w : World} {c : Cx} {g : Heap} {l : List (Str × Value)} {own : Own} {s : Shared} {A : Around} {E : Value → Shared → Prop} {env : Env} {gp : Heap}
abbrev cenvOf (name qual : Str) (params : Arguments) (body : List Stmt) (scope : Scope) (dV kV doc pm : Value) (an : Option Addr) (cdv ct : Value) (L f : Nat) : Env := callEnvC (fnOf name qual params body scope dV kV doc pm an cdv ct) L f
theorem enterC {f : Addr} {name qual : Str} {params : Arguments} {body : List Stmt} {scope : Scope} {dV kV doc pm cdv ct oc : Value} {an od : Option Addr} {osl : Array (Option Value)} {pos : List Value} {kw : List (Str × Value)} {binds : List (Str × Value)} {Q : Value → Shared → Prop}
    (I : In w gp s) (hroom : A.depth < recursionLimit)
    (ho : (hd.heap_39 w.params).lookup f = some ⟨oc, od, .func (fnOf name qual params body scope dV kV doc pm an cdv ct), osl⟩) (hcd : codeIn (hd.heap_39 w.params) cdv qual = true)
    (hbind : BindsTo s (fnOf name qual params body scope dV kV doc pm an cdv ct) ⟨pos, kw⟩ binds)
    (hkind : ∀ L : Nat, ∀ x ∈ binds, scope.names.lookup x.1 = some .local ∨ (scope.names.lookup x.1 = some .cell ∧ ((cellsFrom (L + 1) scope.names []).lookup x.1).isSome = true))
    (hdist : ∀ L : Nat, ((cellsFrom (L + 1) scope.names []).map (·.1)).Nodup)
    {lr : List (Str × Value)} (hlr : (binds.filter fun y => decide (scope.names.lookup y.1 = some .local)).reverse = lr) {co : Nat → Own} (hcl : ∀ L : Nat, ((cellsFrom (L + 1) scope.names []).map fun p => (p.2, CellP (bindC (fun n => scope.names.lookup n) binds (fun _ => none) p.1))) = co L)
    (h : ∀ (L : Nat) s1, Sp w ⟨s, gp, L⟩ gp lr (co L) s1 →
      wpAny (MD w) (A.deeper (cenvOf name qual params body scope dV kV doc pm an cdv ct L f)) (execs body (cenvOf name qual params body scope dV kV doc pm an cdv ct L f)) (retQ Q) (fun _ _ => False) s1)
    (hco : scope.isCoroutine = false) (hgen : scope.isGenerator = false) (hk : scope.kind = .function) : wpAny (MD w) A (call (.ref f) pos kw) Q E s := by
  have hlim : s.heap.NoLimit := ⟨_, .of_isNs (isNs_of_in (N := cStatics) I.gl.kin (by kernel_rfl)), nsMap_none_of_in I.gl.kin (by kernel_rfl) (by kernel_rfl)⟩
  refine wpAny_call (codeAny_call_function hroom (I.gl.kin _ _ ho) rfl hco hgen rfl (codeRec_of I.gl.kin hcd) (hbind _ _ _ _ ?_))
  show wpAny _ _ (newFunctionEnv scope mainGlobals [] binds _ _ _ none _) _ _ _
  refine wpAny_newFunctionEnv_cells hk (hkind _) fun env he s' x => ?_
  subst he
  refine ⟨hlim.keeps x.toInCall.keep, codeAny_func ?_⟩
  have hs := x.toInCall.same
  have S : Sp w ⟨s, gp, s.heap.objs.size⟩ gp (binds.filter fun y => decide (scope.names.lookup y.1 = some .local)).reverse ((cellsFrom (s.heap.objs.size + 1) scope.names []).map fun p => (p.2, CellP (bindC (fun n => scope.names.lookup n) binds (fun _ => none) p.1))) s' := by
    obtain ⟨h', tk, rfl⟩ := hs
    refine start (I := I) x.toInCall.ns x.toInCall.keep x.toInCall.fresh rfl rfl (fun y v hy => bindL_eq _ binds _ y v hy) _ (fun p hp => ?_) ?_
    · obtain ⟨q, hq, rfl⟩ := List.mem_map.mp hp
      have hl : (cellsFrom (s.heap.objs.size + 1) scope.names []).lookup q.1 = some q.2 := by
        have nd := hdist s.heap.objs.size
        clear x h hkind hdist
        revert hq nd
        generalize cellsFrom (s.heap.objs.size + 1) scope.names [] = cs
        intro hq nd
        induction cs with
        | nil => cases hq
        | cons a r ih =>
          rw [List.map_cons, List.nodup_cons] at nd
          rw [List.lookup_cons]
          rcases List.mem_cons.mp hq with rfl | hq
          · simp
          · have : (q.1 == a.1) = false := by
              have : q.1 ≠ a.1 := fun e => nd.1 (e ▸ List.mem_map_of_mem (f := (·.1)) hq)
              simpa using this
            rw [this]; exact ih hq nd.2
      obtain ⟨o, ho1, ho2⟩ := x.cell _ _ hl
      have hab : s.heap.objs.size < q.2 := x.above q.1 q.2 hq
      exact ⟨⟨o, ho1, ho2⟩, Nat.le_of_lt hab, Nat.ne_of_gt hab⟩
    · rw [List.map_map]
      have := x.apart
      exact List.pairwise_map.mpr this
  rw [hlr, hcl] at S
  exact wpAny_mono (h _ s' S) (fun fl s'' q => by cases fl <;> exact q) fun _ _ z => z.elim
theorem nmC {x : Str} {pos : Pos} {a i : Nat} {v : Value} {Q : Value → Shared → Prop} (S : Sp w c g l own s) (hi : own[i]? = some (a, CellP (some v))) (hc : env.cells.lookup x = some a) (h : Q v s)
    (hk : env.scope.kind = .function := by rfl) (hl : env.kindOf x = some .cell := by kernel_rfl) (hd : (x == ("__debug__" : Str)) = false := by kernel_rfl) : wpAny (MD w) A (eval (.Name x pos) env) Q E s := by
  obtain ⟨o, ho, hP⟩ := S.at i hi
  exact wpAny_Name (wpAny_loadName_cell hk hl hc ⟨o, ho, hP⟩ h) hd
theorem snC {x : Str} {a i : Nat} {v0 : Option Value} {v : Value} {Q : Unit → Shared → Prop} (S : Sp w c g l own s) (hi : own[i]? = some (a, CellP v0)) (hc : env.cells.lookup x = some a) (h : ∀ s', Sp w c g l (own.set i (a, CellP (some v))) s' → Q () s')
    (hk : env.scope.kind = .function := by rfl) (hl : env.kindOf x = some .cell := by kernel_rfl) : wpAny (MD w) A (storeName env x v) Q E s := by
  obtain ⟨o, ho, hP⟩ := S.at i hi
  refine wpAny_storeName_cell hk hl hc ⟨o, ho, hP⟩ fun h' hc' hs => ?_
  obtain ⟨o', ho', hP'⟩ := hc'
  exact h _ (S.chg hi hs.extBut (Nat.le_of_eq hs.1.symm) ho' hP' rfl rfl)
end
end Mine
end
section
set_option maxHeartbeats 4000000
namespace Mine
section
variable {w : World} {c : Cx} {g : Heap} {l : List (Str × Value)} {own : Own} {s : Shared} {A : Around} {E : Value → Shared → Prop} {env : Env} {gp : Heap}
def Con (w : World) (A : Around) (f : Value) (pos : List Value) (kw : List (Str × Value)) (gp : Heap) (s : Shared) (Post : Heap → Value → Prop) : Prop :=
  ∀ (Q : Value → Shared → Prop) (E : Value → Shared → Prop), (∀ v s', Back w gp s s' → (∀ gq, New s s' gp gq → Post gq v) → Q v s') → wpAny (MD w) A (call f pos kw) Q E s
theorem use {f : Value} {pos : List Value} {kw : List (Str × Value)} {Post : Heap → Value → Prop} {Q : Value → Shared → Prop} (S : Sp w c g l own s) (C : Con w A f pos kw g s Post)
    (h : ∀ v s' g', Ext g g' → Post g' v → Sp w c g' l own s' → Q v s') : wpAny (MD w) A (call f pos kw) Q E s := by
  refine C Q E fun v s' B hp => ?_
  obtain ⟨g', e, S', N⟩ := S.after B
  exact h v s' g' e (hp g' N) S'
theorem Sp.fin {Post : Heap → Value → Prop} {Q : Value → Shared → Prop} {v : Value} (S : Sp w c g l own s) (h : ∀ v s', Back w c.gp c.s0 s' → (∀ gq, New c.s0 s' c.gp gq → Post gq v) → Q v s') (p : ∀ gq, Ext g gq → Post gq v) : Q v s :=
  h v s S.back fun gq N => p gq (S.post N)
theorem Sp.up (S : Sp w c g l own s) : Ext c.gp s.heap := S.gp.trans S.ge
theorem cwB {pos : Pos} {id : String} {args : List (Bool × Sem Value)} {first : List Value} {e : Expr} {rest : List Expr} {Q : Value → Shared → Prop} (he : args = backTo pos (starEach (e :: rest) env)) (hs : starEach (e :: rest) env = (false, eval e env) :: starEach rest env) (hp : (backTo pos (starEach rest env)).any (·.1) = false)
  (h : wpAny (MD w) A (spliced (backTo pos (starEach (e :: rest) env))) (fun vs s' => wpAny (MD w) A (call (.builtin id) (first ++ vs)) Q E s') E s) : wpAny (MD w) A (callWith pos (.builtin id) first args []) Q E s := by
  subst he
  rw [hs] at h ⊢
  exact callWith_builtin (by show (false || (backTo pos (starEach rest env)).any (·.1)) = false; rw [hp]; rfl) (evalArgs_plain h)
theorem tb {b : Bool} {Q : Bool → Shared → Prop} (h : Q b s) : wpAny (MD w) A (truthy (.bool b)) Q E s := wpAny_truthy_bool h
theorem ifNT {p q : Prop} (h : q) : (if (!true) = true then p else q) := h
theorem ifNF {p q : Prop} (h : p) : (if (!false) = true then p else q) := h
theorem Sp.kin (S : Sp w c g l own s) : (K w).In s.heap := S.gl.kin
theorem cwK {pos : Pos} {f : Value} {first : List Value} {e : Expr} {rest : List Expr} {Q : Value → Shared → Prop} (S : Sp w c g l own s) (hk : keepIn (hd.heap_39 w.params) f = true)
    (h : wpAny (MD w) A (spliced (backTo pos (starEach (e :: rest) env))) (fun vs s₁ => (K w).In s₁.heap ∧ wpAny (MD w) A (call f (first ++ vs)) Q E s₁) E s)
    (he : starEach (e :: rest) env = (false, eval e env) :: starEach rest env := by rfl) (hplain : (backTo pos (starEach rest env)).any (·.1) = false := by rfl) : wpAny (MD w) A (callWith pos f first (backTo pos (starEach (e :: rest) env)) []) Q E s :=
  callWith_K (K := K w) S.kin hk h he hplain
theorem cwK0 {pos : Pos} {f : Value} {first : List Value} {Q : Value → Shared → Prop} (S : Sp w c g l own s) (hk : keepIn (hd.heap_39 w.params) f = true)
    (h : wpAny (MD w) A (call f (first ++ [])) Q E s) : wpAny (MD w) A (callWith pos f first (backTo pos (starEach [] env)) []) Q E s := callWith_K0 (K := K w) S.kin hk h
theorem cwKW {pos : Pos} {f : Value} {first : List Value} {Q : Value → Shared → Prop} {e : Expr} {rest : List Expr} {kws : List Keyword} (S : Sp w c g l own s) (hk : keepIn (hd.heap_39 w.params) f = true)
    (h : wpAny (MD w) A (spliced (backTo pos (starEach (e :: rest) env))) (fun vs s₁ => wpAny (MD w) A (evalAll ((backToKw pos (keywordEach kws env)).map (·.2))) (fun ks s₂ => (K w).In s₂.heap ∧ wpAny (MD w) A (call f (first ++ vs) (((backToKw pos (keywordEach kws env)).filterMap (·.1)).zip ks)) Q E s₂) E s₁) E s)
    (hall : (backToKw pos (keywordEach kws env)).all (·.1.isSome) = true := by rfl) (hplain : ((backTo pos (starEach (e :: rest) env)).any (·.1) || (backToKw pos (keywordEach kws env)).any (·.1.isNone)) = false := by rfl) (he : starEach (e :: rest) env = (false, eval e env) :: starEach rest env := by rfl) :
    wpAny (MD w) A (callWith pos f first (backTo pos (starEach (e :: rest) env)) (backToKw pos (keywordEach kws env))) Q E s := callWith_KW (K := K w) S.kin hk hall h hplain he
theorem cwKW0 {pos : Pos} {f : Value} {first : List Value} {Q : Value → Shared → Prop} {kws : List Keyword} (S : Sp w c g l own s) (hk : keepIn (hd.heap_39 w.params) f = true)
    (h : wpAny (MD w) A (evalAll ((backToKw pos (keywordEach kws env)).map (·.2))) (fun ks s₂ => (K w).In s₂.heap ∧ wpAny (MD w) A (call f (first ++ []) (((backToKw pos (keywordEach kws env)).filterMap (·.1)).zip ks)) Q E s₂) E s)
    (hall : (backToKw pos (keywordEach kws env)).all (·.1.isSome) = true := by rfl) (hplain : ((backTo pos (starEach [] env)).any (·.1) || (backToKw pos (keywordEach kws env)).any (·.1.isNone)) = false := by rfl) :
    wpAny (MD w) A (callWith pos f first (backTo pos (starEach [] env)) (backToKw pos (keywordEach kws env))) Q E s := callWith_KW0 (K := K w) S.kin hk hall h hplain
theorem isiX {x C : Nat} {kvs : List (Str × Value)} {cl : Value} {b : Bool} {Q : Value → Shared → Prop} (S : Sp w c g l own s) (I : IsInst w s.heap x C kvs)
    (h1 : plainGet (hd.heap_39 w.params) C "__class__" = true) (h2 : hasDictIn (hd.heap_39 w.params) C = true) (h3 : findIn (hd.heap_39 w.params) (.ref C) "__class__" = some (some (.builtin "object.__class__")))
    (h4 : specialIn (hd.heap_39 w.params) (.builtin "object.__class__") "__get__" = some (some (.builtin "getset_descriptor.__get__"))) (h5 : takesIn (hd.heap_39 w.params) (.builtin "object.__class__") = some true) (h6 : mroIn (hd.heap_39 w.params) C (.type "object") = some true)
    (e : kitOne (hd.heap_39 w.params) (.ref C) cl = some b) (h : ∀ s', Sp w c g l own s' → Q (.bool b) s') : wpAny (MD w) A (call (.builtin "isinstance") [.ref x, cl]) Q E s := by
  obtain ⟨dx, od, hx, hdx, es, n, rfl, T, _⟩ := I
  exact isi S (kitx_own (ox := instObj C dx) (od := dictOf es n) (D := C) h1 h2 h3 h4 h5 h6) (show W.InstAt _ _ _ _ _ from ⟨hx, rfl, rfl, hdx⟩) e (by intro e; cases e) h
end
end Mine
end
section
set_option maxHeartbeats 4000000
namespace Mine
section
variable {w : World} {c : Cx} {g : Heap} {l : List (Str × Value)} {own : Own} {s : Shared} {A : Around} {E : Value → Shared → Prop} {env : Env} {gp : Heap}
theorem tn {Q : Bool → Shared → Prop} (h : Q false s) : wpAny (MD w) A (PySem.truthy .none) Q E s := by unfold PySem.truthy; exact wpAny_pure h
theorem tL {a : Nat} {vs : List Value} {Q : Bool → Shared → Prop} (S : Sp w c g l own s) (hl : IsL s.heap a vs) (hz : vs.length ≤ 1000) (h : ∀ s', Sp w c g l own s' → Q (!vs.isEmpty) s') : wpAny (MD w) A (PySem.truthy (.ref a)) Q E s :=
  wpAny_truthy_list hl.list (by rw [List.size_toArray]; omega) (by have := h _ (S.tk (s' := { s with toks := s.toks + 1 + 1 }) rfl rfl rfl); rwa [List.isEmpty_toArray])
theorem tS {x : Str} {t : Tok} {Q : Bool → Shared → Prop} (S : Sp w c g l own s) (hz : x.length ≤ 1000) (h : ∀ s', Sp w c g l own s' → Q ((x.length : Int) != 0) s') : wpAny (MD w) A (PySem.truthy (.str x t)) Q E s :=
  PySem.P.truthy_str (by omega) (h _ (S.tk (s' := { s with toks := s.toks + 1 + 1 }) rfl rfl rfl))
theorem stD {d : Nat} {kvs : List (Str × Value)} {k : Str} {t : Tok} {v : Value} {value slice : Expr} {Q : Value → Shared → Prop} (S : Sp w c g l own s) (D : IsD0 w s.heap d kvs) (hv : kvs.lookup k = some v) (h : ∀ s', Sp w c g l own s' → Q v s')
    (hs : subscripted slice false (.ref d) (.str k t) = operate [.ref d, .str k t] (getItem (.ref d) (.str k t)) := by with_unfolding_all rfl) : wpAny (MD w) A (subscriptTail value slice (.ref d) (.str k t)) Q E s := by
  have hT : s.TypeIs (.ref d) "dict" := by obtain ⟨o, x, es, n, rfl, _⟩ := D; exact ⟨_, x, rfl⟩
  exact tail_any hT PySem.F.slot_dict_getitem.lookup (dGet S D hv h) hs
theorem stL {a : Nat} {vs : List Value} {k : Int} {t : Tok} {v : Value} {value slice : Expr} {Q : Value → Shared → Prop} (D : IsL s.heap a vs) (h0 : 0 ≤ k) (h1 : k < 2 ^ 63) (hv : vs[k.toNat]? = some v) (h : Q v s)
    (hs : subscripted slice false (.ref a) (.int k t) = operate [.ref a, .int k t] (getItem (.ref a) (.int k t)) := by with_unfolding_all rfl) : wpAny (MD w) A (subscriptTail value slice (.ref a) (.int k t)) Q E s :=
  tail_any D.list.typeIs slot_list_getitem.lookup (wpAny_getItem_list D.list h0 h1 (by simpa using hv) h) hs
theorem stT {a : Nat} {vs : List Value} {k : Int} {t : Tok} {v : Value} {value slice : Expr} {Q : Value → Shared → Prop} (D : IsT s.heap a vs) (h0 : 0 ≤ k) (h1 : k < 2 ^ 63) (hv : vs[k.toNat]? = some v) (h : Q v s)
    (hs : subscripted slice false (.ref a) (.int k t) = operate [.ref a, .int k t] (getItem (.ref a) (.int k t)) := by with_unfolding_all rfl) : wpAny (MD w) A (subscriptTail value slice (.ref a) (.int k t)) Q E s := by
  have hlt : k.toNat < vs.length := by
    cases e : vs[k.toNat]? with
    | none => rw [e] at hv; cases hv
    | some x => exact (List.getElem?_eq_some_iff.mp e).1
  have hj : seqIndex? k vs.length = some k.toNat := by
    unfold seqIndex?
    rw [if_neg (by omega : ¬ k < 0)]
    have a1 : (decide (0 ≤ k) && decide (k < (vs.length : Int))) = true := by simp; omega
    dsimp only
    rw [a1]; rfl
  exact item_tupleT (j := k.toNat) D.tup' (by omega) h1 hj hv h hs
end
end Mine
end
section
set_option maxHeartbeats 4000000
namespace Mine
def loopQ (Nx : Shared → Prop) (Q : Flow → Shared → Prop) (f : Flow) (s : Shared) : Prop := match f with
  | .next | .cont => Nx s
  | .brk => Q .next s
  | .ret v => Q (.ret v) s
theorem loop_next {Nx : Shared → Prop} {Q : Flow → Shared → Prop} {s : Shared} (h : Nx s) : loopQ Nx Q .next s := h
theorem loop_cont {Nx : Shared → Prop} {Q : Flow → Shared → Prop} {s : Shared} (h : Nx s) : loopQ Nx Q .cont s := h
theorem loop_ret {Nx : Shared → Prop} {Q : Flow → Shared → Prop} {s : Shared} {v : Value} (h : Q (.ret v) s) : loopQ Nx Q (.ret v) s := h
theorem sq_cont {M : Model} {A : Around} {env : Env} {rest : List Stmt} {Q : Flow → Shared → Prop} {E : Value → Shared → Prop} {s : Shared} (h : Q .cont s) : seqQ M A rest env Q E .cont s := h
section
variable {w : World} {c : Cx} {g : Heap} {l : List (Str × Value)} {own : Own} {s : Shared} {A : Around} {E : Value → Shared → Prop} {env : Env} {gp : Heap}
theorem lk_here {x : Str} {v : Value} {l : List (Str × Value)} : List.lookup x ((x, v) :: l) = some v := by simp
theorem lk_there {x y : Str} {v u : Value} {l : List (Str × Value)} (h : (x == y) = false) (hl : l.lookup x = some v) : List.lookup x ((y, u) :: l) = some v := by rw [List.lookup_cons, h]; exact hl
abbrev forE (w : World) (A : Around) (env : Env) (E : Value → Shared → Prop) : Value → Shared → Prop := notedBy (MD w) A env fun e s' => cameBackBy (MD w) A env E e s'
abbrev Nx1 (w : World) (c : Cx) (g : Heap) (its : List (Nat × Obj)) (Inv : Nat → Heap → List (Str × Value) → Own → Prop) (k : Nat) (s : Shared) : Prop := ∃ g'' l'' own'', Ext g g'' ∧ Inv (k + 1) g'' l'' own'' ∧ Sp w c g'' l'' (own'' ++ itO its) s
theorem for_any {target : Expr} {I : Nat} {fp wr : List Addr} {n : Nat} {P Md : Nat → Value → Heap → Prop} {St : Nat → Heap → Prop} {body orelse : List Stmt} {Q : Flow → Shared → Prop} {its : List (Nat × Obj)} {vals : Nat → List (Str × Value) → Prop}
    (T : KT w A target I fp wr n P Md St) (a : At g fp wr its) (S : Sp w c g l (own ++ itO its) s) (h0 : St 0 s.heap) (asg : Asg w A target env c P vals)
    (Inv : Nat → Heap → List (Str × Value) → Own → Prop) (i0 : Inv 0 g l own)
    (turn : ∀ k its g' l' own' b s', k < n → Ext g g' → Inv k g' l' own' → vals k b → Sp w c g' (b ++ l') (own' ++ itO its) s' →
      wpAny (MD w) A (execs body env) (loopQ (Nx1 w c g' its Inv k) Q) (forE w A env E) s')
    (fin : ∀ g' l' own' s', Ext g g' → Inv n g' l' own' → Sp w c g' l' own' s' → wpAny (MD w) A (execs orelse env) Q (forE w A env E) s') :
    codeAny (MD w) A (.forLoop target (.ref I) body orelse env) (fun r s' => match r with | .ok f => Q f s' | .error e => cameBackBy (MD w) A env E e s') s := by
  refine forK T a S h0 asg Inv i0 (fun k its g' l' own' b s' hk e iv hb S' => ?_) fin
  refine wpAny_mono (turn k its g' l' own' b s' hk e iv hb S') (fun f s'' q => ?_) fun _ _ e => e
  cases f <;> exact q
variable {x y : Str} {px py tp : Pos} {kk : Nat} {body orelse : List Stmt} {Q : Flow → Shared → Prop}
theorem for_L {a : Nat} {vs : List Value} (hh : A.handled = none) (S : Sp w c g l own s) (hT : IsL g a vs) (Inv : Nat → Heap → List (Str × Value) → Own → Prop) (i0 : Inv 0 g l own)
    (turn : ∀ k v its g' l' own' s', vs[k]? = some v → Ext g g' → Inv k g' l' own' → Sp w c g' ((x, v) :: l') (own' ++ itO its) s' → wpAny (MD w) A (execs body env) (loopQ (Nx1 w c g' its Inv k) Q) (forE w A env E) s')
    (fin : ∀ g' l' own' s', Ext g g' → Inv vs.length g' l' own' → Sp w c g' l' own' s' → wpAny (MD w) A (execs orelse env) Q (forE w A env E) s')
    (hL : env.locals = c.L := by rfl) (hl : env.kindOf x = some .local := by kernel_rfl) (hp : (env.scope.kind == .class || (env.scope.kind == .module && env.locals != env.globals)) = false := by rfl) :
    wpAny (MD w) A (pyIter (.ref a)) (fun it s₂ => codeAny (MD w) A (.forLoop (.Name x px) it body orelse env) (fun r s' => match r with | .ok f => Q f s' | .error e => cameBackBy (MD w) A env E e s') s₂) E s :=
  it_L hh S hT fun I fp wr Md St its s1 T a S1 st => for_any T a S1 st (asg1 hL hl hp) Inv i0 (fun k its g' l' own' b s' hk e iv hb S' => by obtain ⟨v, rfl, hv⟩ := hb; exact turn k v its g' l' own' s' hv e iv S') fin
theorem for_T {a : Nat} {vs : List Value} (hh : A.handled = none) (S : Sp w c g l own s) (hT : IsT g a vs) (Inv : Nat → Heap → List (Str × Value) → Own → Prop) (i0 : Inv 0 g l own)
    (turn : ∀ k v its g' l' own' s', vs[k]? = some v → Ext g g' → Inv k g' l' own' → Sp w c g' ((x, v) :: l') (own' ++ itO its) s' → wpAny (MD w) A (execs body env) (loopQ (Nx1 w c g' its Inv k) Q) (forE w A env E) s')
    (fin : ∀ g' l' own' s', Ext g g' → Inv vs.length g' l' own' → Sp w c g' l' own' s' → wpAny (MD w) A (execs orelse env) Q (forE w A env E) s')
    (hL : env.locals = c.L := by rfl) (hl : env.kindOf x = some .local := by kernel_rfl) (hp : (env.scope.kind == .class || (env.scope.kind == .module && env.locals != env.globals)) = false := by rfl) :
    wpAny (MD w) A (pyIter (.ref a)) (fun it s₂ => codeAny (MD w) A (.forLoop (.Name x px) it body orelse env) (fun r s' => match r with | .ok f => Q f s' | .error e => cameBackBy (MD w) A env E e s') s₂) E s :=
  it_T hh S hT fun I fp wr Md St its s1 T a S1 st => for_any T a S1 st (asg1 hL hl hp) Inv i0 (fun k its g' l' own' b s' hk e iv hb S' => by obtain ⟨v, rfl, hv⟩ := hb; exact turn k v its g' l' own' s' hv e iv S') fin
theorem for_D {a : Nat} {kvs : List (Str × Value)} (hh : A.handled = none) (S : Sp w c g l own s) (hT : IsD w g a kvs) (Inv : Nat → Heap → List (Str × Value) → Own → Prop) (i0 : Inv 0 g l own)
    (turn : ∀ k z u t its g' l' own' s', kvs[k]? = some (z, u) → Ext g g' → Inv k g' l' own' → Sp w c g' ((x, .str z t) :: l') (own' ++ itO its) s' → wpAny (MD w) A (execs body env) (loopQ (Nx1 w c g' its Inv k) Q) (forE w A env E) s')
    (fin : ∀ g' l' own' s', Ext g g' → Inv kvs.length g' l' own' → Sp w c g' l' own' s' → wpAny (MD w) A (execs orelse env) Q (forE w A env E) s')
    (hL : env.locals = c.L := by rfl) (hl : env.kindOf x = some .local := by kernel_rfl) (hp : (env.scope.kind == .class || (env.scope.kind == .module && env.locals != env.globals)) = false := by rfl) :
    wpAny (MD w) A (pyIter (.ref a)) (fun it s₂ => codeAny (MD w) A (.forLoop (.Name x px) it body orelse env) (fun r s' => match r with | .ok f => Q f s' | .error e => cameBackBy (MD w) A env E e s') s₂) E s :=
  it_D hh S hT fun I fp wr Md St its s1 T a S1 st => for_any T a S1 st (asg1 hL hl hp) Inv i0 (fun k its g' l' own' b s' hk e iv hb S' => by obtain ⟨v, rfl, z, u, t, hz, rfl⟩ := hb; exact turn k z u t its g' l' own' s' hz e iv S') fin
theorem for_V {a d : Nat} {kvs : List (Str × Value)} (hh : A.handled = none) (S : Sp w c g l own s) (hV : IsView g a d) (hT : IsD w g d kvs) (Inv : Nat → Heap → List (Str × Value) → Own → Prop) (i0 : Inv 0 g l own)
    (turn : ∀ k z u t its g' l' own' s', kvs[k]? = some (z, u) → Ext g g' → Inv k g' l' own' → Sp w c g' ((y, u) :: (x, .str z t) :: l') (own' ++ itO its) s' → wpAny (MD w) A (execs body env) (loopQ (Nx1 w c g' its Inv k) Q) (forE w A env E) s')
    (fin : ∀ g' l' own' s', Ext g g' → Inv kvs.length g' l' own' → Sp w c g' l' own' s' → wpAny (MD w) A (execs orelse env) Q (forE w A env E) s')
    (hL : env.locals = c.L := by rfl) (hx : env.kindOf x = some .local := by kernel_rfl) (hy : env.kindOf y = some .local := by kernel_rfl) (hp : (env.scope.kind == .class || (env.scope.kind == .module && env.locals != env.globals)) = false := by rfl) :
    wpAny (MD w) A (pyIter (.ref a)) (fun it s₂ => codeAny (MD w) A (.forLoop (.Tuple [.Name x px, .Name y py] kk tp) it body orelse env) (fun r s' => match r with | .ok f => Q f s' | .error e => cameBackBy (MD w) A env E e s') s₂) E s :=
  it_V hh S hV hT fun I fp wr Md St its s1 T a S1 st => for_any T a S1 st (asg2 (P2 := fun k a b => ∃ z t, kvs[k]? = some (z, b) ∧ a = .str z t) hh (fun k v h p => by obtain ⟨T, z, t, u, e, hz, hT⟩ := p; exact ⟨T, _, u, e, hT, z, t, hz, rfl⟩) hL hx hy hp) Inv i0 (fun k its g' l' own' b s' hk e iv hb S' => by obtain ⟨_, v, rfl, z, t, hz, rfl⟩ := hb; exact turn k z v t its g' l' own' s' hz e iv S') fin
theorem for_E {a : Nat} {vs : List Value} (hh : A.handled = none) (S : Sp w c g l own s) (hT : IsL g a vs) (Inv : Nat → Heap → List (Str × Value) → Own → Prop) (i0 : Inv 0 g l own)
    (turn : ∀ k v t its g' l' own' s', vs[k]? = some v → Ext g g' → Inv k g' l' own' → Sp w c g' ((y, v) :: (x, .int k t) :: l') (own' ++ itO its) s' → wpAny (MD w) A (execs body env) (loopQ (Nx1 w c g' its Inv k) Q) (forE w A env E) s')
    (fin : ∀ g' l' own' s', Ext g g' → Inv vs.length g' l' own' → Sp w c g' l' own' s' → wpAny (MD w) A (execs orelse env) Q (forE w A env E) s')
    (hL : env.locals = c.L := by rfl) (hx : env.kindOf x = some .local := by kernel_rfl) (hy : env.kindOf y = some .local := by kernel_rfl) (hp : (env.scope.kind == .class || (env.scope.kind == .module && env.locals != env.globals)) = false := by rfl) :
    wpAny (MD w) A (call (.type "enumerate") [.ref a]) (fun v s₁ => wpAny (MD w) A (pyIter v) (fun it s₂ => codeAny (MD w) A (.forLoop (.Tuple [.Name x px, .Name y py] kk tp) it body orelse env) (fun r s' => match r with | .ok f => Q f s' | .error e => cameBackBy (MD w) A env E e s') s₂) E s₁) E s :=
  newEnum hh S hT fun I fp wr Md St its s1 T a S1 st => (T [.Name x px, .Name y py] kk tp).self _ _ _ st (for_any (T _ _ _) a S1 st (asg2 (P2 := fun k a b => ∃ t, vs[k]? = some b ∧ a = .int k t) hh (fun k v h p => by obtain ⟨T, t, u, e, hz, hT⟩ := p; exact ⟨T, _, u, e, hT, t, hz, rfl⟩) hL hx hy hp) Inv i0 (fun k its g' l' own' b s' hk e iv hb S' => by obtain ⟨_, v, rfl, t, hz, rfl⟩ := hb; exact turn k v t its g' l' own' s' hz e iv S') fin)
theorem is_nn {Q : Value → Shared → Prop} (h : Q (.bool true) s) : wpAny (MD w) A (compareOp .Is .none .none) Q E s := wpAny_is_self rfl h
theorem isNot_nn {Q : Value → Shared → Prop} (h : Q (.bool false) s) : wpAny (MD w) A (compareOp .IsNot .none .none) Q E s := wpAny_isNot_self rfl h
theorem is_rr {a : Addr} {Q : Value → Shared → Prop} (h : Q (.bool true) s) : wpAny (MD w) A (compareOp .Is (.ref a) (.ref a)) Q E s := wpAny_is_ref_self h
theorem isNot_rr {a : Addr} {Q : Value → Shared → Prop} (h : Q (.bool false) s) : wpAny (MD w) A (compareOp .IsNot (.ref a) (.ref a)) Q E s := wpAny_isNot_ref_self h
theorem is_b {a b : Bool} {Q : Value → Shared → Prop} (h : Q (.bool (a == b)) s) : wpAny (MD w) A (compareOp .Is (.bool a) (.bool b)) Q E s := by
  refine wpAny_is_plain (by cases a <;> cases b <;> rfl) ?_
  have : (Value.bool a == Value.bool b) = (a == b) := by cases a <;> cases b <;> rfl
  rw [this]; exact h
theorem isNot_b {a b : Bool} {Q : Value → Shared → Prop} (h : Q (.bool (!(a == b))) s) : wpAny (MD w) A (compareOp .IsNot (.bool a) (.bool b)) Q E s := by
  refine wpAny_isNot_plain (by cases a <;> cases b <;> rfl) ?_
  have : (Value.bool a == Value.bool b) = (a == b) := by cases a <;> cases b <;> rfl
  rw [this]; exact h
theorem sysM (S : Sp w c g l own s) {d : Nat} (h : @Ne Nat d 1) : (d == sysModules) = false := by simpa [sysModules] using h
theorem IsD.ty {d : Nat} {kvs : List (Str × Value)} (D : IsD w s.heap d kvs) : s.TypeIs (.ref d) "dict" := by obtain ⟨⟨o, x, es, n, rfl, _⟩, _⟩ := D; exact ⟨_, x, rfl⟩
theorem mD {d : Nat} {kvs : List (Str × Value)} {name : Str} {id : String} {pl : Sem Bool} {Q : Value × List Value → Shared → Prop} (D : IsD w s.heap d kvs) (slot : Slot "dict" name id) (hty : typeOf (.builtin id) = pure (.type "method_descriptor")) (h : Q (.builtin id, [.ref d]) s) : wpAny (MD w) A (getMethod (.ref d) name pl) Q E s :=
  getMethod_builtin D.ty PySem.F.plainAttrs_dict slot hty D.dictOf.mapOf.noDict h
theorem mL {d : Nat} {vs : List Value} {pl : Sem Bool} {Q : Value × List Value → Shared → Prop} (D : IsL s.heap d vs) (h : Q (.builtin "list.append", [.ref d]) s) : wpAny (MD w) A (getMethod (.ref d) "append" pl) Q E s := by
  obtain ⟨n, x⟩ := D
  exact getMethod_list_append x rfl rfl h
theorem dGetD {d : Nat} {kvs : List (Str × Value)} {k : Str} {t : Tok} {u : Value} {Q : Value → Shared → Prop} (S : Sp w c g l own s) (D : IsD w s.heap d kvs)
    (h : ∀ s', Sp w c g l own s' → Q ((kvs.lookup k).getD u) s') : wpAny (MD w) A (call (.builtin "dict.get") [.ref d, .str k t, u]) Q E s :=
  call_meetsIn PySem.F.slot_dict_get D.ty PySem.F.entry_dict_get (PySem.F.args_dict_get_3 _ _ _) (meets_dict_get_default (strKind P0 w) d (strKind_is P0 w k t) D.sm u) ⟨_, map_lookup D.1, h _ (S.tk rfl rfl rfl)⟩
theorem dItems {d : Nat} {kvs : List (Str × Value)} {Q : Value → Shared → Prop} (S : Sp w c g l own s) (D : IsD w s.heap d kvs)
    (h : ∀ a s' g', Ext g g' → IsView g' a d → Sp w c g' l own s' → Q (.ref a) s') : wpAny (MD w) A (call (.builtin "dict.items") [.ref d]) Q E s := by
  refine call_meetsIn PySem.F.slot_dict_items D.ty PySem.F.entry_dict_items (PySem.F.args_dict_items_1 _) (meets_dict_items (strKind P0 w) d D.sm) ⟨⟨kvs, D.dictOf⟩, ?_⟩
  have S1 := S.push (o := { cls := .type "dict_items", data := .fields #[.ref d] }) (P := fun o => o = { cls := .type "dict_items", data := .fields #[.ref d] }) (s' := { s with heap := s.heap.push { cls := .type "dict_items", data := .fields #[.ref d] } }) rfl rfl rfl rfl rfl
  have nd := S1.nd
  rw [List.map_cons, List.nodup_cons] at nd
  obtain ⟨g', o, e, ha, rfl, S2⟩ := S1.freeze (own' := own) (List.sublist_cons_self ..) (List.Mem.head _) nd.1
  exact h _ _ g' e ⟨_, ha, rfl, rfl⟩ S2
theorem dUpd {d o i : Nat} {kvs more : List (Str × Value)} {Q : Value → Shared → Prop} (S : Sp w c g l own s) (hi : own[i]? = some (d, DictO w kvs)) (M : IsD w s.heap o more) (hne : @Ne Nat d o) (hz : kvs.length + more.length ≤ 900)
    (h : ∀ s', Sp w c g l (own.set i (d, DictO w (merged kvs more))) s' → Q .none s') : wpAny (MD w) A (call (.builtin "dict.update") [.ref d, .ref o]) Q E s := by
  obtain ⟨od, hd, D⟩ := S.at i hi
  have D' : IsD w s.heap d kvs := S.isD i hi
  refine call_meetsIn PySem.F.slot_dict_update D'.ty PySem.F.entry_dict_update (PySem.F.args_dict_update_2 _ _) (meets_dict_update (strKind P0 w) d o hne M.sm) ⟨kvs, more, D'.dictOf, M.dictOf, by rw [sizeLine_eq]; omega, fun h' X Y hb => ?_⟩
  obtain ⟨o', x', X⟩ := IsD0.of X
  exact h _ (S.chg hi hb.extBut (Nat.le_of_eq hb.1.symm) x' X rfl rfl)
end
end Mine
end
section
set_option maxHeartbeats 4000000
namespace Mine
abbrev Around.mk' (A : Around) (x : Args) : Around := A.under (.builtin "type.__call__" x)
theorem under_depth (A : Around) (v : Value) (r : List Value) (k : List (Str × Value)) : (A.under (.builtin "type.__call__" ⟨v :: r, k⟩)).depth ≤ A.depth + 1 := by
  show A.depth + Code.weight _ ≤ _
  have : Code.weight (.builtin "type.__call__" ⟨v :: r, k⟩) ≤ 1 := by
    cases v <;> first | (exact Nat.le_of_ble_eq_true (by kernel_rfl))
  omega
theorem under_handled (A : Around) (x : Args) : (A.under (.builtin "type.__call__" x)).handled = A.handled := rfl
section
variable {w : World} {c : Cx} {g : Heap} {l : List (Str × Value)} {own : Own} {s : Shared} {A : Around} {E : Value → Shared → Prop} {env : Env} {gp : Heap}
theorem enterI {C f : Nat} {name qual : Str} {params : Arguments} {body : List Stmt} {scope : Scope} {dV kV doc pm cdv ct oc : Value} {an od : Option Addr} {osl : Array (Option Value)} {pos : List Value} {kw : List (Str × Value)} {binds : Nat → List (Str × Value)} {Q : Value → Shared → Prop}
    (I : In w gp s) (hm : makesIn (hd.heap_39 w.params) C = true) (hi : findIn (hd.heap_39 w.params) (.ref C) "__init__" = some (some (.ref f))) (hf : typeIn (hd.heap_39 w.params) (.ref f) = some (.type "function"))
    (hroom : A.depth < 990)
    (ho : (hd.heap_39 w.params).lookup f = some ⟨oc, od, .func (fnOf name qual params body scope dV kV doc pm an cdv ct), osl⟩) (hcd : codeIn (hd.heap_39 w.params) cdv qual = true)
    (hbind : ∀ (x : Nat) (s' : Shared), (K w).In s'.heap → BindsTo s' (fnOf name qual params body scope dV kV doc pm an cdv ct) ⟨.ref x :: pos, kw⟩ (binds x)) (hloc : ∀ x, ∀ y ∈ binds x, scope.names.lookup y.1 = some .local)
    (h : ∀ x dx L s1 (A' : Around), A'.depth ≤ A.depth + 1 → A'.handled = A.handled → Sp w ⟨s, gp, L⟩ gp (binds x).reverse [(x, fun o => o = instObj C dx), (dx, DictO w [])] s1 →
      wpAny (MD w) (A'.deeper (envOf qual scope L f cdv)) (execs body (envOf qual scope L f cdv)) (retQ fun v s' => v = .none ∧ Q (.ref x) s') (fun _ _ => False) s1)
    (hcell : ∀ x ∈ scope.names, x.2 ≠ .cell) (hco : scope.isCoroutine = false) (hgen : scope.isGenerator = false) (hk : scope.kind = .function) : wpAny (MD w) A (call (.ref C) pos kw) Q E s := by
  refine wpAny_call ?_
  have X := I.gl.kin
  obtain ⟨h0, gn, d, t, os⟩ := s
  refine make_core (makes_of X hm) (looks_findIn X hi) (fun self => bind_fn X self hf) (.inl rfl) ?_
  have k2 : ∀ (b : Nat) o, h0.get? b = some o → ((h0.push emptyDict).push (instObj C h0.objs.size)).get? b = some o := fun b o e => Heap.get?_push_of_some _ (Heap.get?_push_of_some _ e)
  have X2 : (K w).In ((h0.push emptyDict).push (instObj C h0.objs.size)) := fun a o e => k2 a o (X a o e)
  have hlim : h0.NoLimit := ⟨_, .of_isNs (isNs_of_in (N := cStatics) I.gl.kin (by kernel_rfl)), nsMap_none_of_in I.gl.kin (by kernel_rfl) (by kernel_rfl)⟩
  have hz : ((h0.push emptyDict).push (instObj C h0.objs.size)).objs.size = h0.objs.size + 2 := by rw [Heap.size_push, Heap.size_push]
  have hx : ((h0.push emptyDict).push (instObj C h0.objs.size)).get? (h0.objs.size + 1) = some (instObj C h0.objs.size) := by
    have := Heap.get?_push_size (h0.push emptyDict) (o := instObj C h0.objs.size) rfl
    rwa [Heap.size_push] at this
  have hdx : ((h0.push emptyDict).push (instObj C h0.objs.size)).get? h0.objs.size = some emptyDict := Heap.get?_push_of_some _ (Heap.get?_push_size _ rfl)
  refine codeAny_call_def (fd := fnOf name qual params body scope dV kV doc pm an cdv ct) (body := body) (binds := binds (h0.objs.size + 1)) (Nat.lt_of_le_of_lt (under_depth _ _ _ _) (Nat.lt_of_lt_of_le (Nat.succ_lt_succ hroom) (by decide))) (X2 _ _ ho) rfl (hlim.keeps k2) (codeRec_of X2 hcd) rfl (hbind _ _ X2) hcell (hloc _) (fun h₁ hns hk₁ => ?_) hco hgen hk
  have hz2 : ({ heap := (h0.push emptyDict).push (instObj C h0.objs.size), gens := gn, drawn := d, toks := t, os := os } : Shared).heap.objs.size = h0.objs.size + 2 := hz
  rw [hz2] at hns ⊢
  have S := start (l := (binds (h0.objs.size + 1)).reverse) (I := I) (s1 := ⟨h₁, gn, d, t + (binds (h0.objs.size + 1)).length, os⟩) hns (fun b o e => hk₁ b o (k2 b o e)) (by show h0.objs.size ≤ h0.objs.size + 2; omega) rfl rfl (fun x v e => e) [(h0.objs.size + 1, fun o => o = instObj C h0.objs.size), (h0.objs.size, DictO w [])] (fun p hp => ?_) ?_
  · refine wpAny_mono (h _ _ _ _ _ (under_depth _ _ _ _) rfl S) (fun fl s' q => ?_) fun _ _ x => x.elim
    cases fl <;> exact q
  · simp only [List.mem_cons, List.not_mem_nil, or_false] at hp
    rcases hp with rfl | rfl
    · exact ⟨⟨_, hk₁ _ _ hx, rfl⟩, by show h0.objs.size ≤ h0.objs.size + 1; omega, by show h0.objs.size + 1 ≠ h0.objs.size + 2; omega⟩
    · exact ⟨⟨_, hk₁ _ _ hdx, [], 0, rfl, .nil, .nil⟩, Nat.le_refl _, by show h0.objs.size ≠ h0.objs.size + 2; omega⟩
  · simp
theorem saO {x C dx i j : Nat} {kvs : List (Str × Value)} {name : Str} {v : Value} {Q : Unit → Shared → Prop} (S : Sp w c g l own s)
    (hj : own[j]? = some (x, fun o => o = instObj C dx)) (hi : own[i]? = some (dx, DictO w kvs))
    (hs : findIn (hd.heap_39 w.params) (.ref C) "__setattr__" = some (some (.builtin "object.__setattr__"))) (hp : plainOver (hd.heap_39 w.params) C = true) (ht : takerIn (hd.heap_39 w.params) C name = some none) (hh : hasDictIn (hd.heap_39 w.params) C = true)
    (hz : kvs.length ≤ 900) (h : ∀ s', Sp w c g l (own.set i (dx, DictO w (put name v kvs))) s' → Q () s') : wpAny (MD w) A (setAttr (.ref x) name v) Q E s := by
  obtain ⟨o, ho, rfl⟩ := S.at j hj
  exact sa S ho hi hs hp ht hh hz h
theorem Sp.frzI {x C dx : Nat} {kvs : List (Str × Value)} (S : Sp w c g l ((x, fun o => o = instObj C dx) :: (dx, DictO w kvs) :: own) s) : ∃ g', Ext g g' ∧ IsInst w g' x C kvs ∧ Sp w c g' l own s := by
  have nd := S.nd
  rw [List.map_cons, List.map_cons, List.nodup_cons, List.nodup_cons] at nd
  obtain ⟨g1, o1, e1, h1, rfl, S1⟩ := S.freeze (own' := (dx, DictO w kvs) :: own) (List.sublist_cons_self ..) (List.Mem.head _) (by rw [List.map_cons]; exact nd.1)
  obtain ⟨g2, o2, e2, h2, hD, S2⟩ := S1.freeze (own' := own) (List.sublist_cons_self ..) (List.Mem.head _) nd.2.1
  exact ⟨g2, e1.trans e2, ⟨dx, o2, e2 _ _ h1, h2, hD⟩, S2⟩
theorem saN {x C dx n : Nat} {kvs : List (Str × Value)} {name : Str} {v : Value} {Q : Unit → Shared → Prop} (S : Sp w c g l ((x, fun o => o = instObj C dx) :: (dx, DictO w kvs) :: own) s) (hz : kvs.length ≤ n)
    (hs : findIn (hd.heap_39 w.params) (.ref C) "__setattr__" = some (some (.builtin "object.__setattr__")) ∧ plainOver (hd.heap_39 w.params) C = true ∧ hasDictIn (hd.heap_39 w.params) C = true) (ht : takerIn (hd.heap_39 w.params) C name = some none) (hn : n ≤ 900)
    (h : ∀ s', Sp w c g l ((x, fun o => o = instObj C dx) :: (dx, DictO w (put name v kvs)) :: own) s' → (put name v kvs).length ≤ n + 1 → Q () s') : wpAny (MD w) A (setAttr (.ref x) name v) Q E s :=
  saO (j := 0) (i := 1) S rfl rfl hs.1 hs.2.1 ht hs.2.2 (Nat.le_trans hz hn) fun s' S' => h s' S' (Nat.le_trans (put_len _ _ _) (Nat.succ_le_succ hz))
end
end Mine
end
section
set_option maxHeartbeats 4000000
namespace Mine
section
variable {w : World} {c : Cx} {g : Heap} {l : List (Str × Value)} {own : Own} {s : Shared} {A : Around} {E : Value → Shared → Prop} {env : Env} {gp : Heap}
theorem Sp.bAt (S : Sp w c g l own s) (P : Nat) (h4 : @Ne Nat 4 P) : s.heap.BuiltinsAt (s.heap.nsMap mainGlobals) P := by
  have X := S.kin
  have n := nsIn_ns X
  obtain ⟨ob, e, h1, h2, h3⟩ := S.gl.b4
  exact ⟨4, ob, mg_of (K := K w) X n (by kernel_rfl), by decide, by decide, h4, e, h1, h2, h3⟩
theorem Sp.grow1 (S : Sp w c g l own s) {h'' : Heap} {tk : Nat} {c' : Nat} (hx : Heap.ExtBut 245 s.heap h'') (hsz : s.heap.objs.size ≤ h''.objs.size) (hc : s.heap.objs.size ≤ c') (hrec : h''.CodeRec (.ref c') q1) (ht : h''.get? 245 = some (tabObj #[rawInt 238, rawInt 4, .ref c'])) :
    Back w g s { s with heap := h'', toks := tk } := by
  have k : Kx s.heap h'' := fun b o e n1 _ => hx b o (nea n1) e
  refine ⟨rfl, rfl, S.gl.kx k, k, hsz, fun gq N => ⟨⟨_, ht, .inr ⟨c', rfl, ?_⟩⟩, ?_⟩⟩
  · obtain ⟨c₂, oc, vs, t, e, a, r⟩ := hrec
    cases e
    exact ⟨c', oc, vs, t, rfl, N.new _ _ a hc, r⟩
  · obtain ⟨ps, t2, u2⟩ := S.tabs.t2
    exact ⟨ps, hx _ _ (by decide) t2, tab1_mono u2 fun v x => x.keeps N.ext⟩
theorem Sp.grow2 (S : Sp w c g l own s) {h'' : Heap} {tk : Nat} {c' : Nat} (hx : Heap.ExtBut 502 s.heap h'') (hsz : s.heap.objs.size ≤ h''.objs.size) (hc : s.heap.objs.size ≤ c') (hrec : h''.CodeRec (.ref c') q2) (ht : h''.get? 502 = some (tabObj #[rawInt 459, rawInt 11, .ref c'])) :
    Back w g s { s with heap := h'', toks := tk } := by
  have k : Kx s.heap h'' := fun b o e _ n2 => hx b o (nea n2) e
  refine ⟨rfl, rfl, S.gl.kx k, k, hsz, fun gq N => ⟨?_, ⟨_, ht, .inr ⟨c', rfl, ?_⟩⟩⟩⟩
  · obtain ⟨ps, t2, u2⟩ := S.tabs.t1
    exact ⟨ps, hx _ _ (by decide) t2, tab1_mono u2 fun v x => x.keeps N.ext⟩
  · obtain ⟨c₂, oc, vs, t, e, a, r⟩ := hrec
    cases e
    exact ⟨c', oc, vs, t, rfl, N.new _ _ a hc, r⟩
theorem Sp.quiet (S : Sp w c g l own s) {h'' : Heap} {tk : Nat} (hk : ∀ b o, s.heap.get? b = some o → h''.get? b = some o) (hsz : s.heap.objs.size ≤ h''.objs.size) : Back w g s { s with heap := h'', toks := tk } := by
  have k : Kx s.heap h'' := fun b o e _ _ => hk b o e
  exact ⟨rfl, rfl, S.gl.kx k, k, hsz, fun gq N => tabs_mono (tabs_to S.tabs (fun o x => hk _ _ x) (fun o x => hk _ _ x)) N.ext⟩
theorem mkDef {name qual : Str} {params : Arguments} {body : List Stmt} {scope : Scope} {pos : Pos} {fl : Nat} {Q : Value → Shared → Prop} (S : Sp w c g l own s) (hcode : env.code = .ref 249) (hge : env.globals = mainGlobals) (hcl : closureFor scope env = pure []) (hp1 : pos.line = 238) (hp2 : pos.col = 4) (hq : qual = q1)
    (h : ∀ f c' ctv doc pm s' g', Ext g g' → g'.get? f = some (fnMade name q1 params body scope [] doc pm c' ctv) → g'.CodeRec (.ref c') q1 → Sp w c g' l own s' → Q (.ref f) s') :
    wpAny (MD w) A (makeFunction name qual params (.stmts body) scope env [] [] [] pos fl) Q E s := by
  subst hq
  have n := nsIn_ns S.kin
  obtain ⟨ps, ht, hu⟩ := S.tabs.t1
  rcases hu with rfl | ⟨c0, rfl, hrec⟩
  · refine makeFunction_K hcl hge n hcode S.gl.hd1 ht trivial rfl (by decide) (S.bAt 245 (by decide)) fun c' ctv doc h' tk hx hge hlt hrec htb => ?_
    have hsz : s.heap.objs.size ≤ h'.objs.size := Nat.le_of_lt (Nat.lt_of_le_of_lt hge hlt)
    have B := S.grow1 (tk := tk) (h'' := h'.push (fnMade name q1 params body scope [] doc (((s.heap.nsMap mainGlobals) "__name__").getD .none) c' ctv)) (fun b o hb e => Heap.get?_push_of_some _ (hx b o hb e)) (by rw [Heap.size_push]; omega) hge (hrec.keeps fun b o e => Heap.get?_push_of_some _ e)
      (Heap.get?_push_of_some _ (by rw [htb, hp1, hp2]; rfl))
    obtain ⟨g', e, S', N⟩ := S.after B
    obtain ⟨c₂, oc, vs, t, e2, a, r⟩ := hrec
    cases e2
    exact h _ c' ctv doc _ _ g' e (N.new _ _ (Heap.get?_push_size _ rfl) hsz) ⟨c', oc, vs, t, rfl, N.new _ _ (Heap.get?_push_of_some _ a) hge, r⟩ S'
  · refine makeFunction_hit hcl hge n hcode S.gl.hd1 ht trivial (cv := .ref c0) (by show codeAmong pos [rawInt 238, rawInt 4, .ref c0] = _; unfold codeAmong rawInt; simp [hp1, hp2]) (S.bAt 245 (by decide)) fun ctv doc h' tk hk hsz => ?_
    have B := S.quiet (tk := tk) (h'' := h'.push (fnMade name q1 params body scope [] doc (((s.heap.nsMap mainGlobals) "__name__").getD .none) c0 ctv)) (fun b o e => Heap.get?_push_of_some _ (hk b o e)) (by rw [Heap.size_push]; omega)
    obtain ⟨g', e, S', N⟩ := S.after B
    exact h _ c0 ctv doc _ _ g' e (N.new _ _ (Heap.get?_push_size _ rfl) hsz) (hrec.keeps e) S'
theorem mkLam {name qual : Str} {params : Arguments} {body : Expr} {scope : Scope} {clos : List (Str × Addr)} {pos : Pos} {fl : Nat} {Q : Value → Shared → Prop} (S : Sp w c g l own s) (hcode : env.code = .ref 506) (hge : env.globals = mainGlobals) (hcl : closureFor scope env = pure clos) (hp1 : pos.line = 459) (hp2 : pos.col = 11) (hq : qual = q2)
    (h : ∀ f c' ctv pm s' g', Ext g g' → g'.get? f = some (kla_obj name q2 params body scope clos pm c' ctv) → g'.CodeRec (.ref c') q2 → Sp w c g' l own s' → Q (.ref f) s') :
    wpAny (MD w) A (makeFunction name qual params (.expr body) scope env [] [] [] pos fl) Q E s := by
  subst hq
  have n := nsIn_ns S.kin
  obtain ⟨ps, ht, hu⟩ := S.tabs.t2
  rcases hu with rfl | ⟨c0, rfl, hrec⟩
  · refine kla_makeFunction hcl hge n hcode S.gl.hd2 ht trivial rfl (by decide) (S.bAt 502 (by decide)) fun c' ctv h' tk hx hge hlt hrec htb => ?_
    have hsz : s.heap.objs.size ≤ h'.objs.size := Nat.le_of_lt (Nat.lt_of_le_of_lt hge hlt)
    have B := S.grow2 (tk := tk) (h'' := h'.push (kla_obj name q2 params body scope clos (((s.heap.nsMap mainGlobals) "__name__").getD .none) c' ctv)) (fun b o hb e => Heap.get?_push_of_some _ (hx b o hb e)) (by rw [Heap.size_push]; omega) hge (hrec.keeps fun b o e => Heap.get?_push_of_some _ e)
      (Heap.get?_push_of_some _ (by rw [htb, hp1, hp2]; rfl))
    obtain ⟨g', e, S', N⟩ := S.after B
    obtain ⟨c₂, oc, vs, t, e2, a, r⟩ := hrec
    cases e2
    exact h _ c' ctv _ _ g' e (N.new _ _ (Heap.get?_push_size _ rfl) hsz) ⟨c', oc, vs, t, rfl, N.new _ _ (Heap.get?_push_of_some _ a) hge, r⟩ S'
  · refine kla_makeFunctionHit hcl hge n hcode S.gl.hd2 ht trivial (cv := .ref c0) (by show codeAmong pos [rawInt 459, rawInt 11, .ref c0] = _; unfold codeAmong rawInt; simp [hp1, hp2]) (S.bAt 502 (by decide)) fun ctv h' tk hk hsz => ?_
    have B := S.quiet (tk := tk) (h'' := h'.push (kla_obj name q2 params body scope clos (((s.heap.nsMap mainGlobals) "__name__").getD .none) c0 ctv)) (fun b o e => Heap.get?_push_of_some _ (hk b o e)) (by rw [Heap.size_push]; omega)
    obtain ⟨g', e, S', N⟩ := S.after B
    exact h _ c0 ctv _ _ g' e (N.new _ _ (Heap.get?_push_size _ rfl) hsz) (hrec.keeps e) S'
theorem enterF {f : Nat} {name qual : Str} {params : Arguments} {body : List Stmt} {scope : Scope} {doc pm ctv : Value} {c' : Nat} {pos : List Value} {kw : List (Str × Value)} {binds : List (Str × Value)} {Q : Value → Shared → Prop}
    (I : In w gp s) (hroom : A.depth < recursionLimit) (ho : gp.get? f = some (fnMade name qual params body scope [] doc pm c' ctv)) (hcd : gp.CodeRec (.ref c') qual)
    (hbind : BindsTo s (fnX name qual params body scope [] .none .none doc pm none (.ref c') ctv) ⟨pos, kw⟩ binds) (hloc : ∀ y ∈ binds, scope.names.lookup y.1 = some .local)
    (h : ∀ L s1, Sp w ⟨s, gp, L⟩ gp binds.reverse [] s1 → wpAny (MD w) (A.deeper (envOf qual scope L f (.ref c'))) (execs body (envOf qual scope L f (.ref c'))) (retQ Q) (fun _ _ => False) s1)
    (hcell : ∀ x ∈ scope.names, x.2 ≠ .cell) (hco : scope.isCoroutine = false) (hgen : scope.isGenerator = false) (hk : scope.kind = .function) : wpAny (MD w) A (call (.ref f) pos kw) Q E s := by
  have hlim : s.heap.NoLimit := ⟨_, .of_isNs (isNs_of_in (N := cStatics) I.gl.kin (by kernel_rfl)), nsMap_none_of_in I.gl.kin (by kernel_rfl) (by kernel_rfl)⟩
  refine wpAny_call (codeAny_call_def (fd := fnX name qual params body scope [] .none .none doc pm none (.ref c') ctv) (body := body) (binds := binds) hroom (I.ge _ _ ho) rfl hlim (hcd.keeps I.ge) rfl hbind hcell hloc (fun h₁ hns hk₁ => ?_) hco hgen hk)
  refine wpAny_mono (h s.heap.objs.size _ (start (I := I) (s1 := { s with heap := h₁, toks := s.toks + binds.length }) (own := []) hns hk₁ (Nat.le_refl _) rfl rfl (fun x v e => e) (fun _ hp => nomatch hp) .nil)) (fun fl s' q => ?_) fun _ _ x => x.elim
  cases fl <;> exact q
end
end Mine
end
section
set_option maxHeartbeats 4000000
namespace Mine
section
variable {w : World} {c : Cx} {g : Heap} {l : List (Str × Value)} {own : Own} {s : Shared} {A : Around} {E : Value → Shared → Prop} {env : Env} {gp : Heap}
theorem Sp.ext (S : Sp w c g l own s) {h' : Heap} (hk : ∀ (b : Nat) o, s.heap.get? b = some o → h'.get? b = some o) {t : Nat} : Sp w c g l own { s with heap := h', toks := t } := by
  have := (show Sp w c g l (own ++ itO []) s by simpa [itO] using S).chgs (s' := { s with heap := h', toks := t }) (its' := []) (fun b o _ x => hk b o x) rfl rfl rfl (fun _ hp => nomatch hp)
  simpa [itO] using this
theorem asT {a : Nat} {vs : List Value} {elts : List Expr} {kk : Nat} {tp : Pos} {Q : Unit → Shared → Prop} (S : Sp w c g l own s) (hh : A.handled = none) (hT : IsT s.heap a vs) (hn : (assignEach elts env).length = vs.length)
    (h : ∀ s', Sp w c g l own s' → wpAny (MD w) A (assignInOrder ((assignEach elts env).map (·.2)) vs) Q E s') (hst : (assignEach elts env).findIdx? (·.1) = none := by rfl) : wpAny (MD w) A (assign (.Tuple elts kk tp) env (.ref a)) Q E s :=
  wpAny_assign_Tuple hh hT.tup (by rw [hn]; simp) hst fun h₁ he₁ => by
    have := h _ (S.ext (h' := h₁) (t := s.toks) fun b o x => he₁ b o (nea (Nat.ne_of_lt (ltz x))) x)
    simpa using this
theorem unT {a n : Nat} {vs : List Value} {Q : List Value → Shared → Prop} (S : Sp w c g l own s) (hh : A.handled = none) (hT : IsT s.heap a vs) (hn : n = vs.length)
    (h : ∀ s', Sp w c g l own s' → Q vs s') : wpAny (MD w) A (unpackItems (.ref a) n none) Q E s := by
  subst hn
  have e : vs.length = vs.toArray.size := by simp
  rw [e]
  refine wpAny_unpackItems_tuple hh hT.tup fun h₁ he₁ => ?_
  have := h _ (S.ext (h' := h₁) (t := s.toks) fun b o x => he₁ b o (nea (Nat.ne_of_lt (ltz x))) x)
  simpa using this
theorem asN {x : Str} {px : Pos} {v : Value} {Q : Unit → Shared → Prop} (h : wpAny (MD w) A (storeName env x v) Q E s) : wpAny (MD w) A (assign (.Name x px) env v) Q E s := wpAny_assign_Name h
theorem cwF {pos : Pos} {f : Nat} {name qual : Str} {params : Arguments} {body : List Stmt} {scope : Scope} {clos : List (Str × Addr)} {doc pm ctv : Value} {c' : Nat} {first : List Value} {e : Expr} {rest : List Expr} {Q : Value → Shared → Prop} (ho : s.heap.get? f = some (fnMade name qual params body scope clos doc pm c' ctv))
    (h : wpAny (MD w) A (spliced (backTo pos (starEach (e :: rest) env))) (fun vs s₁ => FnAt f s₁.heap ∧ wpAny (MD w) A (call (.ref f) (first ++ vs)) Q E s₁) E s)
    (he : starEach (e :: rest) env = (false, eval e env) :: starEach rest env := by rfl) (hplain : (backTo pos (starEach rest env)).any (·.1) = false := by rfl) : wpAny (MD w) A (callWith pos (.ref f) first (backTo pos (starEach (e :: rest) env)) []) Q E s :=
  callWith_F ⟨_, _, _, _, ho⟩ h he hplain
theorem fnAt {f : Nat} {name qual : Str} {params : Arguments} {body : List Stmt} {scope : Scope} {clos : List (Str × Addr)} {doc pm ctv : Value} {c' : Nat} (ho : s.heap.get? f = some (fnMade name qual params body scope clos doc pm c' ctv)) : FnAt f s.heap := ⟨_, _, _, _, ho⟩
theorem asn2 {x y : Str} {px py tp : Pos} {kk : Nat} {vals : List Expr} {k2 : Nat} {p2 pos : Pos} {Q : Flow → Shared → Prop}
    (h : wpAny (MD w) A (spliced (backTo p2 (starEach vals env))) (fun vs s₁ => wpAny (MD w) A (newTuple vs) (fun v s₂ => wpAny (MD w) A (unpackItems v 2 none) (fun items s₃ => wpAny (MD w) A (assignInOrder [bindName env y, bindName env x] items.reverse) (fun _ => Q .next) E s₃) E s₂) E s₁) E s)
    (hs : swapsWithSole [.Tuple [.Name x px, .Name y py] kk tp] (.Tuple vals k2 p2) pos.line env = pure false := by rfl)
    (hw : swappedStores [.Tuple [.Name x px, .Name y py] kk tp] (.Tuple vals k2 p2) env = pure (some [x, y]) := by kernel_rfl) : wpAny (MD w) A (exec (.Assign [.Tuple [.Name x px, .Name y py] kk tp] (.Tuple vals k2 p2) pos) env) Q E s :=
  PyProof.Rows.Assign_Tuple_swapped (names := [x, y]) (Tuple_ h) hs hw
theorem asn2' {a b : Value} {x y : Str} {Q : Unit → Shared → Prop} (S : Sp w c g l own s) (hh : A.handled = none)
    (h : ∀ s', Sp w c g l own s' → wpAny (MD w) A (storeName env y b) (fun _ s₁ => wpAny (MD w) A (storeName env x a) Q E s₁) E s') :
    wpAny (MD w) A (newTuple [a, b]) (fun v s₂ => wpAny (MD w) A (unpackItems v 2 none) (fun items s₃ => wpAny (MD w) A (assignInOrder [bindName env y, bindName env x] items.reverse) Q E s₃) E s₂) E s := by
  refine newT S (Nat.le_of_ble_eq_true rfl) fun s1 T S1 => ?_
  obtain ⟨o, ho, n, rfl⟩ := S1.at 0 rfl
  refine unT S1 hh ⟨n, ho⟩ rfl fun s2 S2 => ?_
  refine assignInOrder_cons (wpAny_bindName (wpAny_mono (h s2 (S2.weakO (List.sublist_cons_self ..))) (fun _ s3 h3 => ?_) fun _ _ e => e))
  exact assignInOrder_cons (wpAny_bindName (wpAny_mono h3 (fun _ s4 h4 => assignInOrder_nil h4) fun _ _ e => e))
theorem kind_callable : builtinKind "callable" = none := by decide +kernel
theorem plain_callable : plainId "callable" = true := by decide +kernel
theorem entry_callable : entryFor table "callable" = some Builtin.«callable» := entryFor_of_tree (by kernel_rfl)
theorem args_callable (x : Value) : argsOk "callable" ⟨[x], []⟩ := by unfold argsOk; kernel_rfl
theorem call_callable {v : Value} {T : String} {r : Option Value} {Q : Value → Shared → Prop} (hT : s.TypeIs v T) (hl : typeLookup (.type T) "__call__" = pure r) (h : Q (.bool r.isSome) s) : wpAny (MD w) A (call (.builtin "callable") [v]) Q E s :=
  call_function_meets kind_callable plain_callable entry_callable (args_callable v) (S := fun _ R s => s.TypeIs v T ∧ R (.ok (.ret (.bool r.isSome))) s) (.of_wp fun prog w A R s hs => by
    obtain ⟨hT, h⟩ := hs
    unfold Builtin.«callable» oneArg
    refine wpAny_bind (wpAny_bind (m := noKeywords "callable" ⟨[v], []⟩) (wpAny_pure (a := ()) ?_))
    exact wpAny_pure (wpAny_bind (wpAny_specialOf hT hl (wpAny_pure ⟨_, rfl, h⟩)))) ⟨hT, h⟩
end
end Mine
end
section
set_option maxHeartbeats 4000000
namespace Mine
section
variable {w : World} {c : Cx} {g : Heap} {l : List (Str × Value)} {own : Own} {s : Shared} {A : Around} {E : Value → Shared → Prop} {env : Env} {gp : Heap}
theorem tab1_but {g g' : Heap} {d : Nat} {od : Obj} {ps : Array Value} {i j : Int} {q : Str} (hd : g.get? d = some od) (hf : ∀ vs, od.data ≠ .fields vs) (hg : ∀ (b : Nat), b ≠ d → g'.get? b = g.get? b) (x : Tab1 g.CodeRec ps i j q) : Tab1 g'.CodeRec ps i j q :=
  tab1_mono x fun v ⟨c, oc, vs, t, e, a, b, r⟩ => ⟨c, oc, vs, t, e, by
    have : c ≠ d := fun z => by subst z; rw [hd] at a; cases a; exact hf _ b
    rw [hg c this]; exact a, b, r⟩
theorem Sp.thaw (S : Sp w c g l own s) {d : Nat} {od : Obj} (hd : g.get? d = some od) (hf : ∀ vs, od.data ≠ .fields vs) (hp : c.gp.get? d = none) (h0 : c.s0.heap.objs.size ≤ d) :
    ∃ g', (∀ (b : Nat), b ≠ d → g'.get? b = g.get? b) ∧ g'.get? d = none ∧ Sp w c g' l ((d, fun o => o = od) :: own) s := by
  let g' := sel g fun b => b != d
  have ga : ∀ (b : Nat), g'.get? b = if (b != d) = true then g.get? b else none := sel_get _ _
  have e1 : ∀ (b : Nat), b ≠ d → g'.get? b = g.get? b := fun b hb => by rw [ga]; simp [hb]
  have e2 : g'.get? d = none := by rw [ga]; simp
  have e3 : ∀ (b : Nat) o, g'.get? b = some o → g.get? b = some o := fun b o x => by
    by_cases hb : b = d
    · subst hb; rw [e2] at x; cases x
    · rw [e1 b hb] at x; exact x
  have lo := S.low
  have hL : d ≠ c.L := fun z => by subst z; rw [S.gL] at hd; cases hd
  refine ⟨g', e1, e2, ?_⟩
  obtain ⟨a1, a2, a3, ⟨⟨p1, t1, u1⟩, ⟨p2, t2, u2⟩⟩, t0, a5, a6, a7, a8, a9, a10, a11, a12, a13, a14, a15, a16, a17⟩ := S
  refine ⟨a1, a2, a3, ⟨⟨p1, t1, tab1_but hd hf e1 u1⟩, ⟨p2, t2, tab1_but hd hf e1 u2⟩⟩, t0, a5, a6, a7, a8, fun b o x => a9 b o (e3 b o x), fun b o x => a10 b o (e3 b o x), fun b o x => ?_, ?_, ?_, a14, ?_, fun p hp' => ?_, ?_⟩
  · have : b ≠ d := fun z => by subst z; rw [hp] at x; cases x
    rw [e1 b this]; exact a11 b o x
  · rw [e1 245 (by omega)]; exact a12
  · rw [e1 502 (by omega)]; exact a13
  · rw [e1 _ (Ne.symm hL)]; exact a15
  · rcases List.mem_cons.mp hp' with rfl | hp'
    · exact ⟨⟨od, a9 _ _ hd, rfl⟩, e2, h0, hL⟩
    · obtain ⟨b1, b2, b3⟩ := a16 p hp'
      have : p.1 ≠ d := fun z => by rw [z, hd] at b2; cases b2
      exact ⟨b1, by rw [e1 _ this]; exact b2, b3⟩
  · rw [List.map_cons, List.nodup_cons]
    refine ⟨fun hm => ?_, a17⟩
    obtain ⟨p, hp', e⟩ := List.mem_map.mp hm
    obtain ⟨b1, b2, b3⟩ := a16 p hp'
    dsimp only at e
    rw [e, hd] at b2; cases b2
theorem Sp.weakP (S : Sp w c g l own s) {i : Nat} {a : Nat} {P P' : Obj → Prop} (hi : own[i]? = some (a, P)) (h : ∀ o, P o → P' o) : Sp w c g l (own.set i (a, P')) s := by
  obtain ⟨o, ho, hP⟩ := S.at i hi
  exact S.chg (s' := s) hi (fun b o _ e => e) (Nat.le_refl _) ho (h o hP) rfl rfl
theorem DictO.nf {kvs : List (Str × Value)} {o : Obj} (D : DictO w kvs o) : ∀ vs, o.data ≠ .fields vs := by
  obtain ⟨es, n, rfl, _⟩ := D
  intro vs e; cases e
theorem useD {C : Nat} {f : Value} {pos : List Value} {kw : List (Str × Value)} {Post : Heap → Value → Prop} {P : Heap → Nat → Nat → List (Str × Value) → Prop} {Q : Value → Shared → Prop} (S : Sp w c g l own s) (H : Con w A f pos kw g s Post)
    (hP : ∀ gq v, Post gq v → ∃ x dx kvs od, v = .ref x ∧ s.heap.objs.size ≤ dx ∧ gq.get? x = some (instObj C dx) ∧ gq.get? dx = some od ∧ DictO w kvs od ∧ P gq x dx kvs)
    (h : ∀ x dx kvs s' g' gq, Ext g g' → P gq x dx kvs → (∀ (b : Nat), b ≠ dx → g'.get? b = gq.get? b) → g'.get? x = some (instObj C dx) → Sp w c g' l ((dx, DictO w kvs) :: own) s' → Q (.ref x) s') : wpAny (MD w) A (call f pos kw) Q E s := by
  refine use S H fun v s' gq e hv S' => ?_
  obtain ⟨x, dx, kvs, od, rfl, hz, hx, hdx, hD, p⟩ := hP gq v hv
  have gn : g.get? dx = none := by
    cases q : g.get? dx with
    | none => rfl
    | some o => exact absurd (ltz (S.ge _ _ q)) (Nat.not_lt.mpr hz)
  have pn : c.gp.get? dx = none := by
    cases q : c.gp.get? dx with
    | none => rfl
    | some o => have := S.gp _ _ q; rw [gn] at this; cases this
  obtain ⟨g', e1, e2, S2⟩ := S'.thaw hdx hD.nf pn (Nat.le_trans S.osz hz)
  have hne : x ≠ dx := fun z => by
    subst z
    rw [hx] at hdx
    cases hdx
    obtain ⟨es, n, r, _⟩ := hD
    have := congrArg Obj.data r
    cases this
  exact h x dx kvs s' g' gq (fun b o x => by
    have : b ≠ dx := fun z => by subst z; rw [gn] at x; cases x
    rw [e1 b this]; exact e b o x) p e1 (by rw [e1 x hne]; exact hx) (S2.weakP (i := 0) rfl (fun o z => by rw [z]; exact hD))
theorem Sp.instO (S : Sp w c g l own s) {x C dx : Nat} {kvs : List (Str × Value)} (hx : g.get? x = some (instObj C dx)) (i : Nat) (hi : own[i]? = some (dx, DictO w kvs)) : IsInst w s.heap x C kvs := by
  obtain ⟨o, ho, hP⟩ := S.at i hi
  exact ⟨dx, o, S.ge _ _ hx, ho, hP⟩
theorem mCM {C p : Nat} {f : Value} {rest : List Value} {mc : Value} {name : Str} {pl : Sem Bool} {Q : Value × List Value → Shared → Prop} (S : Sp w c g l own s) (hg : specialIn (hd.heap_39 w.params) (.ref C) "__getattribute__" = some (some (.builtin "type.__getattribute__")))
    (hr : readsIn (hd.heap_39 w.params) C mc = true) (e : findCls (hd.heap_39 w.params) (.ref C) mc name = some (.get (.builtin "classmethod.__get__") (.ref p) .none (.ref C))) (hp : recIn (hd.heap_39 w.params) p "classmethod" = some (f :: rest))
    (h : ∀ q s' g', Ext g g' → g'.get? q = some (methodObj f (.ref C)) → Sp w c g' l own s' → Q (.ref q, []) s') : wpAny (MD w) A (getMethod (.ref C) name pl) Q E s := by
  have X := S.kin
  refine method_cls X hg (cls_bind X hr e (wpAny_call (cm_get (s := { s with toks := s.toks + 1 }) X hp (handed_on rfl ?_))))
  have S1 := S.push (o := methodObj f (.ref C)) (P := fun o => o = methodObj f (.ref C)) (s' := { s with heap := s.heap.push (methodObj f (.ref C)), toks := s.toks + 1 }) rfl rfl rfl rfl rfl
  have nd := S1.nd
  rw [List.map_cons, List.nodup_cons] at nd
  obtain ⟨g', o, e, ha, rfl, S2⟩ := S1.freeze (own' := own) (List.sublist_cons_self ..) (List.Mem.head _) nd.1
  exact h _ _ g' e ha S2
theorem methAt {q f : Nat} {self : Value} (S : Sp w c g l own s) (hq : g.get? q = some (methodObj (.ref f) self)) : MethP (K w) q f self s.heap := ⟨S.ge _ _ hq, S.kin⟩
theorem cwM {pos : Pos} {q f : Nat} {self : Value} {first : List Value} {e : Expr} {rest : List Expr} {Q : Value → Shared → Prop} (S : Sp w c g l own s) (hf : fnIn (hd.heap_39 w.params) f = true)
    (h : wpAny (MD w) A (spliced (backTo pos (starEach (e :: rest) env))) (fun vs s₁ => MethP (K w) q f self s₁.heap ∧ wpAny (MD w) A (call (.ref q) (first ++ vs)) Q E s₁) E s)
    (he : starEach (e :: rest) env = (false, eval e env) :: starEach rest env := by rfl) (hplain : (backTo pos (starEach rest env)).any (·.1) = false := by rfl) : wpAny (MD w) A (callWith pos (.ref q) first (backTo pos (starEach (e :: rest) env)) []) Q E s := by
  rw [he] at h ⊢
  exact callWith_of (by show ((false || (backTo pos (starEach rest env)).any (·.1)) || false) = false; rw [hplain]; rfl) (keeps_M hf) (evalArgs_plain h)
theorem enterM {q f : Nat} {self : Value} {name qual : Str} {params : Arguments} {body : List Stmt} {scope : Scope} {dV kV doc pm cdv ct oc : Value} {an od : Option Addr} {osl : Array (Option Value)} {pos : List Value} {kw : List (Str × Value)} {binds : List (Str × Value)} {Q : Value → Shared → Prop}
    (I : In w gp s) (hq : gp.get? q = some (methodObj (.ref f) self)) (hroom : A.depth < recursionLimit)
    (ho : (hd.heap_39 w.params).lookup f = some ⟨oc, od, .func (fnOf name qual params body scope dV kV doc pm an cdv ct), osl⟩) (hcd : codeIn (hd.heap_39 w.params) cdv qual = true)
    (hbind : BindsTo s (fnOf name qual params body scope dV kV doc pm an cdv ct) ⟨self :: pos, kw⟩ binds) (hloc : ∀ y ∈ binds, scope.names.lookup y.1 = some .local)
    (h : ∀ L s1, Sp w ⟨s, gp, L⟩ gp binds.reverse [] s1 → wpAny (MD w) (A.deeper (envOf qual scope L f cdv)) (execs body (envOf qual scope L f cdv)) (retQ Q) (fun _ _ => False) s1)
    (hcell : ∀ x ∈ scope.names, x.2 ≠ .cell) (hco : scope.isCoroutine = false) (hgen : scope.isGenerator = false) (hk : scope.kind = .function) : wpAny (MD w) A (call (.ref q) pos kw) Q E s := by
  have hlim : s.heap.NoLimit := ⟨_, .of_isNs (isNs_of_in (N := cStatics) I.gl.kin (by kernel_rfl)), nsMap_none_of_in I.gl.kin (by kernel_rfl) (by kernel_rfl)⟩
  refine wpAny_call (method_call (I.ge _ _ hq) (codeAny_call_def (fd := fnOf name qual params body scope dV kV doc pm an cdv ct) (body := body) (binds := binds) hroom (I.gl.kin _ _ ho) rfl hlim (codeRec_of I.gl.kin hcd) rfl hbind hcell hloc (fun h₁ hns hk₁ => ?_) hco hgen hk))
  refine wpAny_mono (h s.heap.objs.size _ (start (I := I) (s1 := { s with heap := h₁, toks := s.toks + binds.length }) (own := []) hns hk₁ (Nat.le_refl _) rfl rfl (fun x v e => e) (fun _ hp => nomatch hp) .nil)) (fun fl s' q => ?_) fun _ _ x => x.elim
  cases fl <;> exact q
theorem Sp.owGe (S : Sp w c g l own s) (i : Nat) {a : Nat} {P : Obj → Prop} (h : own[i]? = some (a, P)) : c.s0.heap.objs.size ≤ a := (S.ow _ (List.mem_of_getElem? h)).2.2.1
theorem Sp.frzJ {x C dx : Nat} {kvs : List (Str × Value)} (S : Sp w c g l ((x, fun o => o = instObj C dx) :: (dx, DictO w kvs) :: own) s) : ∃ g' od, Ext g g' ∧ g'.get? x = some (instObj C dx) ∧ g'.get? dx = some od ∧ DictO w kvs od ∧ c.s0.heap.objs.size ≤ dx ∧ Sp w c g' l own s := by
  have h0 := S.owGe 1 rfl
  have nd := S.nd
  rw [List.map_cons, List.map_cons, List.nodup_cons, List.nodup_cons] at nd
  obtain ⟨g1, o1, e1, h1, rfl, S1⟩ := S.freeze (own' := (dx, DictO w kvs) :: own) (List.sublist_cons_self ..) (List.Mem.head _) (by rw [List.map_cons]; exact nd.1)
  obtain ⟨g2, o2, e2, h2, hD, S2⟩ := S1.freeze (own' := own) (List.sublist_cons_self ..) (List.Mem.head _) nd.2.1
  exact ⟨g2, o2, e1.trans e2, e2 _ _ h1, h2, hD, h0, S2⟩
end
end Mine
end
section
set_option maxHeartbeats 4000000
namespace Mine
theorem slot_fn_ga : Slot "function" "__getattribute__" "object.__getattribute__" :=
  .of (owner := "object") (n := "__getattribute__") (by rw [typeLookup_type, builtinLookup_eq_fast]; kernel_rfl) (by decide +kernel) (by decide +kernel) (by decide +kernel) (by first | exact .inl (by decide +kernel) | exact .inr (by decide +kernel)) (by rw [isSubtype_type]; kernel_rfl)
theorem fn_class : typeLookup (.type "function") "__class__" = pure (some (.builtin "object.__class__")) := by rw [typeLookup_type, builtinLookup_eq_fast]; kernel_rfl
theorem fn_bool : typeLookup (.type "function") "__bool__" = pure none := by rw [typeLookup_type, builtinLookup_eq_fast]; kernel_rfl
theorem fn_len : typeLookup (.type "function") "__len__" = pure none := by rw [typeLookup_type, builtinLookup_eq_fast]; kernel_rfl
theorem fn_call : typeLookup (.type "function") "__call__" = pure (some (.builtin "function.__call__")) := by rw [typeLookup_type, builtinLookup_eq_fast]; kernel_rfl
theorem fn_sub : isSubtype (.type "function") (.type (".".intercalate ("object.__class__".cutAt '.').dropLast)) = pure true := by
  rw [PySem.F.owner_object_class, isSubtype_type]; kernel_rfl
section
variable {prog : Program} {w : World} {A : Around} {E : Value → Shared → Prop} {h : Heap} {g : Array GenState} {d : Drawn} {t : Nat} {os : OsState} {a : Addr} {o : Obj}
theorem fnc_get {R : Result → Shared → Prop} (hx : h.get? a = some o) (hc : o.cls = .type "function") (hq : R (.ok (.ret (.type "function"))) ⟨h, g, d, t, os⟩) :
    codeAny (model prog w) A (.call (.builtin "getset_descriptor.__get__") ⟨[.builtin "object.__class__", .ref a, .type "function"], []⟩) R ⟨h, g, d, t, os⟩ := by
  have hT : (⟨h, g, d, t, os⟩ : Shared).TypeIs (.ref a) "function" := ⟨_, hx, hc⟩
  have hT5 : (⟨h, g, d, t, os⟩ : Shared).TypeIs (.builtin "object.__class__") "getset_descriptor" := PySem.F.typeOf_object_class
  have f8 := fn_sub
  refine codeAny_call_builtin PySem.F.slot_gs_get.plain PySem.F.entry_gs_get (PySem.F.slot_gs_get.check _ _ _ _ _ _ _ _ hT5 (PySem.F.args_gs_get _ _ _) ?_)
  repeat (any_goals (first | assumption | wp_step))
  refine ⟨Code.quiet_builtin _ (by decide +kernel), codeAny_builtin PySem.F.entry_object_class ?_⟩
  repeat (any_goals (first | assumption | wp_step))
theorem fnc_entry {tk : Tok} {Q : Fin → Shared → Prop} (hx : h.get? a = some o) (hc : o.cls = .type "function") (hq : Q (.done (.ret (.type "function"))) ⟨h, g, d, t, os⟩) :
    wpAny (model prog w) A (Builtin.«object.__getattribute__» ⟨[.ref a, .str "__class__" tk], []⟩) Q E ⟨h, g, d, t, os⟩ := by
  have hT : (⟨h, g, d, t, os⟩ : Shared).TypeIs (.ref a) "function" := ⟨_, hx, hc⟩
  have hT5 : (⟨h, g, d, t, os⟩ : Shared).TypeIs (.builtin "object.__class__") "getset_descriptor" := PySem.F.typeOf_object_class
  have f4 := fn_class
  have f5 := PySem.F.typeOf_object_class
  have f6 := PySem.F.slot_gs_get.lookup
  have f7 := PySem.F.slot_gs_set.lookup
  repeat (any_goals (first | assumption | wp_step))
  refine fnc_get hx hc ?_
  repeat (any_goals (first | assumption | wp_step))
theorem fnc_by {tk : Tok} {Q : Value → Shared → Prop} (hx : h.get? a = some o) (hc : o.cls = .type "function") (hq : Q (.type "function") ⟨h, g, d, t, os⟩) : wpAny (model prog w) A (getAttrBy (.ref a) (.str "__class__" tk) false) Q E ⟨h, g, d, t, os⟩ := by
  have hT : (⟨h, g, d, t, os⟩ : Shared).TypeIs (.ref a) "function" := ⟨_, hx, hc⟩
  have f2 := slot_fn_ga.lookup
  have f3 := slot_fn_ga.bind (.ref a)
  repeat (any_goals (first | assumption | wp_step))
  refine codeAny_call_builtin slot_fn_ga.plain PySem.F.entry_object_getattribute (slot_fn_ga.check _ _ _ _ _ _ _ _ (show (⟨h, g, d, t, os⟩ : Shared).TypeIs (.ref a) "function" from ⟨_, hx, hc⟩) (PySem.F.args_object_getattribute_2 _ _) (fnc_entry hx hc ?_))
  repeat (any_goals (first | assumption | wp_step))
theorem fnc_attr {Q : Option Value → Shared → Prop} (hx : h.get? a = some o) (hc : o.cls = .type "function") (hq : Q (some (.type "function")) ⟨h, g, d, t + 1, os⟩) : wpAny (model prog w) A (getAttr? (.ref a) "__class__") Q E ⟨h, g, d, t, os⟩ := by
  unfold getAttr? getAttrBy?
  repeat (any_goals (first | assumption | with_reducible apply fnc_by hx hc | wp_step))
theorem kitx_fn {K : Frag} {a : Addr} : KitX K (.ref a) (.type "function") (KitAt a "function") := kitx_of kitAt_ty (fun {_ _ _ _ _ s} p k => by obtain ⟨h, g, d, t, os⟩ := s; obtain ⟨o, h1, h2⟩ := p; exact fnc_attr h1 h2 k)
end
section
variable {w : World} {c : Cx} {g : Heap} {l : List (Str × Value)} {own : Own} {s : Shared} {A : Around} {E : Value → Shared → Prop} {env : Env} {gp : Heap}
theorem tF {a : Nat} {Q : Bool → Shared → Prop} (hT : s.TypeIs (.ref a) "function") (h : Q true s) : wpAny (MD w) A (PySem.truthy (.ref a)) Q E s := by
  unfold PySem.truthy callSpecial?
  refine wpAny_bind (wpAny_bind (wpAny_specialOf hT fn_bool (wpAny_pure ?_)))
  exact wpAny_bind (wpAny_specialOf hT fn_len (wpAny_pure h))
theorem isiP {x t : Value} {H : Heap → Prop} {b : Bool} {T1 T2 : Value} {tp : Nat} {Q : Value → Shared → Prop} (S : Sp w c g l own s) (Z : KitX (hd.heap_39 w.params) x t H) (p : H s.heap) (htp : IsT s.heap tp [T1, T2]) (e : kitAny (hd.heap_39 w.params) t [T1, T2] = some b) (hx : x ≠ .builtin "__main__.__loader__#opaque")
  (h : ∀ s', Sp w c g l own s' → Q (.bool b) s') : wpAny (MD w) A (call (.builtin "isinstance") [x, .ref tp]) Q E s := by
  obtain ⟨n, ht⟩ := htp
  exact kia_tup Z S.gl.kin p ht e hx fun _ => h _ (S.tk rfl rfl rfl)
theorem tyFn {f : Nat} {o : Obj} (X : (K w).In s.heap) (h : (hd.heap_39 w.params).lookup f = some o) (hc : o.cls = .type "function") : s.TypeIs (.ref f) "function" := ⟨o, X _ _ h, hc⟩
end
end Mine
end
section
set_option maxHeartbeats 4000000
namespace Mine
section
variable {w : World} {c : Cx} {g : Heap} {l : List (Str × Value)} {own : Own} {s : Shared} {A : Around} {E : Value → Shared → Prop} {env : Env} {gp : Heap}
theorem Sp.frzL {a : Nat} {vs : List Value} (S : Sp w c g l ((a, ListP vs) :: own) s) : ∃ g', Ext g g' ∧ IsL g' a vs ∧ Sp w c g' l own s := by
  have nd := S.nd
  rw [List.map_cons, List.nodup_cons] at nd
  obtain ⟨g', o, e, ha, ⟨n, rfl⟩, S2⟩ := S.freeze (own' := own) (List.sublist_cons_self ..) (List.Mem.head _) nd.1
  exact ⟨g', e, ⟨n, ha⟩, S2⟩
theorem Sp.frzD {a : Nat} {kvs : List (Str × Value)} (S : Sp w c g l ((a, DictO w kvs) :: own) s) : ∃ g', Ext g g' ∧ IsD w g' a kvs ∧ Sp w c g' l own s := by
  have n1 := (S.isD 0 rfl).2
  have nd := S.nd
  rw [List.map_cons, List.nodup_cons] at nd
  obtain ⟨g', o, e, ha, hD, S2⟩ := S.freeze (own' := own) (List.sublist_cons_self ..) (List.Mem.head _) nd.1
  exact ⟨g', e, ⟨⟨o, ha, hD⟩, n1⟩, S2⟩
theorem addL {a b : Nat} {vs us : List Value} {Q : Value → Shared → Prop} (S : Sp w c g l own s) (ha : IsL s.heap a vs) (hb : IsL s.heap b us) (hz : vs.length + us.length ≤ 1000) (h : ∀ s' a, Sp w c g l ((a, ListP (vs ++ us)) :: own) s' → Q (.ref a) s') : wpAny (MD w) A (binaryOp .Add (.ref a) (.ref b)) Q E s := by
  obtain ⟨n, ha⟩ := ha
  obtain ⟨m, hb⟩ := hb
  refine PySem.P.add_list (n := n) (n2 := m) ha hb ?_ ?_
  · exact h _ _ (S.push rfl ⟨0, by simp [listO]⟩ rfl rfl rfl)
  · rw [sizeLine_eq]; simp; omega
theorem while0 {test : Expr} {body orelse : List Stmt} {pos : Pos} {Q : Flow → Shared → Prop} (h : ∀ E', wpAny (MD w) A (isTrue test env (eval test env)) (fun b s₂ => b = false ∧ ∀ E', wpAny (MD w) A (execs orelse env) Q E' s₂) E' s) : wpAny (MD w) A (exec (.While test body orelse pos) env) Q E s := by
  refine wpAny_While (codeAny_whileLoop (fun _ s' => s' = s) ?_ 0 rfl)
  rintro n s' rfl
  refine wpAny_mono (h _) (fun b s2 hb => ?_) fun _ _ e => e
  obtain ⟨rfl, hb⟩ := hb
  exact hb _
variable {x : Str} {px : Pos} {elt iter : Expr} {ifs : List Expr} {scope : Scope} {cl : List (Str × Addr)} {pos : Pos} {Q : Value → Shared → Prop}
theorem lcB {a : Nat} {vs : List Value} {RR : Value → Addr → Result → Shared → Prop} (it : ∀ Q : Value → Shared → Prop, Itr w A (.Name x px) c g l own vs.length (fun i v _ => vs[i]? = some v) Q → wpAny (MD w) A (pyIter (.ref a)) Q E s)
    (hcell : ∀ y ∈ scope.names, y.2 ≠ .cell) (hkind : scope.kind = .function) (hx : ∀ C, (compEnvC scope cl C env).kindOf x = some .local) (hif : ifs.length ≤ 1) (hn : vs.length ≤ sizeLine)
    (Inv : Nat → List Value → Heap → Own → Prop) (i0 : Inv 0 [] g own)
    (turn : ∀ C D k its v ys g' l' own' s' E', vs[k]? = some v → ys.length ≤ k → Ext g g' → Inv k ys g' own' → Sp w ⟨c.s0, c.gp, C⟩ g' ((x, v) :: l') ((c.L, NsP l) :: (D, ListP ys) :: own' ++ itO its) s' →
      turnQ (MD w) A ifs elt (compEnvC scope cl C env) (fun y s'' => ∃ g'' l'' own'', Ext g' g'' ∧ Inv (k + 1) (ys ++ [y]) g'' own'' ∧ Sp w ⟨c.s0, c.gp, C⟩ g'' l'' ((c.L, NsP l) :: (D, ListP ys) :: own'' ++ itO its) s'')
        (fun s'' => ∃ g'' l'' own'', Ext g' g'' ∧ Inv (k + 1) ys g'' own'' ∧ Sp w ⟨c.s0, c.gp, C⟩ g'' l'' ((c.L, NsP l) :: (D, ListP ys) :: own'' ++ itO its) s'') E' s')
    (fin : ∀ C lC D ys g' own' s', Ext g g' → Inv vs.length ys g' own' → Sp w c g' l ((D, ListP ys) :: own' ++ [(C, NsP lC)]) s' → RR (.ref D) C (.ok .next) s') :
    wpAny (MD w) A (pyIter (.ref a)) (fun it s₂ => wpAny (MD w) A (newList []) (fun acc s₃ => wpAny (MD w) A (newFunctionEnv scope env.globals cl [] env.qual none .none (some env)) (fun cenv s₄ =>
      codeAny (MD w) A (.compStart (.ListComp elt [⟨.Name x px, iter, ifs, 0⟩] scope pos) 0 it acc { cenv with scope := relabel scope env }) (RR acc cenv.locals) s₄) E s₃) E s₂) E s :=
  it _ fun I fp wr Md St its s1 T a S1 st => compBlk (env := env) T a S1 st hcell hkind (fun C => asg1 rfl (hx C) (by show ((relabel scope env).kind == .class || ((relabel scope env).kind == .module && _)) = false; unfold relabel; rw [hkind]; rfl)) hif hn Inv i0
    (fun C D k its b ys g' l' own' s' E' h1 h2 h3 h4 h5 h6 => by obtain ⟨v, rfl, hv⟩ := h5; exact turn C D k its v ys g' l' own' s' E' hv h2 h3 h4 h6) fin
theorem turn0 {M : Model} {cenv : Env} {yes : Value → Shared → Prop} {no : Shared → Prop} (h : wpAny M A (eval elt cenv) yes E s) : turnQ M A [] elt cenv yes no E s := h
theorem turn1 {M : Model} {cenv : Env} {t : Expr} {yes : Value → Shared → Prop} {no : Shared → Prop} (h : wpAny M A (isTrue t cenv (eval t cenv)) (fun ok s₃ => if ok = true then wpAny M A (eval elt cenv) yes E s₃ else no s₃) E s) : turnQ M A [t] elt cenv yes no E s := h
end
end Mine
end
section
set_option maxHeartbeats 4000000
namespace Mine
section
variable {w : World} {c : Cx} {g : Heap} {l : List (Str × Value)} {own : Own} {s : Shared} {A : Around} {E : Value → Shared → Prop} {env : Env} {gp : Heap}
theorem nmF {x : Str} {pos : Pos} {a : Nat} {v : Value} {Q : Value → Shared → Prop} (S : Sp w c g l own s) (hg : ∃ o, g.get? a = some o ∧ CellP (some v) o) (hc : env.cells.lookup x = some a) (h : Q v s)
    (hk : env.scope.kind = .function := by rfl) (hl : env.kindOf x = some .free := by kernel_rfl) (hd : (x == ("__debug__" : Str)) = false := by kernel_rfl) (hd2 : (x == ("__classdict__" : Str)) = false := by kernel_rfl) : wpAny (MD w) A (eval (.Name x pos) env) Q E s := by
  obtain ⟨o, ho, hP⟩ := hg
  exact wpAny_Name (wpAny_loadName_free hk hl hc ⟨o, S.ge _ _ ho, hP⟩ h hd2) hd
theorem nmG {x : Str} {pos : Pos} {a : Nat} {v : Value} {Q : Value → Shared → Prop} (S : Sp w c g l own s) (hg : ∃ o, g.get? a = some o ∧ CellP (some v) o) (hc : env.cells.lookup x = some a) (h : Q v s)
    (hk : env.scope.kind = .function := by rfl) (hl : env.kindOf x = some .cell := by kernel_rfl) (hd : (x == ("__debug__" : Str)) = false := by kernel_rfl) : wpAny (MD w) A (eval (.Name x pos) env) Q E s := by
  obtain ⟨o, ho, hP⟩ := hg
  exact wpAny_Name (wpAny_loadName_cell hk hl hc ⟨o, S.ge _ _ ho, hP⟩ h) hd
theorem enterL {f : Nat} {name qual : Str} {params : Arguments} {body : Expr} {scope : Scope} {clos : List (Str × Addr)} {pm ctv : Value} {c' : Nat} {Q : Value → Shared → Prop}
    (I : In w gp s) (hroom : A.depth < recursionLimit) (ho : gp.get? f = some (kla_obj name qual params body scope clos pm c' ctv)) (hcd : gp.CodeRec (.ref c') qual)
    (hbind : BindsTo s (kla_fn name qual params body scope clos pm (.ref c') ctv) ⟨[], []⟩ [])
    (h : ∀ L s1, Sp w ⟨s, gp, L⟩ gp [] [] s1 → wpAny (MD w) (A.deeper (newEnv scope L mainGlobals clos (qual ++ ".<locals>.") (some f) (.ref c') none builtinsNs)) (eval body (newEnv scope L mainGlobals clos (qual ++ ".<locals>.") (some f) (.ref c') none builtinsNs)) Q (fun _ _ => False) s1)
    (hcell : ∀ x ∈ scope.names, x.2 ≠ .cell) (hco : scope.isCoroutine = false) (hgen : scope.isGenerator = false) (hk : scope.kind = .function) : wpAny (MD w) A (call (.ref f) [] []) Q E s := by
  have hlim : s.heap.NoLimit := ⟨_, .of_isNs (isNs_of_in (N := cStatics) I.gl.kin (by kernel_rfl)), nsMap_none_of_in I.gl.kin (by kernel_rfl) (by kernel_rfl)⟩
  refine wpAny_call (kla_callFunE hroom (I.ge _ _ ho) rfl hco hgen rfl (hcd.keeps I.ge) (hbind _ _ _ _ ?_))
  refine wpAny_newFunctionEnv hcell (by intro x hx; cases hx) (fun h₀ hns hsb => ⟨hlim.fresh _ hsb, kla_codeExpr ?_⟩) hk
  have hk0 : ∀ b o, s.heap.get? b = some o → h₀.get? b = some o := fun b o e => hsb.extBut b o (Nat.ne_of_lt (Heap.lt_size e)) (Heap.get?_push_of_some _ e)
  refine wpAny_mono (h s.heap.objs.size _ (start (I := I) (s1 := { s with heap := h₀, toks := s.toks + ([] : List (Str × Value)).length }) (own := []) hns hk0 (Nat.le_refl _) rfl rfl (fun x v e => e) (fun _ hp => nomatch hp) .nil)) (fun v s' q => q) fun _ _ x => x.elim
def Fac (w : World) (g : Heap) (f : Nat) (v : Value) : Prop := (∃ (o : Obj) (fd : FuncData), g.get? f = some o ∧ o.data = .func fd) ∧ ∀ {g' : Heap} {s' : Shared} {A : Around}, Ext g g' → In w g' s' → A.depth < 950 → Con w A (.ref f) [] [] g' s' fun g r => ∃ a, r = .ref a ∧ IsL g a [v]
theorem Fac.mono {g g' : Heap} {f : Nat} {v : Value} (F : Fac w g f v) (e : Ext g g') : Fac w g' f v := ⟨let ⟨o, fd, a, b⟩ := F.1; ⟨o, fd, e _ _ a, b⟩, fun e' I h => F.2 (e.trans e') I h⟩
theorem Sp.frz1 {a : Nat} {P : Obj → Prop} (S : Sp w c g l ((a, P) :: own) s) : ∃ g' o, Ext g g' ∧ g'.get? a = some o ∧ P o ∧ Sp w c g' l own s := by
  have nd := S.nd
  rw [List.map_cons, List.nodup_cons] at nd
  obtain ⟨g', o, e, ha, hP, S2⟩ := S.freeze (own' := own) (List.sublist_cons_self ..) (List.Mem.head _) nd.1
  exact ⟨g', o, e, ha, hP, S2⟩
end
end Mine
end
section
set_option maxHeartbeats 4000000
namespace Mine
section
variable {w : World} {c : Cx} {g : Heap} {l : List (Str × Value)} {own : Own} {s : Shared} {A : Around} {E : Value → Shared → Prop} {env : Env} {gp : Heap} {a b : Int} {t u : Tok} {x y : Str} {Q : Value → Shared → Prop}
theorem iAdd (S : Sp w c g l own s) (h : ∀ s' t', Sp w c g l own s' → Q (.int (a + b) t') s') : wpAny (MD w) A (binaryOp .Add (.int a t) (.int b u)) Q E s := PyProof.Rows.add_int (h _ _ (S.tk (s' := { s with toks := s.toks + 1 }) rfl rfl rfl))
theorem iMod (S : Sp w c g l own s) (hb : b ≠ 0) (h : ∀ s' t', Sp w c g l own s' → Q (.int (a.fmod b) t') s') : wpAny (MD w) A (binaryOp .Mod (.int a t) (.int b u)) Q E s := PyProof.Rows.mod_int' hb (h _ _ (S.tk (s' := { s with toks := s.toks + 1 }) rfl rfl rfl))
theorem iDiv (S : Sp w c g l own s) (hb : b ≠ 0) (hs : b.natAbs < 1073741824) (h : ∀ s' t', Sp w c g l own s' → Q (.int (a.fdiv b) t') s') : wpAny (MD w) A (binaryOp .FloorDiv (.int a t) (.int b u)) Q E s := PyProof.Rows.floordiv_int hb (h _ _ (S.tk (s' := { s with toks := s.toks + 1 }) rfl rfl rfl)) (.inl (PyProof.noPylong_small hs))
theorem iPow {n : Int} (S : Sp w c g l own s) (hn : 0 ≤ n) (hn2 : n ≤ 1000000) (ha : a.natAbs < 2 ^ 64) (h : ∀ s' t', Sp w c g l own s' → Q (.int (a ^ n.toNat) t') s') : wpAny (MD w) A (binaryOp .Pow (.int a t) (.int n u)) Q E s := PyProof.Rows.pow_int_small hn hn2 ha (h _ _ (S.tk (s' := { s with toks := s.toks + 1 }) rfl rfl rfl))
theorem iEq (h : Q (.bool (a == b)) s) : wpAny (MD w) A (compareOp .Eq (.int a t) (.int b u)) Q E s := PyProof.Rows.eq_int h
theorem iNe (h : Q (.bool (a != b)) s) : wpAny (MD w) A (compareOp .NotEq (.int a t) (.int b u)) Q E s := PyProof.Rows.ne_int h
theorem iGt (h : Q (.bool (decide (b < a))) s) : wpAny (MD w) A (compareOp .Gt (.int a t) (.int b u)) Q E s := PyProof.Rows.gt_int h
theorem iLt (h : Q (.bool (decide (a < b))) s) : wpAny (MD w) A (compareOp .Lt (.int a t) (.int b u)) Q E s := PyProof.Rows.lt_int h
theorem sEq (h : Q (.bool (x == y)) s) : wpAny (MD w) A (compareOp .Eq (.str x t) (.str y u)) Q E s := PyProof.Rows.eq_str h
theorem sNe (h : Q (.bool (x != y)) s) : wpAny (MD w) A (compareOp .NotEq (.str x t) (.str y u)) Q E s := PyProof.Rows.ne_str h
theorem sAdd (S : Sp w c g l own s) (hz : x.length + y.length ≤ 1000) (h : ∀ s' t', Sp w c g l own s' → Q (.str (x ++ y) t') s') : wpAny (MD w) A (binaryOp .Add (.str x t) (.str y u)) Q E s :=
  PyProof.Rows.add_str (fun t' tk => h _ _ (S.tk (s' := { s with toks := tk }) rfl rfl rfl)) (by rw [sizeLine_eq]; omega)
theorem stS {k : Nat} {cp : Nat} {value slice : Expr} (S : Sp w c g l own s) (hk : x.cps[k]? = some cp) (hz : (k : Int) < 2 ^ 62) (h : ∀ s' t', Sp w c g l own s' → Q (.str ⟨#[cp]⟩ t') s')
    (hs : subscripted slice false (.str x t) (.int k u) = operate [.str x t, .int k u] (getItem (.str x t) (.int k u)) := by with_unfolding_all rfl) : wpAny (MD w) A (subscriptTail value slice (.str x t) (.int k u)) Q E s := by
  refine tail_any (typeIs_str s x t) PyProof.Rows.slot_str_getitem.lookup (PySem.P.getItem_str (c := cp) ?_ ?_ (h _ _ (S.tk (s' := { s with toks := s.toks + 1 }) rfl rfl rfl))) hs
  · simp; omega
  · have hlt : k < x.length := (Array.getElem?_eq_some_iff.mp hk).1
    have : seqIndex? (k : Int) x.length = some k := by
      have e : ¬ ((k : Int) < 0) := by omega
      simp [seqIndex?, e, hlt]
    rw [this]; exact hk
theorem mLo {a i : Nat} {vs : List Value} {pl : Sem Bool} {Q : Value × List Value → Shared → Prop} (S : Sp w c g l own s) (hi : own[i]? = some (a, ListP vs)) (h : Q (.builtin "list.append", [.ref a]) s) : wpAny (MD w) A (getMethod (.ref a) "append" pl) Q E s := by
  obtain ⟨o, ho, n, rfl⟩ := S.at i hi
  exact mL ⟨n, ho⟩ h
theorem ite_merge {α : Type} {M : Model} {b : Bool} {m1 m2 : Sem α} {P Q : α → Shared → Prop} (h1 : b = true → wpAny M A m1 P E s) (h2 : b = false → wpAny M A m2 P E s) (k : ∀ v s', P v s' → Q v s') : if b = true then wpAny M A m1 Q E s else wpAny M A m2 Q E s := by
  cases b with
  | true => rw [if_pos rfl]; exact wpAny_mono (h1 rfl) k fun _ _ e => e
  | false => rw [if_neg (by decide)]; exact wpAny_mono (h2 rfl) k fun _ _ e => e
theorem iteS {b : Bool} {m1 m2 : Sem Value} (V : Value → Prop) (S : Sp w c g l own s) (h1 : b = true → wpAny (MD w) A m1 (fun v s' => V v ∧ Sp w c g l own s') E s) (h2 : b = false → wpAny (MD w) A m2 (fun v s' => V v ∧ Sp w c g l own s') E s) (k : ∀ v s', V v → Sp w c g l own s' → Q v s') : if b = true then wpAny (MD w) A m1 Q E s else wpAny (MD w) A m2 Q E s :=
  ite_merge h1 h2 fun v s' ⟨a, b⟩ => k v s' a b
theorem cwT {pos : Pos} {T : String} {e : Expr} {rest : List Expr} {Q : Value → Shared → Prop} (h : wpAny (MD w) A (spliced (backTo pos (starEach (e :: rest) env))) (fun vs s₁ => wpAny (MD w) A (call (.type T) vs) Q E s₁) E s)
    (he : starEach (e :: rest) env = (false, eval e env) :: starEach rest env := by rfl) (hplain : (backTo pos (starEach rest env)).any (·.1) = false := by rfl) : wpAny (MD w) A (callWith pos (.type T) [] (backTo pos (starEach (e :: rest) env)) []) Q E s := PyProof.Rows.callWith_type1 h he hplain
end
structure Row where
  na : Str
  al : Str
  kd : Nat
  kw : Bool
  cv : Bool
def letter (k : Nat) : Str := ⟨#[97 + k]⟩
def RowAt (g : Heap) (v : Value) (r : Row) : Prop := ∃ (a : Nat) (t1 t2 t3 : Tok), v = .ref a ∧ IsT g a [.str r.na t1, .str r.al t2, .int r.kd t3, .bool r.kw, .bool r.cv]
theorem RowAt.mono {g g' : Heap} {v : Value} {r : Row} (h : RowAt g v r) (e : Ext g g') : RowAt g' v r := let ⟨a, t1, t2, t3, x, y⟩ := h; ⟨a, t1, t2, t3, x, y.mono e⟩
def RowK (i : Nat) (r : Row) : Prop := i < 5 ∧ r.al = letter i ∧ (r.na = letter i ∨ r.na = ("_" : Str) ++ letter i) ∧ r.kd < 4
def IntAt (v : Value) (d : Int) : Prop := ∃ t, v = .int d t
end Mine
end
section
set_option maxHeartbeats 4000000
namespace Mine
def Ix {α β : Type} (R : Nat → α → β → Prop) (as : List α) (bs : List β) : Prop := as.length = bs.length ∧ ∀ i a b, as[i]? = some a → bs[i]? = some b → R i a b
theorem Ix.nil {α β : Type} {R : Nat → α → β → Prop} : Ix R [] [] := ⟨rfl, fun i a b e => by cases e⟩
theorem Ix.imp {α β : Type} {R R' : Nat → α → β → Prop} {as : List α} {bs : List β} (h : Ix R as bs) (f : ∀ i a b, R i a b → R' i a b) : Ix R' as bs := ⟨h.1, fun i a b x y => f i a b (h.2 i a b x y)⟩
theorem Ix.get {α β : Type} {R : Nat → α → β → Prop} {as : List α} {bs : List β} (h : Ix R as bs) {i : Nat} {b : β} (e : bs[i]? = some b) : ∃ a, as[i]? = some a ∧ R i a b := by
  have hl := (List.getElem?_eq_some_iff.mp e).1
  rw [← h.1] at hl
  exact ⟨as[i], List.getElem?_eq_getElem hl, h.2 i _ _ (List.getElem?_eq_getElem hl) e⟩
theorem Ix.get' {α β : Type} {R : Nat → α → β → Prop} {as : List α} {bs : List β} (h : Ix R as bs) {i : Nat} {a : α} (e : as[i]? = some a) : ∃ b, bs[i]? = some b ∧ R i a b := by
  have hl := (List.getElem?_eq_some_iff.mp e).1
  rw [h.1] at hl
  exact ⟨bs[i], List.getElem?_eq_getElem hl, h.2 i _ _ e (List.getElem?_eq_getElem hl)⟩
theorem Ix.snoc {α β : Type} {R : Nat → α → β → Prop} {as : List α} {bs : List β} (h : Ix R as bs) {a : α} {b : β} (r : R bs.length a b) : Ix R (as ++ [a]) (bs ++ [b]) := by
  refine ⟨by simp [h.1], fun i x y e1 e2 => ?_⟩
  rw [List.getElem?_append] at e1 e2
  rw [h.1] at e1
  by_cases hi : i < bs.length
  · rw [if_pos hi] at e1 e2; exact h.2 i x y e1 e2
  · rw [if_neg hi] at e1 e2
    have h0 : i - bs.length = 0 := by
      have := (List.getElem?_eq_some_iff.mp e1).1
      simpa using this
    rw [h0] at e1 e2
    simp at e1 e2
    subst e1 e2
    have : i = bs.length := by omega
    rw [this]; exact r
theorem take_snoc {α : Type} {l : List α} {k : Nat} {a : α} (h : l[k]? = some a) : l.take (k + 1) = l.take k ++ [a] := by
  rw [List.take_succ, h]; rfl
theorem put_new (x : Str) (v : Value) : ∀ (kvs : List (Str × Value)), x ∉ kvs.map (·.1) → put x v kvs = kvs ++ [(x, v)]
  | [], _ => rfl
  | (y, u) :: r, h => by
    simp only [List.map_cons, List.mem_cons, not_or] at h
    unfold put
    rw [if_neg (fun z => h.1 z.symm), put_new x v r h.2]; rfl
def cvV (r : Row) : Value := if r.cv = true then .ref 500 else .none
def kwV (r : Row) : Value := if r.kw = true then .bool true else .none
def iniB (r : Row) : Bool := decide (r.kd ≠ 3)
def DefAt (w : World) (g : Heap) (d : Value) (k : Nat) (r : Row) : Prop :=
  (r.kd = 0 ∧ d = .ref 70) ∨ (r.kd = 2 ∧ ∃ (F f : Nat) (kvF : List (Str × Value)) (t : Tok), d = .ref F ∧ IsInst w g F 370 kvF ∧ kvF.lookup ("factory" : Str) = some (.ref f) ∧ kvF.lookup ("takes_self" : Str) = some (.bool false) ∧ Fac w g f (.int k t)) ∨ ((r.kd = 1 ∨ r.kd = 3) ∧ ∃ t, d = .int (50 + k) t)
theorem DefAt.mono {w : World} {g g' : Heap} {d : Value} {k : Nat} {r : Row} (h : DefAt w g d k r) (e : Ext g g') : DefAt w g' d k r := by
  rcases h with h | ⟨h, F, f, kvF, t, h1, h2, h3, h4, h5⟩ | h
  · exact .inl h
  · exact .inr (.inl ⟨h, F, f, kvF, t, h1, h2.mono e, h3, h4, h5.mono e⟩)
  · exact .inr (.inr h)
theorem DefAt.handed {w : World} {g : Heap} {d : Value} {k : Nat} {r : Row} (h : DefAt w g d k r) : handedIn d = true := by
  rcases h with ⟨_, rfl⟩ | ⟨_, F, f, kvF, t, rfl, _⟩ | ⟨_, t, rfl⟩ <;> rfl
structure CntK (kvs : List (Str × Value)) (d va it cv kw : Value) : Prop where
  default : kvs.lookup ("_default" : Str) = some d
  validator : kvs.lookup ("_validator" : Str) = some va
  init : kvs.lookup ("init" : Str) = some it
  converter : kvs.lookup ("converter" : Str) = some cv
  kw_only : kvs.lookup ("kw_only" : Str) = some kw
  eq : kvs.lookup ("eq" : Str) = some (.bool true)
  eq_key : kvs.lookup ("eq_key" : Str) = some .none
  order : kvs.lookup ("order" : Str) = some (.bool true)
  order_key : kvs.lookup ("order_key" : Str) = some .none
  on_setattr : kvs.lookup ("on_setattr" : Str) = some .none
  «alias» : kvs.lookup ("alias" : Str) = some .none
structure AttrK (kvs : List (Str × Value)) (na d it cv kw al : Value) : Prop where
  name : kvs.lookup ("name" : Str) = some na
  default : kvs.lookup ("default" : Str) = some d
  validator : kvs.lookup ("validator" : Str) = some .none
  eq : kvs.lookup ("eq" : Str) = some (.bool true)
  eq_key : kvs.lookup ("eq_key" : Str) = some .none
  order : kvs.lookup ("order" : Str) = some (.bool true)
  init : kvs.lookup ("init" : Str) = some it
  converter : kvs.lookup ("converter" : Str) = some cv
  kw_only : kvs.lookup ("kw_only" : Str) = some kw
  «alias» : kvs.lookup ("alias" : Str) = some al
  len : al = .none → kvs.length ≤ 20
def CaAt (w : World) (g : Heap) (v : Value) (k : Nat) (r : Row) : Prop := ∃ (x : Nat) (kvs : List (Str × Value)) (d : Value), v = .ref x ∧ IsInst w g x 348 kvs ∧ DefAt w g d k r ∧ CntK kvs d .none (.bool (iniB r)) (cvV r) (kwV r)
theorem CaAt.mono {w : World} {g g' : Heap} {v : Value} {k : Nat} {r : Row} (h : CaAt w g v k r) (e : Ext g g') : CaAt w g' v k r := let ⟨x, kvs, d, a, b, c, f⟩ := h; ⟨x, kvs, d, a, b.mono e, c.mono e, f⟩
def AtAt (w : World) (g : Heap) (v : Value) (k : Nat) (r : Row) : Prop := ∃ (x : Nat) (kvs : List (Str × Value)) (d : Value) (t1 t2 : Tok), v = .ref x ∧ IsInst w g x 313 kvs ∧ DefAt w g d k r ∧ AttrK kvs (.str r.na t1) d (.bool (iniB r)) (cvV r) (.bool r.kw) (.str r.al t2)
theorem AtAt.mono {w : World} {g g' : Heap} {v : Value} {k : Nat} {r : Row} (h : AtAt w g v k r) (e : Ext g g') : AtAt w g' v k r := let ⟨x, kvs, d, t1, t2, a, b, c, f⟩ := h; ⟨x, kvs, d, t1, t2, a, b.mono e, c.mono e, f⟩
structure RowsOK (rows : List Row) : Prop where
  len : rows.length ≤ 5
  row : ∀ r ∈ rows, ∃ i, RowK i r
  al : (rows.map (·.al)).Nodup
  na : (rows.map (·.na)).Nodup
  ord : ∀ (i j : Nat) (ri rj : Row), i < j → rows[i]? = some ri → rows[j]? = some rj → rj.kd = 0 → ri.kd = 0
def KindAt (w : World) (g : Heap) (v : Value) (rows : List Row) : Prop := ∃ (x M T EQ OR : Nat) (n : Value) (avs : List Value), v = .ref x ∧ IsInst w g x 142 [("name", n), ("mro", .ref M), ("attrs", .ref T), ("eq_attrs", .ref EQ), ("order_attrs", .ref OR)] ∧ IsL g M [.ref x] ∧ IsT g T avs ∧ IsL g EQ avs ∧ Ix (fun i v r => AtAt w g v i r) avs rows
end Mine
end
section
set_option maxHeartbeats 4000000
namespace Mine
theorem Ix.keys {α β : Type} {R : Nat → α → β → Prop} {f : α → Str} {h : β → Str} {as : List α} {bs : List β} (H : Ix R as bs) (k : ∀ i a b, R i a b → f a = h b) : as.map f = bs.map h := by
  apply List.ext_getElem?
  intro i
  rw [List.getElem?_map, List.getElem?_map]
  cases e : as[i]? with
  | none =>
    have : bs[i]? = none := by
      rw [List.getElem?_eq_none_iff] at e ⊢; rw [← H.1]; exact e
    rw [this]; rfl
  | some a =>
    obtain ⟨b, hb, r⟩ := H.get' e
    rw [hb]; simp [k i a b r]
theorem nodup_take {α : Type} {f : α → Str} {l : List α} {k : Nat} {a : α} (nd : (l.map f).Nodup) (h : l[k]? = some a) : f a ∉ (l.take k).map f := by
  intro hm
  obtain ⟨b, hb, e⟩ := List.mem_map.mp hm
  obtain ⟨j, hj⟩ := List.getElem?_of_mem hb
  rw [List.getElem?_take] at hj
  split at hj
  · rename_i hjk
    have h1 : (l.map f)[j]? = some (f b) := by rw [List.getElem?_map, hj]; rfl
    have h2 : (l.map f)[k]? = some (f a) := by rw [List.getElem?_map, h]; rfl
    rw [e] at h1
    have := nodup_idx nd h1 h2
    omega
  · cases hj
theorem take_len {α : Type} {l : List α} {k : Nat} {a : α} (h : l[k]? = some a) : (l.take k).length = k := by
  have := (List.getElem?_eq_some_iff.mp h).1
  rw [List.length_take]; omega
theorem take_all' {α : Type} {l : List α} {n : Nat} (h : n = l.length) : l.take n = l := by subst h; exact List.take_length ..
end Mine
end
section
set_option maxHeartbeats 4000000
namespace Mine
section
variable {w : World} {c : Cx} {g : Heap} {l : List (Str × Value)} {own : Own} {s : Shared} {A : Around} {E : Value → Shared → Prop} {env : Env} {gp : Heap}
theorem slc {lower upper : Option Expr} {p : Pos} {Q : Value → Shared → Prop} (h : wpAny (MD w) A (evalPart lower env) (fun vl s1 => wpAny (MD w) A (evalPart upper env) (fun vu s2 => ∃ c g l own, Sp w c g l own s2 ∧ ∀ s3 sl, Sp w c g l own s3 → s3.heap.IsSliceOf sl vl vu .none → Q (.ref sl) s3) E s1) E s) : wpAny (MD w) A (eval (.Slice lower upper none p) env) Q E s := by
  refine wpAny_Slice (wpAny_mono h (fun vl s1 h1 => wpAny_mono h1 (fun vu s2 h2 => ?_) fun _ _ e => e) fun _ _ e => e)
  obtain ⟨c, g, l, own, S, k⟩ := h2
  refine wpAny_evalPart_none (k _ _ ?_ (Heap.IsSliceOf.new ..))
  exact (S.push (P := fun _ => True) (o := { cls := .type "slice", data := .fields #[vl, vu, .none] }) (s' := { s2 with heap := s2.heap.push { cls := .type "slice", data := .fields #[vl, vu, .none] } }) rfl trivial rfl rfl rfl).weakO (List.sublist_cons_self ..)
theorem stLs {a sl : Nat} {vs : List Value} {vl vu : Value} {lo hi : Option Int} {value : Expr} {lower upper : Option Expr} {p : Pos} {Q : Value → Shared → Prop} (S : Sp w c g l own s) (ha : IsL s.heap a vs) (hs : s.heap.IsSliceOf sl vl vu .none) (pl : IsPart vl lo) (pu : IsPart vu hi) (hz : vs.length ≤ 1000)
    (h : ∀ s' b, Sp w c g l ((b, ListP (slicePick vs.toArray lo hi none).toList) :: own) s' → Q (.ref b) s') : wpAny (MD w) A (subscriptTail value (.Slice lower upper none p) (.ref a) (.ref sl)) Q E s := by
  refine tail_any (ops := [.ref sl, .ref a]) ha.list.typeIs slot_list_getitem.lookup (wpAny_getItem_list_slice ha.list hs pl pu .none (by decide) ?_ (by rw [List.size_toArray, sizeLine_eq]; omega)) rfl
  exact h _ _ (S.push (o := { cls := .type "list", data := .seq (slicePick vs.toArray lo hi none) }) rfl ⟨0, by simp [listO]⟩ rfl rfl rfl)
def SetP (w : World) (k : Nat) (o : Obj) : Prop := ∃ (F : Str → Bool) (n : Nat) (es : _) (ep : _) (t : _), n ≤ k ∧ o.ExactSet ∧ o.data = .set es ep t ∧ ElemsOf (strKind P0 w) es.toList ∧ (∀ k, F k = true ↔ ∃ e ∈ es.toList, (strKind P0 w).is k e.2 = true) ∧ es.size < scanBound ∧ t.fits es.size = true ∧ es.size = n
theorem sAddS {D i k : Nat} {x : Str} {t : Tok} {Q : Value → Shared → Prop} (S : Sp w c g l own s) (hi : own[i]? = some (D, SetP w k)) (hk : k ≤ 10) (h : ∀ s', Sp w c g l (own.set i (D, SetP w (k + 1))) s' → Q .none s') : wpAny (MD w) A (call (.builtin "set.add") [.ref D, .str x t]) Q E s := by
  obtain ⟨o, ho, F, n, es, ep, tt, hn, r⟩ := S.at i hi
  have hS : s.heap.SetOf (strKind P0 w) D F n := ⟨o, es, ep, tt, ho, r⟩
  refine call_set_add (strKind_is P0 w x t) rfl hS (by have : scanBound = 4096 := rfl; omega) fun h' hs hS' => ?_
  obtain ⟨o', es', ep', t', ho', r'⟩ := hS'
  refine h _ (S.chg hi hs.extBut (Nat.le_of_eq hs.1.symm) ho' ⟨_, _, es', ep', t', ?_, r'⟩ rfl rfl)
  split <;> omega
theorem compTurn_set1 (elt target iter : Expr) (scope : Scope) (pos : Pos) (it acc : Value) (env : Env) : compTurn (.SetComp elt [⟨target, iter, [], 0⟩] scope pos) 0 it acc env = (standAt iter.pos >>= fun _ => pyNext it >>= fun r => match r with
    | none => pure (.done .next)
    | some v => letOwnedTupleGo target it v >>= fun _ => assign target env v >>= fun _ => (eval elt env >>= fun x => standAt elt.pos >>= fun _ => call (.builtin "set.add") [acc, x] >>= fun _ => pure ()) >>= fun _ => again (.compLoop (.SetComp elt [⟨target, iter, [], 0⟩] scope pos) 0 it acc env)) := by rfl
theorem setLoop {target elt iter : Expr} {scope : Scope} {pos : Pos} {it acc : Value} {R : Result → Shared → Prop} (J : Nat → Shared → Prop)
    (turn : ∀ n s, J n s → wpAny (MD w) A (pyNext it) (fun r s₁ => match r with
      | none => R (.ok .next) s₁
      | some v => wpAny (MD w) A (letOwnedTupleGo target it v) (fun _ s₀ => wpAny (MD w) A (assign target env v) (fun _ s₂ => wpAny (MD w) A (eval elt env) (fun x s₄ => wpAny (MD w) A (call (.builtin "set.add") [acc, x]) (fun _ s₅ => ∃ m, m < n ∧ J m s₅) (notedBy (MD w) A env fun e s' => R (.error e) s') s₄) (notedBy (MD w) A env fun e s' => R (.error e) s') s₂)
          (notedBy (MD w) A env fun e s' => R (.error e) s') s₀) (notedBy (MD w) A env fun e s' => R (.error e) s') s₁) (notedBy (MD w) A env fun e s' => R (.error e) s') s)
    (n : Nat) (h : J n s) : codeAny (MD w) A (.compLoop (.SetComp elt [⟨target, iter, [], 0⟩] scope pos) 0 it acc env) R s := by
  refine codeAny_loop rfl J (fun n s hI => ?_) n h
  show wpAny _ A ((compTurn (.SetComp elt [⟨target, iter, [], 0⟩] scope pos) 0 it acc env).onRaise (fun x => do noteFrame x env; theTreesLotGoes x)) _ _ s
  refine wpAny_noted ?_
  rw [compTurn_set1]
  refine wpAny_bind (wpAny_standAt (wpAny_bind (wpAny_mono (turn n s hI) (fun r s₁ h₁ => ?_) fun _ _ h' => h')))
  cases r with
  | none => exact wpAny_pure h₁
  | some v =>
    refine wpAny_bind (wpAny_mono h₁ (fun _ s₀ h₀' => ?_) fun _ _ h' => h')
    refine wpAny_bind (wpAny_mono h₀' (fun _ s₂ h₂ => ?_) fun _ _ h' => h')
    exact wpAny_bind (wpAny_bind (wpAny_mono h₂ (fun x s₄ h₄ => wpAny_bind (wpAny_standAt (wpAny_bind (wpAny_mono h₄ (fun _ s₅ h₅ => wpAny_pure (wpAny_pure ⟨rfl, h₅⟩)) fun _ _ h' => h')))) fun _ _ h' => h'))
theorem setStart {target elt iter : Expr} {scope : Scope} {pos : Pos} {it acc : Value} {R : Result → Shared → Prop} (h0 : codeAny (MD w) A (.compLoop (.SetComp elt [⟨target, iter, [], 0⟩] scope pos) 0 it acc env) R s)
    (h : wpAny (MD w) A (pyIter it) (fun it' s' => codeAny (MD w) A (.compLoop (.SetComp elt [⟨target, iter, [], 0⟩] scope pos) 0 it' acc env) R s') (notedBy (MD w) A env fun x s' => R (.error x) s') s) :
    codeAny (MD w) A (.compStart (.SetComp elt [⟨target, iter, [], 0⟩] scope pos) 0 it acc env) R s := by
  refine codeAny_of_tree ?_
  show wpAny _ _ ((compStart (.SetComp elt [⟨target, iter, [], 0⟩] scope pos) 0 it acc env).onRaise (fun x => do noteFrame x env; standAt theWindowsPlace)) _ _ s
  refine wpAny_notedAt ?_
  unfold compStart
  refine wpAny_bind (wpAny_askSetting ?_)
  split
  · exact wpAny_pure ⟨rfl, h0⟩
  · refine wpAny_bind (wpAny_rule (wpAny_bind (wpAny_standAt (wpAny_bind (wpAny_mono h (fun it' s' q => ?_) fun _ _ z => z)))))
    exact wpAny_pure ⟨rfl, q⟩
variable {x : Str} {px : Pos} {elt iter : Expr} {scope : Scope} {cl : List (Str × Addr)} {pos : Pos} {Q : Value → Shared → Prop}
theorem scomp (hclos : closureFor scope env = pure cl) (hkind : scope.kind = .function) (hnames : ∀ x ∈ scope.names, x.2 = .local → scope.names.lookup x.1 = some .local)
    (h : wpAny (MD w) A (eval iter env) (fun y s₁ => wpAny (MD w) A (pyIter y) (fun it s₂ => wpAny (MD w) A (newSet (.type "set")) (fun acc s₃ => wpAny (MD w) A (newFunctionEnv scope env.globals cl [] env.qual none .none (some env)) (fun cenv s₄ =>
      codeAny (MD w) A (.compStart (.SetComp elt [⟨.Name x px, iter, [], 0⟩] scope pos) 0 it acc { cenv with scope := relabel scope env }) (compPost (MD w) A E none Q acc cenv.locals) s₄) E s₃) E s₂) E s₁) E s)
    (hs : ∀ x, foldedSetIterable iter env x = pure x := by intro _; rfl) : wpAny (MD w) A (eval (.SetComp elt [⟨.Name x px, iter, [], 0⟩] scope pos) env) Q E s := by
  rw [arm_eval_SetComp]
  exact wpAny_comprehension_free (use := none) rfl hs hclos hkind hnames h
theorem scB {a : Nat} {vs : List Value} (it : ∀ Q : Value → Shared → Prop, Itr w A (.Name x px) c g l own vs.length (fun i v _ => vs[i]? = some v) Q → wpAny (MD w) A (pyIter (.ref a)) Q E s)
    (hcell : ∀ y ∈ scope.names, y.2 ≠ .cell) (hkind : scope.kind = .function) (hx : ∀ C, (compEnvC scope cl C env).kindOf x = some .local) (hn : vs.length ≤ 10)
    (turn : ∀ C D k its v l' s' E', vs[k]? = some v → Sp w ⟨c.s0, c.gp, C⟩ g ((x, v) :: l') ((c.L, NsP l) :: (D, SetP w k) :: own ++ itO its) s' →
      wpAny (MD w) A (eval elt (compEnvC scope cl C env)) (fun y s'' => (∃ z t, y = .str z t) ∧ ∃ l'', Sp w ⟨c.s0, c.gp, C⟩ g l'' ((c.L, NsP l) :: (D, SetP w k) :: own ++ itO its) s'') E' s')
    (fin : ∀ D s', Sp w c g l ((D, SetP w vs.length) :: own) s' → Q (.ref D) s') :
    wpAny (MD w) A (pyIter (.ref a)) (fun it s₂ => wpAny (MD w) A (newSet (.type "set")) (fun acc s₃ => wpAny (MD w) A (newFunctionEnv scope env.globals cl [] env.qual none .none (some env)) (fun cenv s₄ =>
      codeAny (MD w) A (.compStart (.SetComp elt [⟨.Name x px, iter, [], 0⟩] scope pos) 0 it acc { cenv with scope := relabel scope env }) (compPost (MD w) A E none Q acc cenv.locals) s₄) E s₃) E s₂) E s := by
  refine it _ fun I fp wr Md St its s0 T a0 S st => ?_
  refine wpAny_newSet_of (knd := strKind P0 w) fun led hset => ?_
  have S1 := S.push (o := { cls := .type "set", dict := none, data := .set #[] 0 (.fresh 0 0 led) }) (P := SetP w 0) (s' := { s0 with heap := s0.heap.push { cls := .type "set", dict := none, data := .set #[] 0 (.fresh 0 0 led) } }) rfl (by
    obtain ⟨o, es, ep, t, ho, r⟩ := hset
    have : o = { cls := .type "set", dict := none, data := .set #[] 0 (.fresh 0 0 led) } := by
      have := Heap.get?_push_size s0.heap (o := { cls := .type "set", dict := none, data := .set #[] 0 (.fresh 0 0 led) }) rfl
      rw [ho] at this; exact Option.some.inj this
    subst this
    exact ⟨_, 0, es, ep, t, Nat.le_refl _, r⟩) rfl rfl rfl
  have st1 := T.keep (own' := (s0.heap.objs.size, SetP w 0) :: own) a0 S S1 Ext.rfl' st
  generalize s0.heap.objs.size = D at *
  generalize hs1 : ({ s0 with heap := s0.heap.push { cls := .type "set", dict := none, data := .set #[] 0 (.fresh 0 0 led) } } : Shared) = s1 at *
  refine wpAny_newFunctionEnv hcell (by intro y hy; simp at hy) (fun h₁ hns hsb => ?_) hkind
  have S2 := S1.push (P := fun _ => True) (s' := { s1 with heap := s1.heap.push { cls := .type (if (some env).isSome then "dict" else "frame"), data := .dict #[] } }) rfl trivial rfl rfl rfl
  obtain ⟨oc, es, ep, x1, x2, x3, x4⟩ := id hns
  have S3 := S2.chg (i := 0) (P' := NsP []) rfl (s' := { s1 with heap := h₁, toks := s1.toks + ([] : List (Str × Value)).length }) hsb.extBut (Nat.le_of_eq hsb.1.symm) x1 ⟨_, es, ep, x2, x3, x4, fun _ _ e => nomatch e⟩ rfl rfl
  generalize s1.heap.objs.size = C at *
  have S4 := S3.swap (i := 0) (C := C) (l' := []) rfl
  have S4 : Sp w ⟨c.s0, c.gp, C⟩ g [] ((c.L, NsP l) :: (D, SetP w 0) :: own ++ itO its) { s1 with heap := h₁, toks := s1.toks + ([] : List (Str × Value)).length } := S4
  have st4 := T.keep (own := (D, SetP w 0) :: own) (own' := (c.L, NsP l) :: (D, SetP w 0) :: own) a0 S1 S4 Ext.rfl' st1
  have asg : Asg w A (.Name x px) (compEnvC scope cl C env) ⟨c.s0, c.gp, C⟩ (fun i v _ => vs[i]? = some v) fun k b => ∃ v, b = [(x, v)] ∧ vs[k]? = some v := asg1 rfl (hx C) (by show ((relabel scope env).kind == .class || ((relabel scope env).kind == .module && _)) = false; unfold relabel; rw [hkind]; rfl)
  have loop : codeAny (MD w) A (.compLoop (.SetComp elt [⟨.Name x px, iter, [], 0⟩] scope pos) 0 (.ref I) (.ref D) (compEnvC scope cl C env)) (compPost (MD w) A E none Q (.ref D) C) { s1 with heap := h₁, toks := s1.toks + ([] : List (Str × Value)).length } := by
    refine setLoop (fun m s => ∃ k l' its', m = vs.length - k ∧ k ≤ vs.length ∧ At g fp wr its' ∧ Sp w ⟨c.s0, c.gp, C⟩ g l' ((c.L, NsP l) :: (D, SetP w k) :: own ++ itO its') s ∧ St k s.heap) ?_ vs.length ⟨0, [], its, rfl, Nat.zero_le _, a0, S4, st4⟩
    rintro m s ⟨k, l', its', rfl, hk, a', S', st'⟩
    by_cases hkn : k < vs.length
    · refine T.next (own := (c.L, NsP l) :: (D, SetP w k) :: own) a' S' st' hkn fun v s2 its2 hP st2 a2 S2 => ?_
      refine asg k v _ _ _ _ _ _ hP S2 fun b s3 hv S3 => ?_
      have st3 := T.keep a2 S2 S3 Ext.rfl' st2
      obtain ⟨v', rfl, hv'⟩ := hv
      refine wpAny_mono (turn C D k its2 v' l' s3 _ hv' S3) (fun y s4 h4 => ?_) fun _ _ e => e
      obtain ⟨⟨z, t, rfl⟩, l2, S4⟩ := h4
      have st4 := T.keep (own' := (c.L, NsP l) :: (D, SetP w k) :: own) a2 S3 S4 Ext.rfl' st3
      refine sAddS (i := 1) S4 rfl (by omega) fun s5 S5 => ?_
      have S5 : Sp w ⟨c.s0, c.gp, C⟩ g l2 ((c.L, NsP l) :: (D, SetP w (k + 1)) :: own ++ itO its2) s5 := S5
      exact ⟨vs.length - (k + 1), by omega, k + 1, l2, its2, rfl, hkn, a2, S5, T.keep (own := (c.L, NsP l) :: (D, SetP w k) :: own) (own' := (c.L, NsP l) :: (D, SetP w (k + 1)) :: own) a2 S4 S5 Ext.rfl' st4⟩
    · have : k = vs.length := Nat.le_antisymm hk (Nat.not_lt.mp hkn)
      subst this
      refine T.fin (own := (c.L, NsP l) :: (D, SetP w vs.length) :: own) a' S' st' fun s2 S2 => ?_
      have S6 := S2.swap (i := 0) (C := c.L) (l' := l) rfl
      have S6 : Sp w c g l ([(C, NsP l')] ++ ((D, SetP w vs.length) :: own)) s2 := S6
      exact lpost S6.toEnd fun s3 S7 => fin D s3 S7
  exact setStart loop (T.self _ _ _ st4 loop)
end
end Mine
end
section
set_option maxHeartbeats 4000000
namespace Mine
structure AR where
  x : Nat
  dx : Nat
  kvs : List (Str × Value)
def aO (w : World) (as : List AR) : Own := as.map fun a => (a.dx, DictO w a.kvs)
def aV (as : List AR) : List Value := as.map fun a => .ref a.x
theorem aO_get {w : World} {as : List AR} {i : Nat} {a : AR} (h : as[i]? = some a) : (aO w as)[i]? = some (a.dx, DictO w a.kvs) := by unfold aO; rw [List.getElem?_map, h]; rfl
theorem aO_mem {w : World} {as : List AR} {i : Nat} {a : AR} (h : as[i]? = some a) : (a.dx, DictO w a.kvs) ∈ aO w as := List.mem_of_getElem? (aO_get h)
theorem aV_get {as : List AR} {i : Nat} {v : Value} (h : (aV as)[i]? = some v) : ∃ a, as[i]? = some a ∧ v = .ref a.x := by
  unfold aV at h
  rw [List.getElem?_map] at h
  cases e : as[i]? with
  | none => rw [e] at h; cases h
  | some a => rw [e] at h; exact ⟨a, rfl, (Option.some.inj h).symm⟩
theorem aO_set {w : World} {as : List AR} {i : Nat} {a : AR} {kvs : List (Str × Value)} (h : as[i]? = some a) : (aO w as).set i (a.dx, DictO w kvs) = aO w (as.set i { a with kvs := kvs }) := by
  unfold aO; rw [List.map_set]
theorem aV_set {as : List AR} {i : Nat} {a : AR} {kvs : List (Str × Value)} (h : as[i]? = some a) : aV (as.set i { a with kvs := kvs }) = aV as := by
  unfold aV; rw [List.map_set]
  exact X.set_same (by rw [List.getElem?_map, h]; rfl)
theorem aO_len {w : World} {as : List AR} : (aO w as).length = as.length := by unfold aO; simp
section
variable {w : World} {c : Cx} {g : Heap} {l : List (Str × Value)} {own : Own} {s : Shared} {A : Around} {E : Value → Shared → Prop} {env : Env} {gp : Heap}
theorem Sp.instM (S : Sp w c g l own s) {x C dx : Nat} {kvs : List (Str × Value)} (hx : g.get? x = some (instObj C dx)) (hm : (dx, DictO w kvs) ∈ own) : IsInst w s.heap x C kvs := by
  obtain ⟨⟨o, ho, hP⟩, _⟩ := S.ow _ hm
  exact ⟨dx, o, S.ge _ _ hx, ho, hP⟩
theorem Sp.rot {e a b : Nat × (Obj → Prop)} {xs ys : Own} (S : Sp w c g l (e :: a :: b :: xs ++ ys) s) : Sp w c g l (a :: b :: (xs ++ [e]) ++ ys) s := by
  refine S.perm (fun p hp => ?_) ?_
  · simp only [List.mem_cons, List.mem_append, List.not_mem_nil, or_false] at hp ⊢
    rcases hp with (h | h | h | h) | h
    · exact .inl (.inr (.inl h))
    · exact .inl (.inr (.inr (.inl h)))
    · exact .inl (.inr (.inr (.inr h)))
    · exact .inl (.inl h)
    · exact .inr h
  · have nd := S.nd
    refine (List.Perm.nodup_iff (List.Perm.map _ ?_)).mp nd
    refine List.Perm.append_right _ ?_
    have h1 : (e :: ([a, b] ++ xs)).Perm (([a, b] ++ xs) ++ [e]) := (List.perm_append_singleton e ([a, b] ++ xs)).symm
    simpa using h1
theorem Sp.frzA : ∀ {as : List AR} {g : Heap}, Sp w c g l (aO w as) s → ∃ g', Ext g g' ∧ (∀ (i : Nat) (a : AR), as[i]? = some a → ∃ o, g'.get? a.dx = some o ∧ DictO w a.kvs o) ∧ Sp w c g' l [] s
  | [], g, S => ⟨g, Ext.rfl', (fun i a h => by simp at h), S⟩
  | a :: r, g, S => by
    obtain ⟨g1, o, e1, h1, hD, S1⟩ := Sp.frz1 (own := aO w r) S
    obtain ⟨g2, e2, h2, S2⟩ := Sp.frzA S1
    refine ⟨g2, e1.trans e2, fun i b h => ?_, S2⟩
    cases i with
    | zero => cases h; exact ⟨o, e2 _ _ h1, hD⟩
    | succ i => exact h2 i b h
end
def AOk (w : World) (g : Heap) (a : AR) (i : Nat) (r : Row) (done : Prop) : Prop := g.get? a.x = some (instObj 313 a.dx) ∧ ∃ (d : Value) (t1 : Tok) (al : Value), DefAt w g d i r ∧ AttrK a.kvs (.str r.na t1) d (.bool (iniB r)) (cvV r) (.bool r.kw) al ∧ ((¬ done ∧ al = .none) ∨ (done ∧ ∃ t2, al = .str r.al t2))
theorem AOk.mono {w : World} {g g' : Heap} {a : AR} {i : Nat} {r : Row} {done : Prop} (h : AOk w g a i r done) (e : Ext g g') : AOk w g' a i r done := let ⟨x, d, t1, al, b, c⟩ := h; ⟨e _ _ x, d, t1, al, b.mono e, c⟩
section
variable {w : World} {c : Cx} {g : Heap} {l : List (Str × Value)} {own : Own} {s : Shared} {A : Around} {E : Value → Shared → Prop} {env : Env}
variable {x y : Str} {px py tp : Pos} {kk : Nat} {elt iter : Expr} {ifs : List Expr} {scope : Scope} {cl : List (Str × Addr)} {pos : Pos}
theorem lcBV {a d : Nat} {kvs : List (Str × Value)} {RR : Value → Addr → Result → Shared → Prop} (hh : A.handled = none) (S : Sp w c g l own s) (hV : IsView g a d) (hT : IsD w g d kvs)
    (hcell : ∀ y ∈ scope.names, y.2 ≠ .cell) (hkind : scope.kind = .function) (hx : ∀ C, (compEnvC scope cl C env).kindOf x = some .local) (hy : ∀ C, (compEnvC scope cl C env).kindOf y = some .local) (hif : ifs.length ≤ 1) (hn : kvs.length ≤ sizeLine)
    (Inv : Nat → List Value → Heap → Own → Prop) (i0 : Inv 0 [] g own)
    (turn : ∀ C D k its z t u ys g' l' own' s' E', kvs[k]? = some (z, u) → ys.length ≤ k → Ext g g' → Inv k ys g' own' → Sp w ⟨c.s0, c.gp, C⟩ g' ((y, u) :: (x, .str z t) :: l') ((c.L, NsP l) :: (D, ListP ys) :: own' ++ itO its) s' →
      turnQ (MD w) A ifs elt (compEnvC scope cl C env) (fun y s'' => ∃ g'' l'' own'', Ext g' g'' ∧ Inv (k + 1) (ys ++ [y]) g'' own'' ∧ Sp w ⟨c.s0, c.gp, C⟩ g'' l'' ((c.L, NsP l) :: (D, ListP ys) :: own'' ++ itO its) s'')
        (fun s'' => ∃ g'' l'' own'', Ext g' g'' ∧ Inv (k + 1) ys g'' own'' ∧ Sp w ⟨c.s0, c.gp, C⟩ g'' l'' ((c.L, NsP l) :: (D, ListP ys) :: own'' ++ itO its) s'') E' s')
    (fin : ∀ C lC D ys g' own' s', Ext g g' → Inv kvs.length ys g' own' → Sp w c g' l ((D, ListP ys) :: own' ++ [(C, NsP lC)]) s' → RR (.ref D) C (.ok .next) s') :
    wpAny (MD w) A (pyIter (.ref a)) (fun it s₂ => wpAny (MD w) A (newList []) (fun acc s₃ => wpAny (MD w) A (newFunctionEnv scope env.globals cl [] env.qual none .none (some env)) (fun cenv s₄ =>
      codeAny (MD w) A (.compStart (.ListComp elt [⟨.Tuple [.Name x px, .Name y py] kk tp, iter, ifs, 0⟩] scope pos) 0 it acc { cenv with scope := relabel scope env }) (RR acc cenv.locals) s₄) E s₃) E s₂) E s :=
  it_V hh S hV hT fun I fp wr Md St its s1 T a S1 st => compBlk (env := env) T a S1 st hcell hkind (fun C => asg2 (P2 := fun k a b => ∃ z t, kvs[k]? = some (z, b) ∧ a = .str z t) hh (fun k v h p => by obtain ⟨T, z, t, u, e, hz, hT⟩ := p; exact ⟨T, _, u, e, hT, z, t, hz, rfl⟩) rfl (hx C) (hy C) (by show ((relabel scope env).kind == .class || ((relabel scope env).kind == .module && _)) = false; unfold relabel; rw [hkind]; rfl)) hif hn Inv i0
    (fun C D k its b ys g' l' own' s' E' h1 h2 h3 h4 h5 h6 => by obtain ⟨_, u, rfl, z, t, hz, rfl⟩ := h5; exact turn C D k its z t u ys g' l' own' s' E' hz h2 h3 h4 h6) fin
end
end Mine
end
section
set_option maxHeartbeats 4000000
namespace Mine
theorem neS {x y : Str} (h : (x == y) = false) : ¬ x = y := fun e => by subst e; simp at h
theorem lp_ne {x y : Str} {v : Value} {kvs : List (Str × Value)} (h : (y == x) = false) : (put x v kvs).lookup y = kvs.lookup y := by rw [lookup_put, if_neg (neS h)]
theorem lp_eq {x : Str} {v : Value} {kvs : List (Str × Value)} : (put x v kvs).lookup x = some v := by rw [lookup_put, if_pos rfl]
theorem AttrK.setAlias {kvs : List (Str × Value)} {na d it cv kw al v u : Value} (h : AttrK kvs na d it cv kw al) (hv : v ≠ .none) : AttrK (put "alias_is_default" u (put "alias" v kvs)) na d it cv kw v where
  name := by rw [lp_ne (by kernel_rfl), lp_ne (by kernel_rfl)]; exact h.name
  default := by rw [lp_ne (by kernel_rfl), lp_ne (by kernel_rfl)]; exact h.default
  validator := by rw [lp_ne (by kernel_rfl), lp_ne (by kernel_rfl)]; exact h.validator
  eq := by rw [lp_ne (by kernel_rfl), lp_ne (by kernel_rfl)]; exact h.eq
  eq_key := by rw [lp_ne (by kernel_rfl), lp_ne (by kernel_rfl)]; exact h.eq_key
  order := by rw [lp_ne (by kernel_rfl), lp_ne (by kernel_rfl)]; exact h.order
  init := by rw [lp_ne (by kernel_rfl), lp_ne (by kernel_rfl)]; exact h.init
  converter := by rw [lp_ne (by kernel_rfl), lp_ne (by kernel_rfl)]; exact h.converter
  kw_only := by rw [lp_ne (by kernel_rfl), lp_ne (by kernel_rfl)]; exact h.kw_only
  «alias» := by rw [lp_ne (by kernel_rfl), lp_eq]
  len := fun e => absurd e hv
theorem AOk.iff {w : World} {g : Heap} {a : AR} {i : Nat} {r : Row} {p q : Prop} (h : AOk w g a i r p) (e : p ↔ q) : AOk w g a i r q := by
  obtain ⟨x, d, t1, al, b, c, f⟩ := h
  exact ⟨x, d, t1, al, b, c, by rcases f with ⟨f1, f2⟩ | ⟨f1, f2⟩; exact .inl ⟨fun z => f1 (e.mpr z), f2⟩; exact .inr ⟨e.mp f1, f2⟩⟩
theorem RowK.strip {i : Nat} {r : Row} (h : RowK i r) : Txt.lstripChars r.na "_" = r.al ∧ r.na.length ≤ 1000 ∧ r.al.length = 1 := by
  obtain ⟨hi, ha, hn, _⟩ := h
  rw [ha]
  match i, hi with
  | 0, _ => rcases hn with h | h <;> rw [h] <;> exact ⟨by kernel_rfl, Nat.le_of_ble_eq_true (by kernel_rfl), by kernel_rfl⟩
  | 1, _ => rcases hn with h | h <;> rw [h] <;> exact ⟨by kernel_rfl, Nat.le_of_ble_eq_true (by kernel_rfl), by kernel_rfl⟩
  | 2, _ => rcases hn with h | h <;> rw [h] <;> exact ⟨by kernel_rfl, Nat.le_of_ble_eq_true (by kernel_rfl), by kernel_rfl⟩
  | 3, _ => rcases hn with h | h <;> rw [h] <;> exact ⟨by kernel_rfl, Nat.le_of_ble_eq_true (by kernel_rfl), by kernel_rfl⟩
  | 4, _ => rcases hn with h | h <;> rw [h] <;> exact ⟨by kernel_rfl, Nat.le_of_ble_eq_true (by kernel_rfl), by kernel_rfl⟩
section
variable {w : World} {c : Cx} {g : Heap} {l : List (Str × Value)} {own : Own} {s : Shared} {A : Around} {E : Value → Shared → Prop} {env : Env} {gp : Heap}
theorem saA {as : List AR} {k : Nat} {a : AR} {name : Str} {v : Value} {Q : Unit → Shared → Prop} (S : Sp w c g l (aO w as ++ own) s) (ha : as[k]? = some a) (hx : g.get? a.x = some (instObj 313 a.dx))
    (hs : findIn (hd.heap_39 w.params) (.ref 313) "__setattr__" = some (some (.builtin "object.__setattr__")) ∧ plainOver (hd.heap_39 w.params) 313 = true ∧ hasDictIn (hd.heap_39 w.params) 313 = true) (ht : takerIn (hd.heap_39 w.params) 313 name = some none) (hz : a.kvs.length ≤ 900)
    (h : ∀ s', Sp w c g l (aO w (as.set k { a with kvs := put name v a.kvs }) ++ own) s' → Q () s') : wpAny (MD w) A (setAttr (.ref a.x) name v) Q E s := by
  have hk : k < (aO w as).length := by rw [aO_len]; exact (List.getElem?_eq_some_iff.mp ha).1
  refine sa (i := k) (kvs := a.kvs) (dx := a.dx) (C := 313) S (S.ge _ _ hx) (by rw [List.getElem?_append_left hk]; exact aO_get ha) hs.1 hs.2.1 ht hs.2.2 hz fun s' S' => h s' ?_
  rw [List.set_append_left _ _ hk, aO_set ha] at S'
  exact S'
theorem set_get {α : Type} {l : List α} {k : Nat} {a b : α} (h : l[k]? = some a) : (l.set k b)[k]? = some b := by
  rw [List.getElem?_set, if_pos rfl, if_pos (List.getElem?_eq_some_iff.mp h).1]
theorem Ix.set {α β : Type} {R R' : Nat → α → β → Prop} {as : List α} {bs : List β} (H : Ix R as bs) {k : Nat} {a : α} {b : β} (hb : bs[k]? = some b) (hk : R' k a b) (ho : ∀ i a b, i ≠ k → R i a b → R' i a b) : Ix R' (as.set k a) bs := by
  refine ⟨by rw [List.length_set]; exact H.1, fun i x y e1 e2 => ?_⟩
  rw [List.getElem?_set] at e1
  by_cases hi : k = i
  · subst hi
    rw [if_pos rfl] at e1
    split at e1
    · cases e1; rw [hb] at e2; cases e2; exact hk
    · cases e1
  · rw [if_neg hi] at e1
    exact ho i x y (Ne.symm hi) (H.2 i x y e1 e2)
theorem get70 (X : (K w).In s.heap) : ∃ o, s.heap.get? 70 = some o ∧ o.cls = .ref 64 := by
  have e : ((K w).lookup 70).map (·.cls) = some (.ref 64) := by kernel_rfl
  cases h : (K w).lookup 70 with
  | none => rw [h] at e; cases e
  | some o => rw [h] at e; exact ⟨o, X _ _ h, Option.some.inj e⟩
theorem is70 {d : Value} {k : Nat} {r : Row} {Q : Value → Shared → Prop} (S : Sp w c g l own s) (h : DefAt w g d k r) (q : Q (.bool (r.kd == 0)) s) : wpAny (MD w) A (compareOp .Is d (.ref 70)) Q E s := by
  obtain ⟨o, ho, hc⟩ := get70 S.kin
  rcases h with ⟨h, rfl⟩ | ⟨h, F, f, kvF, t, rfl, h1, _⟩ | ⟨h, t, rfl⟩
  · rw [h] at q; exact wpAny_is_ref_self q
  · obtain ⟨dx, od, hF, _⟩ := h1
    have hF := S.ge _ _ hF
    rw [h] at q
    refine wpAny_is_ref_other (fun e => ?_) hF ho (by intro e; cases e) q
    subst e; rw [hF] at ho; cases ho; cases hc
  · refine wpAny_is_other rfl (by intro e; cases e) ?_
    have : (r.kd == 0) = false := by rcases h with h | h <;> rw [h] <;> rfl
    rw [this] at q; exact q
theorem isNot70 {d : Value} {k : Nat} {r : Row} {Q : Value → Shared → Prop} (S : Sp w c g l own s) (h : DefAt w g d k r) (q : Q (.bool (!(r.kd == 0))) s) : wpAny (MD w) A (compareOp .IsNot d (.ref 70)) Q E s := by
  obtain ⟨o, ho, hc⟩ := get70 S.kin
  rcases h with ⟨h, rfl⟩ | ⟨h, F, f, kvF, t, rfl, h1, _⟩ | ⟨h, t, rfl⟩
  · rw [h] at q; exact wpAny_isNot_ref_self q
  · obtain ⟨dx, od, hF, _⟩ := h1
    have hF := S.ge _ _ hF
    rw [h] at q
    refine wpAny_isNot_ref_other (fun e => ?_) hF ho (by intro e; cases e) q
    subst e; rw [hF] at ho; cases ho; cases hc
  · refine wpAny_isNot_other rfl (by intro e; cases e) ?_
    have : (r.kd == 0) = false := by rcases h with h | h <;> rw [h] <;> rfl
    rw [this] at q; exact q
theorem tupL {a : Nat} {vs : List Value} {Q : Value → Shared → Prop} (S : Sp w c g l own s) (hl : IsL s.heap a vs) (hz : vs.length ≤ 1000) (h : ∀ s' T g', Ext g g' → IsT g' T vs → Sp w c g' l own s' → Q (.ref T) s') : wpAny (MD w) A (call (.type "tuple") [.ref a]) Q E s := by
  refine PySem.call_tuple_list hl.list (fun h' hk => ?_) (by rw [List.size_toArray, sizeLine_eq]; omega)
  have S1 := (S.ext (t := s.toks) hk).push (o := tupO vs 0) (P := TupP vs) (s' := { s with heap := h'.push (tupO vs 0) }) rfl ⟨0, rfl⟩ rfl rfl rfl
  obtain ⟨g', o, e, ha, ⟨n, rfl⟩, S2⟩ := S1.frz1
  exact h _ _ g' e ⟨n, ha⟩ S2
theorem aOk_at {as : List AR} {rows : List Row} {g' : Heap} (hA : Ix (fun i a r => AOk w g a i r True) as rows) (e : Ext g g') (hf : ∀ (i : Nat) (a : AR), as[i]? = some a → ∃ o, g'.get? a.dx = some o ∧ DictO w a.kvs o) : Ix (fun i v r => AtAt w g' v i r) (aV as) rows := by
  refine ⟨by unfold aV; rw [List.length_map]; exact hA.1, fun i v r e1 e2 => ?_⟩
  obtain ⟨a, ha, rfl⟩ := aV_get e1
  obtain ⟨o, ho, hD⟩ := hf i a ha
  obtain ⟨hx, d, t1, al, hd', hK, hal⟩ := hA.2 i a r ha e2
  rcases hal with ⟨h, _⟩ | ⟨_, t2, rfl⟩
  · exact absurd trivial h
  · exact ⟨a.x, a.kvs, d, t1, t2, rfl, ⟨a.dx, o, e _ _ hx, ho, hD⟩, hd'.mono e, hK⟩
end
end Mine
end
section
set_option maxHeartbeats 4000000
namespace Mine
section
variable {w : World} {c : Cx} {g : Heap} {l : List (Str × Value)} {own : Own} {s : Shared} {A : Around} {E : Value → Shared → Prop} {env : Env} {gp : Heap}
theorem asA {o : Expr} {attr : Str} {pos : Pos} {v : Value} {Q : Unit → Shared → Prop} (h : wpAny (MD w) A (eval o env) (fun ov s₁ => wpAny (MD w) A (setAttr ov attr v) Q E s₁) E s) : wpAny (MD w) A (assign (.Attribute o attr pos) env v) Q E s := by
  rw [assign_Attribute]
  refine wpAny_bind (wpAny_holding (wpAny_mono h (fun ov s1 h1 => wpAny_bind (wpAny_standAt (wpAny_bind (wpAny_holding (wpAny_mono h1 (fun _ s2 h2 => wpAny_release h2) fun _ _ e => e))))) fun _ _ e => e))
end
end Mine
end
section
set_option maxHeartbeats 4000000
namespace Mine
def mix (h0 h' : Heap) (p : Nat → Bool) : Heap := ⟨(Array.range h0.objs.size).map fun i => if p i then h'.objs[i]?.getD { cls := .none, data := .freed } else h0.objs[i]?.getD { cls := .none, data := .freed }, h0.life⟩
theorem mix_size (h0 h' : Heap) (p : Nat → Bool) : (mix h0 h' p).objs.size = h0.objs.size := by simp [mix]
theorem mix_get (h0 h' : Heap) (p : Nat → Bool) (b : Nat) : (mix h0 h' p).get? b = if p b ∧ b < h0.objs.size then h'.get? b else h0.get? b := by
  unfold mix Heap.get?
  dsimp only
  rw [Array.getElem?_map]
  by_cases hb : b < h0.objs.size
  · have hr : (Array.range h0.objs.size)[b]? = some b := by rw [Array.getElem?_range, if_pos hb]
    rw [hr]
    simp only [Option.map_some, hb, and_true]
    by_cases hp : p b = true
    · simp only [hp, if_true]
      cases h'.objs[b]? with
      | none => simp [Obj.isFreed]
      | some o => rfl
    · simp only [hp, if_false, Array.getElem?_eq_getElem hb, Option.getD_some]; simp
  · have hr : (Array.range h0.objs.size)[b]? = none := by rw [Array.getElem?_range, if_neg hb]
    have h2 : h0.objs[b]? = none := Array.getElem?_eq_none (Nat.le_of_not_lt hb)
    rw [hr, h2]
    simp [hb]
def FrOk (gp h : Heap) (f : Nat) : Prop := 510 < f ∧ gp.get? f = none ∧ ∃ o, h.get? f = some o ∧ ∀ vs, o.data ≠ .fields vs
structure Out (A : Around) (gp h : Heap) (outer : List Env) : Prop where
  fr : A.frames = some outer
  each : ∀ env ∈ outer, env.scope.kind ≠ .module ∧ ∃ f : Nat, env.frame = some f ∧ FrOk gp h f
  low : 510 < h.objs.size
abbrev fsO (outer : List Env) : List Addr := outer.filterMap (·.frame)
theorem Out.mem {A : Around} {gp h : Heap} {outer : List Env} (O : Out A gp h outer) {f : Nat} (hf : f ∈ fsO outer) : FrOk gp h f := by
  obtain ⟨env, he, h1⟩ := List.mem_filterMap.mp hf
  obtain ⟨_, f', h2, h3⟩ := O.each env he
  rw [h2] at h1; cases h1; exact h3
theorem Out.fun {A : Around} {gp h : Heap} {outer : List Env} (O : Out A gp h outer) : h.FunFrames (sel h fun _ => false) outer := by
  have E := O.each
  clear O
  induction outer with
  | nil => trivial
  | cons env r ih =>
    obtain ⟨k, f, e1, _, _, o, e2, e3⟩ := E env (List.Mem.head _)
    exact ⟨k, ⟨f, o, e1, by rw [sel_get]; rfl, e2, e3⟩, ih fun e he => E e (List.Mem.tail _ he)⟩
theorem ltz' {h : Heap} {a : Nat} {o : Obj} (e : h.get? a = some o) : a < h.objs.size := Heap.lt_size e
section
variable {w : World} {c : Cx} {g : Heap} {l : List (Str × Value)} {own : Own} {s : Shared} {A : Around} {E : Value → Shared → Prop} {env : Env} {gp : Heap} {outer : List Env}
theorem Sp.slots (S : Sp w c g l own s) {fs : List Nat} {s' : Shared} (hs : Heap.SlotsOnly (c.L :: fs) s.heap s'.heap) (hg : s'.gens = s.gens) (ho : s'.os = s.os) (hf : ∀ f ∈ fs, FrOk c.gp c.s0.heap f) :
    ∃ s0' : Shared, s0'.gens = c.s0.gens ∧ s0'.os = c.s0.os ∧ Heap.SlotsOnly fs c.s0.heap s0'.heap ∧ Sp w ⟨s0', c.gp, c.L⟩ g l own s' := by
  have lo := S.low
  have lz := S.sz
  have m1 : ∀ b : Nat, b ∈ fs → b < c.s0.heap.objs.size := fun b hb => by obtain ⟨_, _, o, h, _⟩ := hf b hb; exact ltz' h
  have gt : ∀ b : Nat, (mix c.s0.heap s'.heap fun b => decide (b ∈ fs)).get? b = if b ∈ fs then s'.heap.get? b else c.s0.heap.get? b := fun b => by
    rw [mix_get]
    by_cases hb : b ∈ fs
    · rw [if_pos ⟨by simpa using hb, m1 b hb⟩, if_pos hb]
    · rw [if_neg (fun z => hb (by simpa using z.1)), if_neg hb]
  have n1 : ∀ b : Nat, b ∉ c.L :: fs → s'.heap.get? b = s.heap.get? b := fun b hb => hs.2.1 b hb
  have low1 : ∀ b : Nat, b ≤ 510 → b ∉ fs := fun b hb hm => by have := (hf b hm).1; omega
  have low2 : ∀ b : Nat, b ≤ 502 → b ∉ c.L :: fs := fun b hb hm => by
    rcases List.mem_cons.mp hm with rfl | hm
    · omega
    · exact low1 b (by omega) hm
  have so : Heap.SlotsOnly fs c.s0.heap (mix c.s0.heap s'.heap fun b => decide (b ∈ fs)) := by
    refine ⟨mix_size _ _ _, fun b hb => by rw [gt b, if_neg hb], fun b o hb => ?_⟩
    rw [gt b]
    by_cases hm : b ∈ fs
    · rw [if_pos hm]
      refine hs.2.2 b o (S.old b o hb (fun z => ?_) fun z => ?_)
      · exact low1 b (by rw [z]; decide) hm
      · exact low1 b (by rw [z]; decide) hm
    · rw [if_neg hm]; exact ⟨o.slots, hb⟩
  have G : Glob w (mix c.s0.heap s'.heap fun b => decide (b ∈ fs)) := by
    obtain ⟨mb, n, hb⟩ := S.gl0.gl.bi
    have up : c.s0.heap.UpToSlots (mix c.s0.heap s'.heap fun b => decide (b ∈ fs)) := fun b o e _ => so.2.2 b o e
    have same : ∀ b : Nat, b ≤ 510 → (mix c.s0.heap s'.heap fun b => decide (b ∈ fs)).get? b = c.s0.heap.get? b := fun b h => by rw [gt b, if_neg (low1 b h)]
    refine ⟨fun a o e => ?_, ⟨mb, up.ns n, hb⟩, ?_, ?_, ?_⟩
    · have h1 := S.gl0.kg a o e
      have : a ∉ fs := fun hm => by have := (hf a hm).2.1; rw [h1] at this; cases this
      rw [gt a, if_neg this]; exact S.gl0.gl.kin a o e
    · obtain ⟨o, vs, file, tf, flags, tg, inF, text, tt, a, r⟩ := S.gl0.gl.hd1
      exact ⟨o, vs, file, tf, flags, tg, inF, text, tt, (same 249 (by decide)).trans a, r⟩
    · obtain ⟨o, vs, file, tf, flags, tg, inF, text, tt, a, r⟩ := S.gl0.gl.hd2
      exact ⟨o, vs, file, tf, flags, tg, inF, text, tt, (same 506 (by decide)).trans a, r⟩
    · obtain ⟨ob, e, r⟩ := S.gl0.gl.b4
      exact ⟨ob, (same 4 (by decide)).trans e, r⟩
  obtain ⟨m, n, hm⟩ := S.ns
  have zs : s'.heap.objs.size = s.heap.objs.size := hs.1
  refine ⟨{ c.s0 with heap := mix c.s0.heap s'.heap fun b => decide (b ∈ fs) }, rfl, rfl, so, hg.trans S.gens, ho.trans S.os, ⟨G, S.gl0.kg⟩, tabs_to S.tabs (fun o x => (n1 _ (low2 _ (by decide))).trans x) (fun o x => (n1 _ (low2 _ (by decide))).trans x), ⟨fun o x => S.t0.1 o ?_, fun o x => S.t0.2 o ?_⟩, fun b o x h1 h2 => ?_, by show (mix _ _ _).objs.size ≤ _; rw [mix_size, zs]; exact S.osz, by show (mix _ _ _).objs.size ≤ _; rw [mix_size]; exact lz, by show _ < (mix _ _ _).objs.size; rw [mix_size]; exact lo, fun b o x => ?_, fun b o x => ?_, S.gp, S.gt1, S.gt2, ⟨m, ?_, hm⟩, S.gL, fun p hp => ?_, S.nd⟩
  · have h := gt 245; rw [if_neg (low1 _ (by decide))] at h; exact h ▸ x
  · have h := gt 502; rw [if_neg (low1 _ (by decide))] at h; exact h ▸ x
  · have h := gt b
    by_cases hb : b ∈ fs
    · rw [if_pos hb] at h; exact h ▸ x
    · rw [if_neg hb] at h
      have x' : c.s0.heap.get? b = some o := h ▸ x
      have : b ∉ c.L :: fs := fun hm' => by
        rcases List.mem_cons.mp hm' with rfl | hm'
        · have := ltz' x'; omega
        · exact hb hm'
      exact (n1 b this).trans (S.old b o x' h1 h2)
  · have : b ∉ c.L :: fs := fun hm' => by
      rcases List.mem_cons.mp hm' with rfl | hm'
      · rw [S.gL] at x; cases x
      · rcases S.gs b o x with z | z
        · rw [(hf b hm').2.1] at z; cases z
        · have := m1 b hm'; omega
    exact (n1 b this).trans (S.ge b o x)
  · show _ ∨ (mix _ _ _).objs.size ≤ _
    rw [mix_size]; exact S.gs b o x
  · exact Heap.UpToSlots.ns (fun b o e _ => hs.2.2 b o e) n
  · obtain ⟨⟨o, q1, q2⟩, q3, q4, q5⟩ := S.ow p hp
    have : p.1 ∉ c.L :: fs := fun hm' => by
      rcases List.mem_cons.mp hm' with h | hm'
      · exact q5 h
      · have := m1 _ hm'; omega
    exact ⟨⟨o, (n1 _ this).trans q1, q2⟩, q3, by show (mix _ _ _).objs.size ≤ _; rw [mix_size]; exact q4, q5⟩
theorem Sp.join {c : Cx} {s s' : Shared} {g' : Heap} {L' : Nat} {l' : List (Str × Value)} {own' : Own} (S1 : Sp w c g l own s) (S2 : Sp w ⟨s, g, L'⟩ g' l' own' s') : Ext g g' ∧ Sp w c g' l (own' ++ own) s' := by
  have lo := S1.low
  have lz := S1.sz
  have hL := S1.L_lt
  have oz := S1.osz
  have oz2 : s.heap.objs.size ≤ s'.heap.objs.size := S2.osz
  have e3 : ∀ b : Nat, g.get? b = none → b < s.heap.objs.size → g'.get? b = none := fun b x y => by
    cases q : g'.get? b with
    | none => rfl
    | some o =>
      rcases S2.gs b o q with z | z
      · have z' : (g.get? b).isSome = true := z
        rw [x] at z'; cases z'
      · have z' : s.heap.objs.size ≤ b := z
        omega
  obtain ⟨m, n, hm⟩ := S1.ns
  refine ⟨S2.gp, S2.gens.trans S1.gens, S2.os.trans S1.os, S1.gl0, S2.tabs, S1.t0, S1.old.trans S2.old, Nat.le_trans oz oz2, lz, lo, S2.ge, fun b o x => ?_, S1.gp.trans S2.gp, S2.gt1, S2.gt2, ⟨m, Kx.ns S2.old n (by omega) (by omega), hm⟩, e3 _ S1.gL hL, fun p hp => ?_, ?_⟩
  · rcases S2.gs b o x with z | z
    · obtain ⟨o', z'⟩ := Option.isSome_iff_exists.mp (show (g.get? b).isSome = true from z)
      exact S1.gs b o' z'
    · have z' : s.heap.objs.size ≤ b := z
      exact .inr (by omega)
  · rcases List.mem_append.mp hp with hp | hp
    · obtain ⟨q1, q2, q3, q4⟩ := S2.ow p hp
      have q3' : s.heap.objs.size ≤ p.1 := q3
      exact ⟨q1, q2, by omega, by omega⟩
    · obtain ⟨⟨o, q1, q2⟩, q3, q4, q5⟩ := S1.ow p hp
      exact ⟨⟨o, S2.old _ _ q1 (by omega) (by omega), q2⟩, e3 _ q3 (ltz' q1), q4, q5⟩
  · rw [List.map_append, List.nodup_append]
    refine ⟨S2.nd, S1.nd, fun a ha b hb e => ?_⟩
    obtain ⟨p, hp, rfl⟩ := List.mem_map.mp ha
    obtain ⟨q, hq, rfl⟩ := List.mem_map.mp hb
    have h1 : s.heap.objs.size ≤ p.1 := (S2.ow p hp).2.2.1
    obtain ⟨⟨o, q1, _⟩, _⟩ := S1.ow q hq
    have := ltz' q1
    omega
end
def ExcO (tb : Value) (o : Obj) : Prop := o.cls = .type "TypeError" ∧ ∃ vs, o.data = .fields vs ∧ vs[1]? = some tb ∧ vs[2]? = some .none
def TbO (fl : Value) (o : Obj) : Prop := ∃ ts, o.data = .fields ts ∧ ts[3]? = some fl
section
variable {w : World} {c : Cx} {g : Heap} {l : List (Str × Value)} {own : Own} {s : Shared} {A : Around} {E : Value → Shared → Prop} {env : Env} {gp : Heap} {outer : List Env} {M : Model}
theorem upd_fields {h : Heap} {a : Addr} {o : Obj} {vs : Array Value} (ho : h.get? a = some o) (hd : o.data = .fields vs) (f : Array Value → Array Value) : (h.update a (Obj.mapFields f)).get? a = some (Obj.mapFields f o) :=
  Heap.get?_update_self (Obj.mapFields f) ho (Obj.isFreed_of_fields (Obj.data_mapFields hd f))
theorem Sp.setF (S : Sp w c g l own s) {i : Nat} {a : Nat} {P P' : Obj → Prop} (hi : own[i]? = some (a, P)) {f : Array Value → Array Value} (hP : ∀ o, P o → (∃ vs, o.data = .fields vs) ∧ P' (Obj.mapFields f o)) {s' : Shared} (e : s'.heap = s.heap.update a (Obj.mapFields f)) (hg : s'.gens = s.gens) (ho : s'.os = s.os) : Sp w c g l (own.set i (a, P')) s' := by
  obtain ⟨o, h1, h2⟩ := S.at i hi
  obtain ⟨⟨vs, hd⟩, h3⟩ := hP o h2
  have sb := Heap.SameBut.update s.heap a (Obj.mapFields f)
  rw [← e] at sb
  exact S.chg hi sb.extBut (Nat.le_of_eq sb.1.symm) (by rw [e]; exact upd_fields h1 hd f) h3 hg ho
theorem excO_set {tb tb' : Value} {o : Obj} (x : ExcO tb o) : (∃ vs, o.data = .fields vs) ∧ ExcO tb' (Obj.mapFields (·.setIfInBounds 1 tb') o) := by
  obtain ⟨h1, vs, h2, h3, h4⟩ := x
  have := (Array.getElem?_eq_some_iff.mp h3).1
  refine ⟨⟨vs, h2⟩, by rw [Obj.cls_mapFields]; exact h1, _, Obj.data_mapFields h2 _, by simp [this], ?_⟩
  rw [Array.getElem?_setIfInBounds_ne (by decide)]; exact h4
theorem tbO_set {fl fl' : Value} {o : Obj} (x : TbO fl o) : (∃ vs, o.data = .fields vs) ∧ TbO fl' (Obj.mapFields (·.setIfInBounds 3 fl') o) := by
  obtain ⟨ts, h1, h2⟩ := x
  have := (Array.getElem?_eq_some_iff.mp h2).1
  exact ⟨⟨ts, h1⟩, _, Obj.data_mapFields h1 _, by simp [this]⟩
def Slid (c : Cx) (outer : List Env) (c' : Cx) : Prop := c'.gp = c.gp ∧ c'.L = c.L ∧ c'.s0.gens = c.s0.gens ∧ c'.s0.os = c.s0.os ∧ Heap.SlotsOnly (fsO outer) c.s0.heap c'.s0.heap
theorem Slid.rfl' : Slid c outer c := ⟨rfl, rfl, rfl, rfl, .refl ..⟩
theorem Slid.trans {c c' c'' : Cx} (a : Slid c outer c') (b : Slid c' outer c'') : Slid c outer c'' := ⟨b.1.trans a.1, b.2.1.trans a.2.1, b.2.2.1.trans a.2.2.1, b.2.2.2.1.trans a.2.2.2.1, a.2.2.2.2.trans b.2.2.2.2⟩
theorem Out.slid {A : Around} {c c' : Cx} (O : Out A c.gp c.s0.heap outer) (h : Slid c outer c') : Out A c'.gp c'.s0.heap outer := by
  obtain ⟨h1, _, _, _, h5⟩ := h
  refine ⟨O.fr, fun env he => ?_, by rw [h5.1]; exact O.low⟩
  obtain ⟨k, f, e1, e2, e3, o, e4, e5⟩ := O.each env he
  obtain ⟨sl, e6⟩ := h5.2.2 f o e4
  exact ⟨k, f, e1, e2, by rw [h1]; exact e3, _, e6, e5⟩
theorem Sp.out (S : Sp w c g l own s) (O : Out A c.gp c.s0.heap outer) (hk : env.scope.kind ≠ .module) (hf : env.frame = some c.L) : Out (A.deeper env) g s.heap (env :: outer) := by
  have := S.sz
  have := O.low
  have := S.osz
  refine ⟨Around.frames_deeper O.fr, fun e he => ?_, by omega⟩
  rcases List.mem_cons.mp he with rfl | he
  · obtain ⟨m, ⟨o, es, ep, h1, h2, _⟩, _⟩ := S.ns
    exact ⟨hk, c.L, hf, by omega, S.gL, o, h1, fun vs q => by rw [h2] at q; cases q⟩
  · obtain ⟨k, f, e1, e2, e3, o, e4, e5⟩ := O.each e he
    refine ⟨k, f, e1, e2, ?_, o, S.old f o e4 (by omega) (by omega), e5⟩
    cases q : g.get? f with
    | none => rfl
    | some o' =>
      rcases S.gs f o' q with z | z
      · rw [e3] at z; cases z
      · have := ltz' e4; omega
theorem Sp.entry {e : Nat} {tb head : Value} {hadNext : Bool} {A' : Around} {Q : Unit → Shared → Prop} (S : Sp w c g l ((e, ExcO tb) :: own) s) (O : Out A c.gp c.s0.heap outer) (hfr : A'.frames = some (env :: outer)) (hk : env.scope.kind ≠ .module) (hf : env.frame = some c.L)
    (h : ∀ c' T s', Slid c outer c' → Sp w c' g l ((T, TbO (rawInt c.L)) :: (e, ExcO (.ref T)) :: own) s' → Q () s') :
    wpAny M A' (do let a ← frameOf env; let pl ← entryPlaceOf c.L hadNext; let b ← EntryCells.newEntry head a .none (rawInt c.L) .none pl; setField (.ref e) 1 b) Q E s := by
  have O' := S.out O hk hf
  refine wpAny_bind (wpAny_frameOf_fun hfr O'.fun hf fun h₁ hs₁ => ?_)
  have hs₁' : Heap.SlotsOnly (c.L :: fsO outer) s.heap h₁ := by
    have : fsO (env :: outer) = c.L :: fsO outer := by show List.filterMap _ _ = _; rw [List.filterMap_cons, hf]
    exact this ▸ hs₁
  obtain ⟨s0', z1, z2, z3, S1⟩ := S.slots (s' := { s with heap := h₁ }) hs₁' rfl rfl fun f hf => O.mem hf
  refine wpAny_bind (wpAny_entryPlaceOf fun pl hpl => ?_)
  unfold EntryCells.newEntry newFields
  refine wpAny_bind (wpAny_newObj_type ?_ (hpl.sizeOk5 _ _ _ _ _))
  have S2 := S1.push (P := TbO (rawInt c.L)) (o := { cls := .type "traceback", dict := none, data := .fields ([head, .ref c.L, .none, rawInt c.L, .none] ++ (if pl.isEmpty then List.replicate 6 Value.none else pl)).toArray }) (s' := { s with heap := h₁.push { cls := .type "traceback", dict := none, data := .fields ([head, .ref c.L, .none, rawInt c.L, .none] ++ (if pl.isEmpty then List.replicate 6 Value.none else pl)).toArray } }) rfl ⟨_, rfl, by first | (simp; done) | (rcases hpl with rfl | ⟨_, _, _, _, _, _, _, rfl⟩ <;> simp)⟩ rfl rfl rfl
  obtain ⟨oe, he, hx⟩ := S2.at 1 rfl
  obtain ⟨h1, vs, h2, h3, h4⟩ := id hx
  refine wpAny_setField he h2 (Array.getElem?_eq_some_iff.mp h3).1 ?_
  exact h ⟨s0', c.gp, c.L⟩ _ _ ⟨rfl, rfl, z1, z2, z3⟩ (S2.setF (i := 1) rfl (fun o x => excO_set x) rfl rfl rfl)
theorem flight {T e : Nat} {fl : Value} {fr : Option Addr} {A' : Around} {Q : Unit → Shared → Prop} (S : Sp w c g l ((T, TbO fl) :: (e, ExcO (.ref T)) :: own) s) (h : ∀ s', Sp w c g l ((T, TbO (fr.elim .none fun f => rawInt f)) :: (e, ExcO (.ref T)) :: own) s' → Q () s') : wpAny M A' (setFlight (.ref e) fr) Q E s := by
  obtain ⟨oe, he, h1, vs, h2, h3, h4⟩ := S.at 1 rfl
  obtain ⟨ot, ht, ts, t1, t2⟩ := S.at 0 rfl
  unfold setFlight
  refine wpAny_bind (wpAny_field he h2 h3 ?_)
  rw [if_pos (show (Value.ref T != Value.none) = true from by simp)]
  exact wpAny_setField ht t1 (Array.getElem?_eq_some_iff.mp t2).1 (h _ (S.setF (i := 0) rfl (fun o x => tbO_set x) rfl rfl rfl))
theorem note0 {e : Nat} {A' : Around} {Q : Unit → Shared → Prop} (S : Sp w c g l ((e, ExcO .none) :: own) s) (O : Out A c.gp c.s0.heap outer) (hfr : A'.frames = some (env :: outer)) (hk : env.scope.kind ≠ .module) (hf : env.frame = some c.L)
    (h : ∀ c' T s', Slid c outer c' → Sp w c' g l ((T, TbO (rawInt c.L)) :: (e, ExcO (.ref T)) :: own) s' → Q () s') : wpAny M A' (noteFrame (.ref e) env) Q E s := by
  obtain ⟨oe, he, h1, vs, h2, h3, h4⟩ := S.at 0 rfl
  unfold noteFrame
  simp only [hf]
  refine wpAny_bind (wpAny_field he h2 h3 ?_)
  rw [if_neg (by decide)]
  exact S.entry O hfr hk hf h
theorem note1 {T e : Nat} {A' : Around} {Q : Unit → Shared → Prop} (S : Sp w c g l ((T, TbO .none) :: (e, ExcO (.ref T)) :: own) s) (O : Out A c.gp c.s0.heap outer) (hfr : A'.frames = some (env :: outer)) (hk : env.scope.kind ≠ .module) (hf : env.frame = some c.L)
    (h : ∀ c' T' s', Slid c outer c' → Sp w c' g l ((T', TbO (rawInt c.L)) :: (e, ExcO (.ref T')) :: own) s' → Q () s') : wpAny M A' (noteFrame (.ref e) env) Q E s := by
  obtain ⟨oe, he, h1, vs, h2, h3, h4⟩ := S.at 1 rfl
  obtain ⟨ot, ht, ts, t1, t2⟩ := S.at 0 rfl
  unfold noteFrame
  simp only [hf]
  refine wpAny_bind (wpAny_field he h2 h3 ?_)
  rw [if_pos (show (Value.ref T != Value.none) = true from by simp)]
  refine wpAny_bind (wpAny_field ht t1 t2 ?_)
  rw [if_neg (show ¬ ((Value.none == rawInt c.L) = true) from by simp [rawInt])]
  refine wpAny_bind (wpAny_setField ht t1 (Array.getElem?_eq_some_iff.mp t2).1 ?_)
  have S1 := S.setF (s' := { s with heap := s.heap.update T (Obj.mapFields (·.setIfInBounds 3 Value.none)) }) (i := 0) (P' := TbO .none) rfl (fun o x => tbO_set x) rfl rfl rfl
  have S2 := S1.weakO (own' := (e, ExcO (.ref T)) :: own) (List.sublist_cons_self ..)
  exact S2.entry O hfr hk hf h
theorem note2 {T e : Nat} {A' : Around} {Q : Unit → Shared → Prop} (S : Sp w c g l ((T, TbO (rawInt c.L)) :: (e, ExcO (.ref T)) :: own) s) (hf : env.frame = some c.L) (h : Q () s) : wpAny M A' (noteFrame (.ref e) env) Q E s := by
  obtain ⟨oe, he, h1, vs, h2, h3, h4⟩ := S.at 1 rfl
  obtain ⟨ot, ht, ts, t1, t2⟩ := S.at 0 rfl
  unfold noteFrame
  simp only [hf]
  refine wpAny_bind (wpAny_field he h2 h3 ?_)
  rw [if_pos (show (Value.ref T != Value.none) = true from by simp)]
  refine wpAny_bind (wpAny_field ht t1 t2 ?_)
  rw [if_pos (show (rawInt c.L == rawInt c.L) = true from by simp)]
  exact wpAny_pure h
inductive Flyg (w : World) (c0 : Cx) (outer : List Env) (e : Nat) (s : Shared) : Prop
  | fresh {c : Cx} {g : Heap} {l : List (Str × Value)} {own : Own} : Slid c0 outer c → Sp w c g l ((e, ExcO .none) :: own) s → Flyg w c0 outer e s
  | apart {c : Cx} {g : Heap} {l : List (Str × Value)} {own : Own} {T : Nat} : Slid c0 outer c → Sp w c g l ((T, TbO .none) :: (e, ExcO (.ref T)) :: own) s → Flyg w c0 outer e s
  | held {c : Cx} {g : Heap} {l : List (Str × Value)} {own : Own} {T : Nat} : Slid c0 outer c → Sp w c g l ((T, TbO (rawInt c.L)) :: (e, ExcO (.ref T)) :: own) s → Flyg w c0 outer e s
def Thr (w : World) (s0 : Shared) (gp : Heap) (outer : List Env) (e : Nat) (s' : Shared) : Prop := ∃ (s0' : Shared) (g' : Heap) (L T : Nat), s0'.gens = s0.gens ∧ s0'.os = s0.os ∧ Heap.SlotsOnly (fsO outer) s0.heap s0'.heap ∧ Sp w ⟨s0', gp, L⟩ g' [] [(T, TbO .none), (e, ExcO (.ref T))] s'
theorem thr_of {c0 c : Cx} {T e : Nat} (z : Slid c0 outer c) (S : Sp w c g l ((T, TbO .none) :: (e, ExcO (.ref T)) :: own) s) : Thr w c0.s0 c0.gp outer e s := by
  obtain ⟨z1, z2, z3, z4, z5⟩ := z
  refine ⟨c.s0, g, c.L, T, z3, z4, z5, ?_⟩
  obtain ⟨cs, cg, cL⟩ := c
  dsimp only at z1 z2
  subst z1
  exact (S.weakO (own' := [(T, TbO .none), (e, ExcO (.ref T))]) (by simp)).weakL (fun _ hp => nomatch hp)
theorem leave {c0 : Cx} {e : Nat} {Q : Unit → Shared → Prop} (F : Flyg w c0 outer e s) (O : Out A c0.gp c0.s0.heap outer) (hk : env.scope.kind ≠ .module) (hf : env.frame = some c0.L) (h : ∀ s', Thr w c0.s0 c0.gp outer e s' → Q () s') : wpAny M (A.deeper env) (leaving env (.ref e)) Q E s := by
  have hfr := Around.frames_deeper (env := env) O.fr
  unfold leaving
  refine wpAny_bind ?_
  cases F with
  | fresh z S =>
    refine note0 S (O.slid z) hfr hk (by rw [z.2.1]; exact hf) fun c' T s' z' S' => ?_
    refine flight S' fun s'' S'' => h _ (thr_of (z.trans z') S'')
  | apart z S =>
    refine note1 S (O.slid z) hfr hk (by rw [z.2.1]; exact hf) fun c' T s' z' S' => ?_
    refine flight S' fun s'' S'' => h _ (thr_of (z.trans z') S'')
  | held z S =>
    refine note2 S (by rw [z.2.1]; exact hf) ?_
    refine flight S fun s'' S'' => h _ (thr_of z S'')
theorem forE_of {c0 : Cx} {e : Nat} (F : Flyg w c0 outer e s) (O : Out A c0.gp c0.s0.heap outer) (hk : env.scope.kind ≠ .module) (hf : env.frame = some c0.L) (h : ∀ s', Flyg w c0 outer e s' → E (.ref e) s') : notedBy M (A.deeper env) env (fun e s' => cameBackBy M (A.deeper env) env E e s') (.ref e) s := by
  have hfr := Around.frames_deeper (env := env) O.fr
  have go : ∀ {c g l own T s'}, Slid c0 outer c → Sp w c g l ((T, TbO (rawInt c0.L)) :: (e, ExcO (.ref T)) :: own) s' → cameBackBy M (A.deeper env) env E (.ref e) s' := by
    intro c g l own T s' z S
    obtain ⟨oe, he, h1, vs, h2, h3, h4⟩ := S.at 1 rfl
    unfold cameBackBy
    refine wpAny_bind (wpAny_field he h2 h3 ?_)
    rw [if_neg (show ¬ ((Value.ref T == Value.none) = true) from by simp)]
    refine flight S fun s'' S'' => h _ (.held (g := g) (l := l) (own := own) z (T := T) ?_)
    rw [hf] at S''
    have : c.L = c0.L := z.2.1
    rw [this]; exact S''
  unfold notedBy
  cases F with
  | fresh z S => exact note0 S (O.slid z) hfr hk (by rw [z.2.1]; exact hf) fun c' T s' z' S' => go (z.trans z') (by have := z.2.1; rw [this] at S'; exact S')
  | apart z S => exact note1 S (O.slid z) hfr hk (by rw [z.2.1]; exact hf) fun c' T s' z' S' => go (z.trans z') (by have := z.2.1; rw [this] at S'; exact S')
  | held z S => exact note2 S (by rw [z.2.1]; exact hf) (go z (by have := z.2.1; rw [this] at S; exact S))
theorem Sp.thr (S : Sp w c g l own s) (O : Out A c.gp c.s0.heap outer) (hf : env.frame = some c.L) {e : Nat} {s' : Shared} (t : Thr w s g (env :: outer) e s') : Flyg w c outer e s' := by
  obtain ⟨s0', g', L, T, z1, z2, z3, S2⟩ := t
  have hs : Heap.SlotsOnly (c.L :: fsO outer) s.heap s0'.heap := by
    have : fsO (env :: outer) = c.L :: fsO outer := by show List.filterMap _ _ = _; rw [List.filterMap_cons, hf]
    exact this ▸ z3
  obtain ⟨s1, y1, y2, y3, S1⟩ := S.slots hs z1 z2 fun f hf => O.mem hf
  obtain ⟨_, S3⟩ := S1.join S2
  exact .apart (c := ⟨s1, c.gp, c.L⟩) ⟨rfl, rfl, y1, y2, y3⟩ S3
def ConX (w : World) (A : Around) (f : Value) (pos : List Value) (kw : List (Str × Value)) (gp : Heap) (s : Shared) (outer : List Env) (Post : Heap → Value → Prop) (Bad : Prop) : Prop :=
  ∀ (Q : Value → Shared → Prop) (E : Value → Shared → Prop), (∀ v s', Back w gp s s' → (∀ gq, New s s' gp gq → Post gq v) → Q v s') → (∀ e s', Bad → Thr w s gp outer e s' → E (.ref e) s') → wpAny (MD w) A (call f pos kw) Q E s
theorem useX {f : Value} {pos : List Value} {kw : List (Str × Value)} {Post : Heap → Value → Prop} {Bad : Prop} {Q : Value → Shared → Prop} {A' : Around} (S : Sp w c g l own s) (C : ConX w A' f pos kw g s (env :: outer) Post Bad)
    (O : Out A c.gp c.s0.heap outer) (hf : env.frame = some c.L) (hE : ∀ e s', Bad → Flyg w c outer e s' → E (.ref e) s')
    (h : ∀ v s' g', Ext g g' → Post g' v → Sp w c g' l own s' → Q v s') : wpAny (MD w) A' (call f pos kw) Q E s := by
  refine C Q E (fun v s' B hp => ?_) fun e s' b t => hE e s' b (S.thr O hf t)
  obtain ⟨g', e, S', N⟩ := S.after B
  exact h v s' g' e (hp g' N) S'
theorem enterX {f : Addr} {name qual : Str} {params : Arguments} {body : List Stmt} {scope : Scope} {dV kV doc pm cdv ct oc : Value} {an od : Option Addr} {osl : Array (Option Value)} {pos : List Value} {kw : List (Str × Value)} {binds : List (Str × Value)} {Q : Value → Shared → Prop}
    (I : In w gp s) (hroom : A.depth < recursionLimit)
    (ho : (hd.heap_39 w.params).lookup f = some ⟨oc, od, .func (fnOf name qual params body scope dV kV doc pm an cdv ct), osl⟩) (hcd : codeIn (hd.heap_39 w.params) cdv qual = true)
    (hbind : BindsTo s (fnOf name qual params body scope dV kV doc pm an cdv ct) ⟨pos, kw⟩ binds) (hloc : ∀ y ∈ binds, scope.names.lookup y.1 = some .local)
    (h : ∀ L s1, Sp w ⟨s, gp, L⟩ gp binds.reverse [] s1 →
      wpAny (MD w) (A.deeper (envOf qual scope L f cdv)) (execs body (envOf qual scope L f cdv)) (retQ Q)
        (fun e s' => wpAny (MD w) (A.deeper (envOf qual scope L f cdv)) (leaving (envOf qual scope L f cdv) e) (fun _ s'' => E e s'') (fun e' s'' => E e' s'') s') s1)
    (hcell : ∀ x ∈ scope.names, x.2 ≠ .cell) (hco : scope.isCoroutine = false) (hgen : scope.isGenerator = false) (hk : scope.kind = .function) : wpAny (MD w) A (call (.ref f) pos kw) Q E s := by
  have hlim : s.heap.NoLimit := ⟨_, .of_isNs (isNs_of_in (N := cStatics) I.gl.kin (by kernel_rfl)), nsMap_none_of_in I.gl.kin (by kernel_rfl) (by kernel_rfl)⟩
  refine wpAny_call (codeAny_call_def (fd := fnOf name qual params body scope dV kV doc pm an cdv ct) (body := body) (binds := binds) hroom (I.gl.kin _ _ ho) rfl hlim (codeRec_of I.gl.kin hcd) rfl hbind hcell hloc (fun h₁ hns hk₁ => ?_) hco hgen hk)
  refine wpAny_mono (h s.heap.objs.size _ (start (I := I) (s1 := { s with heap := h₁, toks := s.toks + binds.length }) (own := []) hns hk₁ (Nat.le_refl _) rfl rfl (fun x v e => e) (fun _ hp => nomatch hp) .nil)) (fun fl s' q => ?_) fun _ _ x => x
  cases fl <;> exact q
end
end Mine
end
section
set_option maxHeartbeats 4000000
namespace Mine
def Hnd (A : Around) (h : Heap) : Prop := A.handled = none ∨ ∃ (e : Nat) (o : Obj) (vs : Array Value), A.handled = some (.ref e) ∧ h.get? e = some o ∧ o.data = .fields vs ∧ vs[2]? = some .none
theorem Hnd.mono {A : Around} {h h' : Heap} (x : Hnd A h) (e : Ext h h') : Hnd A h' := x.imp id fun ⟨a, o, vs, h1, h2, h3⟩ => ⟨a, o, vs, h1, e _ _ h2, h3⟩
theorem entry_unchain : entryFor table "proto.unchain" = some Builtin.«proto.unchain» := entryFor_of_tree (by kernel_rfl)
section
variable {w : World} {A : Around} {E : Value → Shared → Prop} {s : Shared} {α : Type}
theorem raiseH {e : Nat} {oe : Obj} {fs : Array Value} {Q : α → Shared → Prop} (hh : Hnd A s.heap) (he : s.heap.get? e = some oe) (hf : oe.data = .fields fs) (hz : 2 < fs.size) (hc : oe.cls = .type "StopIteration") (hne : ∀ x, A.handled = some (.ref x) → x ≠ e)
    (hE : ∀ h', Heap.ExtBut e s.heap h' → (∃ o, h'.get? e = some o ∧ o.cls = .type "StopIteration") → E (.ref e) { s with heap := h' }) :
    wpAny (MD w) A (raiseNew (.ref e) : Sem α) Q E s := by
  obtain ⟨c1, c2, c3, c4⟩ := oe
  dsimp only at hf hc
  subst hf hc
  unfold raiseNew
  refine wpAny_bind (wpAny_handled ?_)
  rcases hh with hh | ⟨x, ox, vs, hh, h1, h2, h3⟩
  · rw [hh]
    exact wpAny_bind (wpAny_pure (wpAny_throw (hE _ (fun b o _ q => q) ⟨_, he, rfl⟩)))
  · rw [hh]
    dsimp only
    rw [if_pos (show (Value.ref x != Value.ref e) = true by simpa using hne x hh)]
    refine wpAny_bind (wpAny_holding (wpAny_runValue (codeAny_builtin entry_unchain ?_)))
    refine wpAny_bind (wpAny_field h1 h2 h3 ?_)
    wp_walk
    exact hE _ (Heap.SameBut.update ..).extBut ⟨_, Heap.get?_update_self _ he rfl, rfl⟩
theorem Hnd.lt {h : Heap} (hh : Hnd A h) {x : Addr} (hx : A.handled = some (.ref x)) : @LT.lt Nat _ x h.objs.size := by
  rcases hh with q | ⟨a, o, vs, h1, h2, _⟩
  · rw [q] at hx; cases hx
  · rw [h1] at hx; cases hx; exact Heap.lt_size h2
theorem stopN {it : Addr} {h1 : Heap} {ot ox : Obj} {fs : Array Value} {Q : α → Shared → Prop} (hh : Hnd A s.heap) (hn : ∀ e, A.handled = some (.ref e) → e ≠ it) (hb : Heap.SameBut it s.heap h1) (hf : ox.data = .fields fs) (hz : 2 < fs.size) (hc : ox.cls = .type "StopIteration")
    (hE : ∀ h' e, Heap.ExtBut it s.heap h' → (∃ o, h'.get? e = some o ∧ o.cls = .type "StopIteration") → E (.ref e) { s with heap := h' }) :
    wpAny (MD w) A (raiseNew (.ref (h1.push ot).objs.size) : Sem α) Q E { s with heap := (h1.push ot).push ox } := by
  have up : ∀ (b : Addr) o, b ≠ it → s.heap.get? b = some o → ((h1.push ot).push ox).get? b = some o := fun b o k q => Heap.get?_push_of_some _ (Heap.get?_push_of_some _ (hb.extBut b o k q))
  have far : ∀ x : Addr, @LT.lt Nat _ x s.heap.objs.size → x ≠ (h1.push ot).objs.size := fun x q z => by
    have e1 : (h1.push ot).objs.size = h1.objs.size + 1 := Heap.size_push ..
    have e2 := hb.1
    rw [z, e1, e2] at q
    exact absurd q (by omega)
  refine raiseH (hh.imp id fun ⟨a, oa, vs, q1, q2, q3⟩ => ⟨a, oa, vs, q1, up a oa (hn a q1) q2, q3⟩) (Heap.get?_push_size _ (by cases ox; cases hf; rfl)) hf hz hc (fun x hx => far x (hh.lt hx)) fun h' k x => hE h' _ (fun b o kb q => k b o (far b (Heap.lt_size q)) (up b o kb q)) x
theorem tupNextH {it tq : Addr} {i : Nat} {items : Array Value} {R : Fin → Shared → Prop} (hh : Hnd A s.heap) (hit : s.heap.IsTupleIter it tq i) (ht : s.heap.IsTuple tq items) (hx : items[i]? = none) (hn : ∀ e, A.handled = some (.ref e) → e ≠ it)
    (hE : ∀ h' e, Heap.ExtBut it s.heap h' → (∃ o, h'.get? e = some o ∧ o.cls = .type "StopIteration") → E (.ref e) { s with heap := h' }) :
    wpAny (MD w) A (Builtin.«tuple_iterator.__next__» ⟨[.ref it], []⟩) R E s := by
  obtain ⟨⟨oc, odi, oda, osl⟩, ho, hc, hd⟩ := id hit
  obtain ⟨⟨tc, tdi, tda, tsl⟩, hot, _, nt, hdt⟩ := id ht
  dsimp only at hc hd hdt
  subst hc hd hdt
  have hT := hit.typeIs
  wp_walk
  rw [Int.toNat_natCast, hx]
  wp_walk
  exact stopN hh hn (Heap.SameBut.update ..) rfl (by simp only [Array.size_append]; exact Nat.lt_of_lt_of_le (show 2 < 6 by decide) (Nat.le_add_right _ _)) rfl hE
theorem tupEndN {it tq : Addr} {i : Nat} {items : Array Value} {Q : Value → Shared → Prop} (hh : Hnd A s.heap) (hit : s.heap.IsTupleIter it tq i) (ht : s.heap.IsTuple tq items) (hx : items[i]? = none) (hn : ∀ e, A.handled = some (.ref e) → e ≠ it)
    (hE : ∀ h' e, Heap.ExtBut it s.heap h' → (∃ o, h'.get? e = some o ∧ o.cls = .type "StopIteration") → E (.ref e) { s with heap := h' }) :
    wpAny (MD w) A (Builtin.SmallTypes.nextOf (.ref it)) Q E s := by
  unfold Builtin.SmallTypes.nextOf
  exact wpAny_bind (wpAny_callSpecial?_slot (name := Str.ofString "__next__") hit.typeIs F.slot_tuple_iterator_next
    (wpAny_call_entry F.slot_tuple_iterator_next hit.typeIs F.entry_tuple_iterator_next (tupNextH hh hit ht hx hn hE) (F.args_tuple_iterator_next_1 _)))
theorem tupEndP {it tq : Addr} {i : Nat} {items : Array Value} {Q : Option Value → Shared → Prop} (hh : Hnd A s.heap) (hit : s.heap.IsTupleIter it tq i) (ht : s.heap.IsTuple tq items) (hx : items[i]? = none) (hn : ∀ e, A.handled = some (.ref e) → e ≠ it)
    (hQ : ∀ h', Heap.ExtBut it s.heap h' → Q none { s with heap := h' }) : wpAny (MD w) A (pyNext (.ref it)) Q E s := by
  unfold pyNext
  refine wpAny_bind (wpAny_attempt (wpAny_callSpecial?_slot (name := Str.ofString "__next__") hit.typeIs F.slot_tuple_iterator_next
    (wpAny_call_entry F.slot_tuple_iterator_next hit.typeIs F.entry_tuple_iterator_next (tupNextH hh hit ht hx hn fun h' e k x => ?_) (F.args_tuple_iterator_next_1 _))))
  obtain ⟨o, ho, hc⟩ := x
  refine wpAny_bind (wpAny_isInstance (T := "StopIteration") (b := true) ⟨o, ho, hc⟩ isSubtype_stop ?_)
  exact wpAny_pure (hQ _ k)
theorem dictNextH {it d : Addr} {i ep : Nat} {kvs : List (Str × Value)} {R : Fin → Shared → Prop} (hh : Hnd A s.heap) (hit : s.heap.IsKeyIter it d i kvs.length ep) (hm : s.heap.DictAt (strKind P0 w) d kvs ep) (hx : kvs[i]? = none) (hn : ∀ e, A.handled = some (.ref e) → e ≠ it)
    (hE : ∀ h' e, Heap.ExtBut it s.heap h' → (∃ o, h'.get? e = some o ∧ o.cls = .type "StopIteration") → E (.ref e) { s with heap := h' }) :
    wpAny (MD w) A (Builtin.«dict_keyiterator.__next__» ⟨[.ref it], []⟩) R E s := by
  obtain ⟨⟨oc, odi, oda, osl⟩, ho, hc, hd⟩ := id hit
  obtain ⟨⟨dc, ddi, dda, dsl⟩, es, hod, hcd, hdd, hk, hp, hnn⟩ := id hm
  dsimp only at hc hd hdd
  subst hc hd hdd
  have hT := hit.typeIs
  have hsz : es.size = kvs.length := by rw [← Array.length_toList, hp.length]
  have hge : es[i]? = none := Array.getElem?_eq_none (by rw [hsz]; exact List.getElem?_eq_none_iff.mp hx)
  wp_walk
  rw [if_neg (show ¬ (i : Int) < 0 by omega), Int.toNat_natCast, hge]
  wp_walk
  exact stopN hh hn (Heap.SameBut.update ..) rfl (by simp only [Array.size_append]; exact Nat.lt_of_lt_of_le (show 2 < 6 by decide) (Nat.le_add_right _ _)) rfl hE
theorem dictEndP {it d : Addr} {i ep : Nat} {kvs : List (Str × Value)} {Q : Option Value → Shared → Prop} (hh : Hnd A s.heap) (hit : s.heap.IsKeyIter it d i kvs.length ep) (hm : s.heap.DictAt (strKind P0 w) d kvs ep) (hx : kvs[i]? = none) (hn : ∀ e, A.handled = some (.ref e) → e ≠ it)
    (hQ : ∀ h', Heap.ExtBut it s.heap h' → Q none { s with heap := h' }) : wpAny (MD w) A (pyNext (.ref it)) Q E s := by
  unfold pyNext
  refine wpAny_bind (wpAny_attempt (wpAny_callSpecial?_slot (name := Str.ofString "__next__") hit.typeIs F.slot_dict_keyiterator_next
    (wpAny_call_entry F.slot_dict_keyiterator_next hit.typeIs F.entry_dict_keyiterator_next (dictNextH hh hit hm hx hn fun h' e k x => ?_) (F.args_dict_keyiterator_next_1 _))))
  obtain ⟨o, ho, hc⟩ := x
  refine wpAny_bind (wpAny_isInstance (T := "StopIteration") (b := true) ⟨o, ho, hc⟩ isSubtype_stop ?_)
  exact wpAny_pure (hQ _ k)
end
section
variable {w : World} {c : Cx} {g : Heap} {l : List (Str × Value)} {own : Own} {s : Shared} {A : Around} {E : Value → Shared → Prop} {env : Env}
theorem Hnd.ne {gp : Heap} (hh : Hnd A gp) {it : Nat} (h : gp.get? it = none) : ∀ e, A.handled = some (.ref e) → e ≠ it := fun e he z => by
  rcases hh with q | ⟨a, o, vs, h1, h2, h3⟩
  · rw [q] at he; cases he
  · rw [h1] at he; cases he; subst z; rw [h] at h2; cases h2
theorem it_TH {a : Nat} {vs : List Value} {x : Str} {px : Pos} {Q : Value → Shared → Prop} (hh : Hnd A g) (S : Sp w c g l own s) (hT : IsT g a vs) (h : Itr w A (.Name x px) c g l own vs.length (fun i v _ => vs[i]? = some v) Q) : wpAny (MD w) A (pyIter (.ref a)) Q E s := by
  obtain ⟨k, hg⟩ := id hT
  have hT' : s.heap.IsTuple a vs.toArray := (hT.mono S.ge).tup
  refine wpAny_pyIter_tuple hT' ?_
  have ne : a ≠ s.heap.objs.size := Nat.ne_of_lt (ltz (S.ge _ _ hg))
  have gn : g.get? s.heap.objs.size = none := (S.new_of (Nat.le_refl _)).1
  have e : vs.toArray.size = vs.length := List.size_toArray ..
  have hn := hh.ne gn
  have hnd : ∀ h, (∀ (b : Addr) o, (∃ a', A.handled = some (.ref b)) → g.get? b = some o → h.get? b = some o) → Hnd A h := fun h k => hh.imp id fun ⟨a, o, vs, h1, h2, h3⟩ => ⟨a, o, vs, h1, k a o ⟨0, h1⟩ h2, h3⟩
  generalize hI : s.heap.objs.size = I at *
  have fpW : ∃ fp : List Addr, (∀ b, b ∈ fp ↔ b = I ∨ b = a ∨ A.handled = some (.ref b)) := by
    rcases hh with q | ⟨b, o, vs, h1, h2, h3⟩
    · exact ⟨[I, a], fun b => by simp [q]⟩
    · refine ⟨[I, a, b], fun b' => ?_⟩
      simp only [List.mem_cons, List.not_mem_nil, or_false]
      rw [h1]
      simp [eq_comm]
  obtain ⟨fp, hfp⟩ := fpW
  have K : KTurns P0 w A (.Name x px) I fp [I] vs.length (fun i v _ => vs[i]? = some v) (fun i v h => vs[i]? = some v ∧ (h.IsTupleIter I a (i + 1) ∧ h.IsTuple a vs.toArray ∧ Hnd A h)) (fun i h => h.IsTupleIter I a i ∧ h.IsTuple a vs.toArray ∧ Hnd A h) := by
    refine ⟨fun b hb => ?_, fun i h h' st hk => ?_, fun i s Q E hi st hQ => ?_, fun i v s Q E hm hQ => ?_, fun s Q E st hQ => ?_⟩
    · rw [List.mem_singleton] at hb; exact (hfp b).mpr (.inl hb)
    · exact ⟨st.1.at fun o e => hk I ((hfp I).mpr (.inl rfl)) o e, st.2.1.at fun o e => hk a ((hfp a).mpr (.inr (.inl rfl))) o e, st.2.2.imp id fun ⟨b, o, ws, h1, h2, h3⟩ => ⟨b, o, ws, h1, hk b ((hfp b).mpr (.inr (.inr h1))) o h2, h3⟩⟩
    · refine wpAny_pyNext_tuple_item st.1 st.2.1 (x := vs[i]) (by simp [hi]) fun h' hit' hs' => ?_
      refine hQ _ h' s.toks ⟨by simp [hi], hit', st.2.1.extBut hs'.extBut (nea ne), st.2.2.imp id fun ⟨b, o, ws, h1, h2, h3⟩ => ⟨b, o, ws, h1, hs'.extBut _ _ (hn b h1) h2, h3⟩⟩ fun b o hb e => hs'.extBut b o (fun h => hb (by simp [h])) e
    · exact wpAny_pure (hQ s.heap hm.1 hm.2 fun _ _ _ e => e)
    · exact tupEndP st.2.2 st.1 st.2.1 (by simp) hn fun h' he' => hQ h' s.toks fun b o hb e => he' b o (fun h => hb (by simp [h])) e
  refine h I fp [I] _ _ [(I, _)] _ (KT.mk K (fun i h st b hb => ?_) (fun s Q E st q => wpAny_pyIter_tupleiter st.1 q)) ⟨rfl, fun b hb hnb => ?_⟩ (by rw [← hI]; exact S.pushE rfl rfl rfl rfl) ⟨⟨_, by rw [← hI]; exact Heap.get?_push_size _ rfl, rfl, rfl⟩, hT'.at fun o e => Heap.get?_push_of_some _ e, (hh.mono S.ge).mono fun b o e => Heap.get?_push_of_some _ e⟩
  · obtain ⟨⟨o, ho, _⟩, _⟩ := st
    rw [List.mem_singleton.mp hb]; exact ⟨o, ho⟩
  · rcases (hfp b).mp hb with rfl | rfl | h1
    · exact absurd (List.mem_singleton.mpr rfl) hnb
    · rw [hg]; rfl
    · rcases hh with q | ⟨b', o, ws, h1', h2, h3⟩
      · rw [q] at h1; cases h1
      · rw [h1'] at h1; cases h1; rw [h2]; rfl
theorem it_DH {a : Nat} {x : Str} {px : Pos} {Q : Value → Shared → Prop} (hh : Hnd A g) (S : Sp w c g l own s) (hT : IsD w g a []) (h : Itr w A (.Name x px) c g l own 0 (fun i v _ => False) Q) : wpAny (MD w) A (pyIter (.ref a)) Q E s := by
  obtain ⟨oa, hg, _⟩ := id hT.1
  obtain ⟨ep, hT'⟩ := (hT.mono S.ge).at
  refine wpAny_pyIter_dict hT.sm hT' ?_
  have ne : a ≠ s.heap.objs.size := Nat.ne_of_lt (ltz (S.ge _ _ hg))
  have gn : g.get? s.heap.objs.size = none := (S.new_of (Nat.le_refl _)).1
  have hn := hh.ne gn
  generalize hI : s.heap.objs.size = I at *
  have fpW : ∃ fp : List Addr, (∀ b, b ∈ fp ↔ b = I ∨ b = a ∨ A.handled = some (.ref b)) := by
    rcases hh with q | ⟨b, o, vs, h1, h2, h3⟩
    · exact ⟨[I, a], fun b => by simp [q]⟩
    · refine ⟨[I, a, b], fun b' => ?_⟩
      simp only [List.mem_cons, List.not_mem_nil, or_false]
      rw [h1]
      simp [eq_comm]
  obtain ⟨fp, hfp⟩ := fpW
  have K : KTurns P0 w A (.Name x px) I fp [I] 0 (fun i v _ => False) (fun i v h => False) (fun i h => h.IsKeyIter I a i ([] : List (Str × Value)).length ep ∧ h.DictAt (strKind P0 w) a [] ep ∧ Hnd A h) := by
    refine ⟨fun b hb => ?_, fun i h h' st hk => ?_, fun i s Q E hi st hQ => ?_, fun i v s Q E hm hQ => ?_, fun s Q E st hQ => ?_⟩
    · rw [List.mem_singleton] at hb; exact (hfp b).mpr (.inl hb)
    · exact ⟨st.1.at fun o e => hk I ((hfp I).mpr (.inl rfl)) o e, st.2.1.at' fun o e => hk a ((hfp a).mpr (.inr (.inl rfl))) o e, st.2.2.imp id fun ⟨b, o, ws, h1, h2, h3⟩ => ⟨b, o, ws, h1, hk b ((hfp b).mpr (.inr (.inr h1))) o h2, h3⟩⟩
    · exact absurd hi (Nat.not_lt_zero _)
    · exact hm.elim
    · exact dictEndP st.2.2 st.1 st.2.1 rfl hn fun h' he' => hQ h' s.toks fun b o hb e => he' b o (fun h => hb (by simp [h])) e
  refine h I fp [I] _ _ [(I, _)] _ (KT.mk K (fun i h st b hb => ?_) (fun s Q E st q => wpAny_pyIter_keyiter st.1 q)) ⟨rfl, fun b hb hnb => ?_⟩ (by rw [← hI]; exact S.pushE rfl rfl rfl rfl) ⟨⟨_, by rw [← hI]; exact Heap.get?_push_size _ rfl, rfl, rfl⟩, hT'.at' fun o e => Heap.get?_push_of_some _ e, (hh.mono S.ge).mono fun b o e => Heap.get?_push_of_some _ e⟩
  · obtain ⟨⟨o, ho, _⟩, _⟩ := st
    rw [List.mem_singleton.mp hb]; exact ⟨o, ho⟩
  · rcases (hfp b).mp hb with rfl | rfl | h1
    · exact absurd (List.mem_singleton.mpr rfl) hnb
    · rw [hg]; rfl
    · rcases hh with q | ⟨b', o, ws, h1', h2, h3⟩
      · rw [q] at h1; cases h1
      · rw [h1'] at h1; cases h1; rw [h2]; rfl
variable {x y : Str} {px py tp : Pos} {kk : Nat} {body orelse : List Stmt} {Q : Flow → Shared → Prop}
theorem for_TH {a : Nat} {vs : List Value} (hh : Hnd A g) (S : Sp w c g l own s) (hT : IsT g a vs) (Inv : Nat → Heap → List (Str × Value) → Own → Prop) (i0 : Inv 0 g l own)
    (turn : ∀ k v its g' l' own' s', vs[k]? = some v → Ext g g' → Inv k g' l' own' → Sp w c g' ((x, v) :: l') (own' ++ itO its) s' → wpAny (MD w) A (execs body env) (loopQ (Nx1 w c g' its Inv k) Q) (forE w A env E) s')
    (fin : ∀ g' l' own' s', Ext g g' → Inv vs.length g' l' own' → Sp w c g' l' own' s' → wpAny (MD w) A (execs orelse env) Q (forE w A env E) s')
    (hL : env.locals = c.L := by rfl) (hl : env.kindOf x = some .local := by kernel_rfl) (hp : (env.scope.kind == .class || (env.scope.kind == .module && env.locals != env.globals)) = false := by rfl) :
    wpAny (MD w) A (pyIter (.ref a)) (fun it s₂ => codeAny (MD w) A (.forLoop (.Name x px) it body orelse env) (fun r s' => match r with | .ok f => Q f s' | .error e => cameBackBy (MD w) A env E e s') s₂) E s :=
  it_TH hh S hT fun I fp wr Md St its s1 T a S1 st => for_any T a S1 st (asg1 (P1 := fun k v => vs[k]? = some v) hL hl hp) Inv i0 (fun k its g' l' own' b s' hk e iv hb S' => by obtain ⟨v, rfl, hv⟩ := hb; exact turn k v its g' l' own' s' hv e iv S') fin
theorem for_DH {a : Nat} (hh : Hnd A g) (S : Sp w c g l own s) (hT : IsD w g a [])
    (fin : ∀ s', Sp w c g l own s' → wpAny (MD w) A (execs orelse env) Q (forE w A env E) s')
    (hL : env.locals = c.L := by rfl) (hl : env.kindOf x = some .local := by kernel_rfl) (hp : (env.scope.kind == .class || (env.scope.kind == .module && env.locals != env.globals)) = false := by rfl) :
    wpAny (MD w) A (pyIter (.ref a)) (fun it s₂ => codeAny (MD w) A (.forLoop (.Name x px) it body orelse env) (fun r s' => match r with | .ok f => Q f s' | .error e => cameBackBy (MD w) A env E e s') s₂) E s :=
  it_DH hh S hT fun I fp wr Md St its s1 T a S1 st => for_any T a S1 st (asg1 (P1 := fun k v => False) hL hl hp) (fun k g' l' own' => k = 0 ∧ g' = g ∧ l' = l ∧ own' = own) ⟨rfl, rfl, rfl, rfl⟩ (fun k its g' l' own' b s' hk e iv hb S' => absurd hk (Nat.not_lt_zero _)) fun g' l' own' s' e iv S' => by obtain ⟨_, rfl, rfl, rfl⟩ := iv; exact fin s' S'
end
end Mine
end
section
set_option maxHeartbeats 4000000
namespace Mine
theorem meets_zip_lt (l1 l2 : Addr) (xs ys : Array Value) :
    Meets (Builtin.«zip.__new__» ⟨[.type "zip", .ref l1, .ref l2], []⟩) (fun _ R s => s.heap.IsList l1 xs ∧ s.heap.IsTuple l2 ys ∧
      R (.ok (.ret (.ref (s.heap.objs.size + 4)))) { s with heap := ((((s.heap.push { cls := .type "list_iterator", data := .fields #[.ref l1, .int 0 0] }).push { cls := .type "tuple_iterator", data := .fields #[.ref l2, .int 0 0] }).push { cls := .type "tuple", data := .seq #[.ref s.heap.objs.size, .ref (s.heap.objs.size + 1)] }).push { cls := .type "tuple", data := .seq #[.none, .none] }).push { cls := .type "zip", data := .fields #[.none, .bool false, .bool false, .ref (s.heap.objs.size + 2), .ref (s.heap.objs.size + 3)] } }) :=
  .of_wp fun prog w A R s h => by
    obtain ⟨hp, g, d, tk, os⟩ := s; obtain ⟨hl1, hl2, h⟩ := h
    have hsub := sub_zip
    have hL1 : Heap.IsList (Shared.heap ⟨hp, g, d, tk, os⟩) l1 xs := hl1
    have hL2 : Heap.IsTuple (Shared.heap ⟨hp.push { cls := .type "list_iterator", data := .fields #[.ref l1, .int 0 0] }, g, d, tk, os⟩) l2 ys := hl2.at fun o e => Heap.get?_push_of_some _ e
    wp_walk using wpAny_pyIter_list hL1, wpAny_pyIter_tuple hL2
    simp only [Heap.size_push] at h ⊢
    exact ⟨_, rfl, h⟩
section
variable {w : World} {c : Cx} {g : Heap} {l : List (Str × Value)} {own : Own} {s : Shared} {A : Around} {E : Value → Shared → Prop} {env : Env}
theorem zipEnd {z TI TO i1 i2 l1 l2 : Nat} {xs : Array Value} {a b : Value} {Q : Option Value → Shared → Prop} (hh : A.handled = none)
    (h12 : TI ≠ z ∧ TO ≠ z ∧ i1 ≠ z ∧ i2 ≠ z ∧ TO ≠ i1 ∧ TO ≠ i2 ∧ i1 ≠ i2 ∧ l1 ≠ z ∧ l2 ≠ z ∧ l1 ≠ i1 ∧ l2 ≠ i1 ∧ l2 ≠ TO)
    (hz : IsZip s.heap z TI TO .none) (hTI : IsPair s.heap TI (.ref i1) (.ref i2)) (hTO : IsPair s.heap TO a b)
    (h1 : s.heap.IsListIter i1 l1 0) (h2 : s.heap.IsTupleIter i2 l2 0) (hl1 : s.heap.IsList l1 xs) (hl2 : s.heap.IsTuple l2 #[])
    (hQ : ∀ h', (∀ c o, c ≠ z → c ≠ TO → c ≠ i1 → c ≠ i2 → s.heap.get? c = some o → h'.get? c = some o) → Q none { s with heap := h' }) : wpAny (MD w) A (pyNext (.ref z)) Q E s := by
  obtain ⟨TIz, TOz, i1z, i2z, TOi1, TOi2, i12, l1z, l2z, l1i1, l2i1, l2TO⟩ := h12
  have hT : s.TypeIs (.ref z) "zip" := ⟨_, hz, rfl⟩
  unfold pyNext
  refine wpAny_bind (wpAny_attempt (wpAny_callSpecial?_slot (name := Str.ofString "__next__") hT F.slot_zip_next
    (wpAny_call_entry F.slot_zip_next hT F.entry_zip_next ?_ (F.args_zip_next_1 _))))
  have fin : ∀ h' e, (∀ c o, c ≠ z → c ≠ TO → c ≠ i1 → c ≠ i2 → s.heap.get? c = some o → h'.get? c = some o) → (∃ o, h'.get? e = some o ∧ o.cls = .type "StopIteration") →
      wpAny (MD w) A (do if ← isInstance (.ref e) (.type "StopIteration") then pure none else throw (.ref e) : Sem (Option Value)) Q E { s with heap := h' } := fun h' e hk he => by
    obtain ⟨o, ho, hc⟩ := he
    refine wpAny_bind (wpAny_isInstance (T := "StopIteration") (b := true) ⟨o, ho, hc⟩ isSubtype_stop ?_)
    exact wpAny_pure (hQ _ hk)
  iterate 58 wp_step
  refine wpAny_setField_rec hz (by simp) fun h₁ (hz₁ : IsZip h₁ z TI TO .ellipsis) hs₁ => ?_
  refine wpAny_bind ?_
  simp only [List.zipIdx_cons, List.zipIdx_nil, List.forIn_cons, List.forIn_nil]
  refine wpAny_bind (wpAny_bind (wpAny_onRaise ?_))
  show wpAny _ _ (Builtin.SmallTypes.nextOf (.ref i1) >>= _) _ _ _
  cases hx : xs[0]? with
  | none =>
    refine wpAny_bind (wpAny_nextOf_list_end hh (h1.extBut hs₁.extBut (nea i1z)) (hl1.extBut hs₁.extBut (nea l1z)) hx fun h₂ e hs₂ he => ?_)
    obtain ⟨oe, hoe, hce⟩ := he
    have hz₂ : IsZip h₂ z TI TO .ellipsis := hs₂ _ _ (nea (Ne.symm i1z)) hz₁
    have hez : e ≠ z := fun x => by subst x; rw [hz₂] at hoe; cases hoe; simp at hce
    refine wpAny_setField_rec hz₂ (by simp) fun h₃ _ hs₃ => fin h₃ e (fun c o c1 _ c3 _ x => hs₃.extBut _ _ c1 (hs₂ _ _ c3 (hs₁.extBut _ _ c1 x))) ⟨oe, hs₃.extBut _ _ hez hoe, hce⟩
  | some x =>
    refine wpAny_bind (wpAny_nextOf_list_item (h1.extBut hs₁.extBut (nea i1z)) (hl1.extBut hs₁.extBut (nea l1z)) hx fun h₂ h1₂ hs₂ => wpAny_pure ?_)
    have hTO₂ : IsPair h₂ TO a b := hs₂.extBut _ _ (nea TOi1) (hs₁.extBut _ _ (nea TOz) hTO)
    refine wpAny_bind (wpAny_seqItems hTO₂ rfl ?_)
    refine wpAny_bind (wpAny_updateSeq_pair hTO₂ fun h₃ hTO₃ hs₃ => ?_)
    refine wpAny_bind (wpAny_letGo (wpAny_pure ?_))
    refine wpAny_bind (wpAny_bind (wpAny_onRaise ?_))
    show wpAny _ _ (Builtin.SmallTypes.nextOf (.ref i2) >>= _) _ _ _
    have k2 : ∀ (b : Nat) o, b ≠ z → b ≠ i1 → b ≠ TO → s.heap.get? b = some o → h₃.get? b = some o := fun b o b1 b2 b3 x => hs₃.extBut _ _ (nea b3) (hs₂.extBut _ _ (nea b2) (hs₁.extBut _ _ (nea b1) x))
    refine wpAny_bind (tupEndN (.inl hh) (h2.at fun o x => k2 _ o i2z (Ne.symm i12) (Ne.symm TOi2) x)
      (hl2.at fun o x => k2 _ o l2z l2i1 l2TO x) rfl (fun e he => by rw [show A.handled = none from hh] at he; cases he) fun h₄ e hs₄ he => ?_)
    obtain ⟨oe, hoe, hce⟩ := he
    have hz₄ : IsZip h₄ z TI TO .ellipsis := hs₄ _ _ (nea (Ne.symm i2z)) (hs₃.extBut _ _ (nea (Ne.symm TOz)) (hs₂.extBut _ _ (nea (Ne.symm i1z)) hz₁))
    have hez : e ≠ z := fun x => by subst x; rw [hz₄] at hoe; cases hoe; simp at hce
    refine wpAny_setField_rec hz₄ (by simp) fun h₅ _ hs₅ => fin h₅ e (fun c o c1 c2 c3 c4 x => hs₅.extBut _ _ c1 (hs₄ _ _ c4 (k2 c o c1 c3 c2 x))) ⟨oe, hs₅.extBut _ _ hez hoe, hce⟩
theorem newZip0 {a b : Nat} {vs : List Value} {Q : Value → Shared → Prop} (hh : A.handled = none) (S : Sp w c g l own s) (hL : IsL g a vs) (hB : IsT g b [])
    (h : Itr2 w A c g l own 0 (fun i v h => False) Q) : wpAny (MD w) A (call (.type "zip") [.ref a, .ref b]) Q E s := by
  obtain ⟨k1, hga⟩ := id hL
  obtain ⟨k2, hgb⟩ := id hB
  have hl1 := (hL.mono S.ge).list
  have hl2 := (hB.mono S.ge).tup
  refine callType_new F.called_zip (by decide) (F.typeCall_zip_2 _ _) (F.newCall_zip_2 _ _) (fun obj => F.args_object_init_3 obj _ _) F.entry_zip_new
    (meets_zip_lt a b vs.toArray #[]) ⟨hl1, hl2, ?_⟩
  have la : a < s.heap.objs.size := Heap.lt_size (S.ge _ _ hga)
  have lb : b < s.heap.objs.size := Heap.lt_size (S.ge _ _ hgb)
  obtain ⟨n, hn⟩ : ∃ n, s.heap.objs.size = n := ⟨_, rfl⟩
  rw [hn] at la lb
  rw [hn]
  have e0 : ∀ {h : Heap} {o : Obj} {n : Nat}, h.objs.size = n → (h.push o).objs.size = n + 1 := fun q => by rw [Heap.size_push, q]
  let o1 : Obj := { cls := .type "list_iterator", data := .fields #[.ref a, .int 0 0] }
  let o2 : Obj := { cls := .type "tuple_iterator", data := .fields #[.ref b, .int 0 0] }
  let o3 : Obj := { cls := .type "tuple", data := .seq #[.ref n, .ref (n + 1)] }
  let o4 : Obj := { cls := .type "tuple", data := .seq #[.none, .none] }
  let o5 : Obj := { cls := .type "zip", data := .fields #[.none, .bool false, .bool false, .ref (n + 2), .ref (n + 3)] }
  have z1 : (s.heap.push o1).objs.size = n + 1 := e0 hn
  have z2 : ((s.heap.push o1).push o2).objs.size = n + 2 := e0 z1
  have z3 : (((s.heap.push o1).push o2).push o3).objs.size = n + 3 := e0 z2
  have z4 : ((((s.heap.push o1).push o2).push o3).push o4).objs.size = n + 4 := e0 z3
  have S1 := S.push (P := fun x => x = o1) (o := o1) (s' := { s with heap := s.heap.push o1 }) rfl rfl rfl rfl rfl
  have S2 := S1.push (P := fun x => x = o2) (o := o2) (s' := { s with heap := (s.heap.push o1).push o2 }) rfl rfl rfl rfl rfl
  have S3 := S2.push (P := fun x => x = o3) (o := o3) (s' := { s with heap := ((s.heap.push o1).push o2).push o3 }) rfl rfl rfl rfl rfl
  have S4 := S3.push (P := fun x => x = o4) (o := o4) (s' := { s with heap := (((s.heap.push o1).push o2).push o3).push o4 }) rfl rfl rfl rfl rfl
  have S5 := S4.push (P := fun x => x = o5) (o := o5) (s' := { s with heap := ((((s.heap.push o1).push o2).push o3).push o4).push o5 }) rfl rfl rfl rfl rfl
  dsimp only at S5
  rw [z1, z2, z3, z4, hn] at S5
  have S6 := Sp.toEnd (own' := itO [(n + 4, o5), (n + 3, o4), (n + 2, o3), (n + 1, o2), (n, o1)]) (own := own) S5
  have g5 : (((((s.heap.push o1).push o2).push o3).push o4).push o5).get? (n + 4) = some o5 := by rw [← z4]; exact Heap.get?_push_size _ rfl
  have g4 : (((((s.heap.push o1).push o2).push o3).push o4).push o5).get? (n + 3) = some o4 := by rw [← z3]; exact Heap.get?_push_of_some _ (Heap.get?_push_size _ rfl)
  have g3 : (((((s.heap.push o1).push o2).push o3).push o4).push o5).get? (n + 2) = some o3 := by rw [← z2]; exact Heap.get?_push_of_some _ (Heap.get?_push_of_some _ (Heap.get?_push_size _ rfl))
  have g2 : (((((s.heap.push o1).push o2).push o3).push o4).push o5).get? (n + 1) = some o2 := by rw [← z1]; exact Heap.get?_push_of_some _ (Heap.get?_push_of_some _ (Heap.get?_push_of_some _ (Heap.get?_push_size _ rfl)))
  have g1 : (((((s.heap.push o1).push o2).push o3).push o4).push o5).get? n = some o1 := by rw [← hn]; exact Heap.get?_push_of_some _ (Heap.get?_push_of_some _ (Heap.get?_push_of_some _ (Heap.get?_push_of_some _ (Heap.get?_push_size _ rfl))))
  have up : ∀ (x : Nat) o, s.heap.get? x = some o → (((((s.heap.push o1).push o2).push o3).push o4).push o5).get? x = some o := fun x o e => Heap.get?_push_of_some _ (Heap.get?_push_of_some _ (Heap.get?_push_of_some _ (Heap.get?_push_of_some _ (Heap.get?_push_of_some _ e))))
  refine ⟨⟨_, g5, rfl⟩, ?_⟩
  have apart : (n + 2 ≠ n + 4 ∧ n + 3 ≠ n + 4 ∧ n ≠ n + 4 ∧ n + 1 ≠ n + 4 ∧ n + 3 ≠ n ∧ n + 3 ≠ n + 1 ∧ n ≠ n + 1 ∧ a ≠ n + 4 ∧ b ≠ n + 4 ∧ a ≠ n ∧ b ≠ n ∧ b ≠ n + 3) := ⟨by omega, by omega, by omega, by omega, by omega, by omega, by omega, by omega, by omega, by omega, by omega, by omega⟩
  have W : ∀ target, KTurns P0 w A target (n + 4) [n + 4, n + 3, n + 2, n + 1, n, a, b] [n + 4, n + 3, n + 2, n + 1, n] 0 (fun i v h => False) (fun i v h => False) (fun i h => IsZip h (n + 4) (n + 2) (n + 3) .none ∧ IsPair h (n + 2) (.ref n) (.ref (n + 1)) ∧ IsPair h (n + 3) .none .none ∧ h.IsListIter n a 0 ∧ h.IsTupleIter (n + 1) b 0 ∧ h.IsList a vs.toArray ∧ h.IsTuple b #[]) := by
    intro target
    refine ⟨fun x hx => ?_, fun i h h' st hk => ?_, fun i s Q E hi st hQ => absurd hi (Nat.not_lt_zero _), fun i v s Q E hm hQ => hm.elim, fun s Q E st hQ => ?_⟩
    · exact List.mem_append_left [a, b] hx
    · obtain ⟨a1, a2, a3, a4, a5, a6, a7⟩ := st
      exact ⟨hk _ (by simp) _ a1, hk _ (by simp) _ a2, hk _ (by simp) _ a3, a4.at fun o e => hk _ (by simp) o e, a5.at fun o e => hk _ (by simp) o e, a6.at fun o e => hk _ (by simp) o e, a7.at fun o e => hk _ (by simp) o e⟩
    · obtain ⟨a1, a2, a3, a4, a5, a6, a7⟩ := st
      refine zipEnd hh apart a1 a2 a3 a4 a5 a6 a7 fun h' hk => hQ h' s.toks fun x o hx e => ?_
      simp only [List.mem_cons, List.not_mem_nil, or_false, not_or] at hx
      exact hk x o (nea hx.1) (nea hx.2.1) (nea hx.2.2.2.2) (nea hx.2.2.2.1) e
  refine h (n + 4) _ _ _ _ [(n + 4, o5), (n + 3, o4), (n + 2, o3), (n + 1, o2), (n, o1)] _ (fun elts kk pos => KT.mk (W _) (fun i h st x hx => ?_) (fun s Q E st q => wpAny_pyIter_zip st.1 q)) ⟨rfl, fun x hx hnx => ?_⟩ S6 ⟨g5, g3, g4, ⟨_, g1, rfl, rfl⟩, ⟨_, g2, rfl, rfl⟩, hl1.at fun o e => up _ o e, hl2.at fun o e => up _ o e⟩
  · obtain ⟨a1, a2, a3, ⟨o, a4, _⟩, ⟨o', a5, _⟩, a6, a7⟩ := st
    simp only [List.mem_cons, List.not_mem_nil, or_false] at hx
    rcases hx with rfl | rfl | rfl | rfl | rfl
    · exact ⟨_, a1⟩
    · exact ⟨_, a3⟩
    · exact ⟨_, a2⟩
    · exact ⟨_, a5⟩
    · exact ⟨_, a4⟩
  · simp only [List.mem_cons, List.not_mem_nil, or_false, not_or] at hx hnx
    rcases hx with rfl | rfl | rfl | rfl | rfl | rfl | rfl
    · exact absurd rfl hnx.1
    · exact absurd rfl hnx.2.1
    · exact absurd rfl hnx.2.2.1
    · exact absurd rfl hnx.2.2.2.1
    · exact absurd rfl hnx.2.2.2.2
    · rw [hga]; rfl
    · rw [hgb]; rfl
theorem dcompA0 (S0 : Sp w c g l own s) {kx vx iter target : Expr} {scope : Scope} {cl : List (Str × Addr)} {x : Str} {px pos spos : Pos} {Q : Flow → Shared → Prop} (hsw : swapsWith (.DictComp kx vx [⟨target, iter, [], 0⟩] scope pos) (some (.Name x px)) spos.line env = pure true) (hclos : closureFor scope env = pure cl) (hkind : scope.kind = .function)
    (hnames : ∀ x ∈ scope.names, x.2 = .local → scope.names.lookup x.1 = some .local) (hcell : ∀ y ∈ scope.names, y.2 ≠ .cell)
    (hL : env.locals = c.L) (hl : env.kindOf x = some .local) (hp : (env.scope.kind == .class || (env.scope.kind == .module && env.locals != env.globals)) = false)
    (h : wpAny (MD w) A (eval iter env) (fun v s₁ => ∃ (I : Nat) (fp wr : List Addr) (P Md : Nat → Value → Heap → Prop) (St : Nat → Heap → Prop) (its : List (Nat × Obj)) (g : Heap) (l : List (Str × Value)) (own : Own), v = .ref I ∧ KT w A target I fp wr 0 P Md St ∧ At g fp wr its ∧ Sp w c g l (own ++ itO its) s₁ ∧ St 0 s₁.heap ∧
      ∀ D s', Sp w c g ((x, .ref D) :: l) ((D, DictO w []) :: own) s' → Q .next s') E s)
    (hs : ∀ x, foldedSetIterable iter env x = pure x := by intro _; rfl) : wpAny (MD w) A (exec (.Assign [.Name x px] (.DictComp kx vx [⟨target, iter, [], 0⟩] scope pos) spos) env) Q E s := by
  rw [exec_Assign_Name_used _ _ _ _ hsw]
  refine wpAny_bind (wpAny_standAt (wpAny_bind ?_))
  show wpAny _ _ (evalThenUse _ _ _) _ _ _
  rw [arm_evalThenUse_DictComp]
  refine wpAny_bind (wpAny_mono (wpAny_comprehension_free (use := some (assign (.Name x px) env)) (Q := fun _ s' => Q .next s') rfl hs hclos hkind hnames (wpAny_mono h (fun v s₁ h₁ => ?_) fun _ _ e => e)) (fun _ s' hq => wpAny_pure (wpAny_pure hq)) fun _ _ e => e)
  obtain ⟨I, fp, wr, P, Md, St, its, g, l, own, rfl, T, a, S, st, hQ⟩ := h₁
  refine T.self _ _ _ st ?_
  unfold newDict
  refine wpAny_newObj_type ?_ (by size_fits)
  have S1 := S.push (P := DictO w []) (o := { cls := .type "dict", data := .dict #[] }) (s' := { s₁ with heap := s₁.heap.push { cls := .type "dict", data := .dict #[] } }) rfl ⟨[], 0, rfl, .nil, .nil⟩ rfl rfl rfl
  generalize s₁.heap.objs.size = D at *
  have S1 : Sp w c g l (((D, DictO w []) :: own) ++ itO its) { s₁ with heap := s₁.heap.push { cls := .type "dict", data := .dict #[] } } := S1
  have st1 := T.keep (own' := (D, DictO w []) :: own) a S S1 Ext.rfl' st
  refine wpAny_newFunctionEnv hcell (by intro y hy; simp at hy) (fun h₁ hns hsb => ?_) hkind
  have S2 := S1.push (P := fun _ => True) (s' := { s₁ with heap := (s₁.heap.push { cls := .type "dict", data := .dict #[] }).push { cls := .type (if (some env).isSome then "dict" else "frame"), data := .dict #[] } }) rfl trivial rfl rfl rfl
  obtain ⟨oc, es, ep, x1, x2, x3, x4⟩ := id hns
  have S3 := S2.chg (i := 0) (P' := NsP []) rfl (s' := { s₁ with heap := h₁, toks := s₁.toks + ([] : List (Str × Value)).length }) hsb.extBut (Nat.le_of_eq hsb.1.symm) x1 ⟨_, es, ep, x2, x3, x4, fun _ _ e => nomatch e⟩ rfl rfl
  dsimp only at S3 hsb hns ⊢
  generalize (s₁.heap.push { cls := .type "dict", data := .dict #[] }).objs.size = C at *
  have S4 := S3.swap (i := 0) (C := C) (l' := []) rfl
  have S4 : Sp w ⟨c.s0, c.gp, C⟩ g [] ((c.L, NsP l) :: (D, DictO w []) :: own ++ itO its) { s₁ with heap := h₁, toks := s₁.toks + ([] : List (Str × Value)).length } := S4
  have st4 := T.keep (own := (D, DictO w []) :: own) (own' := (c.L, NsP l) :: (D, DictO w []) :: own) a S1 S4 Ext.rfl' st1
  have loop : codeAny (MD w) A (.compLoop (.DictComp kx vx [⟨target, iter, [], 0⟩] scope pos) 0 (.ref I) (.ref D) (compEnvC scope cl C env)) (compPost (MD w) A E (some (assign (.Name x px) env)) (fun _ s' => Q .next s') (.ref D) C) { s₁ with heap := h₁, toks := s₁.toks + ([] : List (Str × Value)).length } := by
    refine codeAny_loop rfl (fun _ s => s = { s₁ with heap := h₁, toks := s₁.toks + ([] : List (Str × Value)).length }) (fun n s hI => ?_) 0 rfl
    subst hI
    show wpAny _ A ((compTurn (.DictComp kx vx [⟨target, iter, [], 0⟩] scope pos) 0 (.ref I) (.ref D) (compEnvC scope cl C env)).onRaise (fun x => do noteFrame x (compEnvC scope cl C env); theTreesLotGoes x)) _ _ _
    refine wpAny_noted ?_
    rw [compTurn_dict]
    refine wpAny_bind (wpAny_standAt (wpAny_bind ?_))
    refine wpAny_mono (T.fin (own := (c.L, NsP l) :: (D, DictO w []) :: own) (F := fun _ _ => False) (N := fun s5 => compPost (MD w) A E (some (assign (.Name x px) env)) (fun _ s' => Q .next s') (.ref D) C (.ok .next) s5) a S4 st4 fun s5 S5 => ?_) (fun r s6 h6 => ?_) fun _ _ e => e
    · have S6 := S5.swap (i := 0) (C := c.L) (l' := l) rfl
      have S6 : Sp w c g l ([(C, NsP [])] ++ ((D, DictO w []) :: own)) s5 := S6
      have S7 := S6.toEnd
      refine wpAny_assign_Name (sn S7 (fun s8 S8 => ?_) hL hl hp)
      obtain ⟨⟨m, n⟩, d⟩ := S8.dropNs
      exact ⟨m, n, fun h' hs => hQ D _ (d h' hs)⟩
    · cases r with
      | none => exact wpAny_pure h6
      | some v => exact h6.elim
  exact codeAny_compStart_dict loop (T.self _ _ _ st4 loop)
end
end Mine
end
section
set_option maxHeartbeats 4000000
namespace Mine
section
variable {w : World} {c : Cx} {g : Heap} {l : List (Str × Value)} {own : Own} {s : Shared} {A : Around} {E : Value → Shared → Prop} {env : Env} {outer : List Env}
theorem lenT {a : Nat} {vs : List Value} {Q : Value → Shared → Prop} (S : Sp w c g l own s) (ha : IsT s.heap a vs) (hz : vs.length ≤ 1000) (h : ∀ s' t, Sp w c g l own s' → Q (.int vs.length t) s') : wpAny (MD w) A (call (.builtin "len") [.ref a]) Q E s := by
  refine PyProof.Rows.len_tuple ha.tup' (by rw [List.size_toArray]; omega) ?_
  rw [List.size_toArray]
  exact h _ _ (S.tk rfl rfl rfl)
theorem lenL {a : Nat} {vs : List Value} {Q : Value → Shared → Prop} (S : Sp w c g l own s) (ha : IsL s.heap a vs) (hz : vs.length ≤ 1000) (h : ∀ s' t, Sp w c g l own s' → Q (.int vs.length t) s') : wpAny (MD w) A (call (.builtin "len") [.ref a]) Q E s := by
  refine PyProof.Rows.len_list ha.list (by rw [List.size_toArray]; omega) ?_
  rw [List.size_toArray]
  exact h _ _ (S.tk rfl rfl rfl)
theorem nInL {a : Nat} {vs : List Value} {xs : List Str} {x : Str} {t : Tok} {Q : Value → Shared → Prop} (S : Sp w c g l own s) (ha : IsL s.heap a vs) (hx : Two (fun v y => ∃ u, v = .str y u) vs xs) (h : Q (.bool (!(decide (x ∈ xs)))) s) : wpAny (MD w) A (compareOp .NotIn (.str x t) (.ref a)) Q E s := by
  obtain ⟨n, ha⟩ := ha
  have H := PyProof.Rows.eq_isStrOf x t (vs := vs) (ys := xs) (by
    clear ha h
    induction hx with
    | nil => exact .nil
    | cons r _ ih => obtain ⟨u, rfl⟩ := r; exact .cons _ _ ih)
  refine PySem.SeqRoads2.notIn_list (n := n) (PyProof.Rows.isStrOf x) (fun y hy => H y (by simpa using hy)) ha ?_
  have e : vs.toArray.any (PyProof.Rows.isStrOf x) = decide (x ∈ xs) := by
    rw [← Array.any_toList]
    clear ha H h
    induction hx with
    | nil => rfl
    | @cons v y vs xs r _ ih =>
      obtain ⟨u, rfl⟩ := r
      simp only [List.toList_toArray] at ih ⊢
      rw [List.any_cons, ih]
      show ((y == x) || _) = _
      by_cases q : y = x
      · simp [q]
      · have : (y == x) = false := by simpa using q
        have q' : ¬ x = y := fun z => q z.symm
        simp [this, q']
  rw [e]; exact h
theorem fRepr {a b : Str} {k1 k2 : Nat} {x : Str} {t : Tok} {e : Expr} {p1 p2 p3 pos : Pos} {Q : Value → Shared → Prop} (S : Sp w c g l own s) (hx : (reprText x).length ≤ 1000) (ha : a.length ≤ 1000) (hb : b.length ≤ 1000)
    (he : ∀ (s1 : Shared) (Q1 : Value → Shared → Prop), Sp w c g l own s1 → (∀ s2, Sp w c g l own s2 → Q1 (.str x t) s2) → wpAny (MD w) A (eval e env) Q1 E s1)
    (h : ∀ s' y u, Sp w c g l own s' → Q (.str y u) s') : wpAny (MD w) A (eval (.JoinedStr [.Constant (.str a) k1 p1, .FormattedValue e 114 none p2, .Constant (.str b) k2 p3] pos) env) Q E s := by
  have l0 : sizeLine ≥ 1000000 := by rw [sizeLine_eq]; omega
  refine wpAny_JoinedStr ?_
  refine wpAny_Constant_str ⟨_, _, rfl, by rw [strLen_append]; have : (Str.empty).length = 0 := rfl; omega, ?_⟩
  refine wpAny_FormattedValue_repr (he _ _ (S.tk rfl rfl rfl) fun s2 S2 => wpAny_pyReprObj_str ?_ (by omega))
  have fin : ∀ (s3 : Shared) y u, Sp w c g l own s3 → y.length ≤ 1000 → ∃ y' t', (.str y u : Value) = .str y' t' ∧ (Str.empty ++ a ++ y').length ≤ sizeLine ∧ Joins (MD w) A E [eval (.Constant (.str b) k2 p3) env] (Str.empty ++ a ++ y') (fun out s₁ => out.length ≤ sizeLine ∧ Q (.str out s₁.toks) { s₁ with toks := s₁.toks + 1 }) s3 := by
    intro s3 y u S3 hy
    refine ⟨y, u, rfl, by rw [strLen_append, strLen_append]; have : (Str.empty).length = 0 := rfl; omega, ?_⟩
    refine wpAny_Constant_str ⟨_, _, rfl, ?_, ?_, h _ _ _ (S3.tk rfl rfl rfl)⟩
    · rw [strLen_append, strLen_append, strLen_append]; have : (Str.empty).length = 0 := rfl; omega
    · rw [strLen_append, strLen_append, strLen_append]; have : (Str.empty).length = 0 := rfl; omega
  exact wpAny_formatField_str (fin _ _ _ (S2.tk rfl rfl rfl) hx) (fin _ _ _ (S2.tk rfl rfl rfl) hx) (by omega)
theorem excAt {v : Value} {Q : Value → Shared → Prop} (h : ∀ h', (∀ (b : Nat) o, s.heap.get? b = some o → h'.get? b = some o) → h'.get? (s.heap.objs.size + 1) = some { cls := .type "TypeError", data := .fields #[.ref (s.heap.objs.size + 2), .none, .none, .none, .bool false, .none] } → Q (.ref (s.heap.objs.size + 1)) { s with heap := h' }) :
    wpAny (MD w) A (call (.type "TypeError") [v]) Q E s := by
  have F := PySem.F.excCall_TypeError
  obtain ⟨hp, gn, d, tk, os⟩ := s
  refine wpAny_call (codeAny_of_tree ?_)
  show wpAny _ _ (again (.builtin "type.__call__" ⟨.type "TypeError" :: [v], []⟩)) _ _ _
  refine wpAny_pure ⟨Code.quiet_builtin _ (by decide +kernel), codeAny_builtin entry_typeCall ?_⟩
  have hnt := F.notType
  have hcan := F.canMake
  have hchk := F.noVector ⟨[v], []⟩
  obtain ⟨m, hmro, hne⟩ := F.mro
  have hmade := F.madeBy
  wp_walk
  refine codeAny_call_builtin_code (Code.quiet_builtin _ F.quiet) (wpAny_of_eq (F.newOk [v]) ?_)
  refine codeAny_exc_new F.toExcNewFacts ?_ (by show 1 ≤ sizeLine; rw [sizeLine_eq]; omega)
  show wpAny _ _ _ _ _ _
  have hget : ((hp.push { cls := .type "tuple", data := .seq [v].toArray }).push
      { cls := .type "TypeError", data := .fields #[.ref hp.objs.size, .none, .none, .none, .bool false, .none] }).get? (hp.objs.size + 1) = some
      { cls := .type "TypeError", data := .fields #[.ref hp.objs.size, .none, .none, .none, .bool false, .none] } := by heap_get
  refine wpAny_bind (wpAny_isInstance ⟨_, hget, rfl⟩ F.sub ?_)
  wp_step
  refine wpAny_bind (wpAny_holding (wpAny_callSpecial?_slot ⟨_, hget, rfl⟩ F.init (wpAny_call (codeAny_call_builtin F.init.plain F.initEntry (wpAny_check_exc_init F ⟨_, hget, rfl⟩ ?_)))))
  wp_walk
  refine h _ (fun b o hb => ?_) ?_
  · have hlt : b < hp.objs.size := Heap.lt_size hb
    rw [Heap.get?_update_other _ _ (show hp.objs.size + 1 ≠ b by omega)]
    exact Heap.get?_push_of_some _ (Heap.get?_push_of_some _ (Heap.get?_push_of_some _ hb))
  · rw [Heap.get?_update_self _ (Heap.get?_push_of_some _ hget) rfl]
    simp only [Heap.size_push]
    rfl
theorem raiseT {x : Expr} {np cpos pos : Pos} {Q : Flow → Shared → Prop} (hh : A.handled = none)
    (hn : ∀ Q' : Value → Shared → Prop, Q' (.type "TypeError") s → wpAny (MD w) A (eval (.Name "TypeError" np) env) Q' E s)
    (h : wpAny (MD w) A (eval x env) (fun v s2 => ∃ (c : Cx) (g : Heap) (l : List (Str × Value)) (own : Own), Sp w c g l own s2 ∧ ∀ e s', Sp w c g l ((e, ExcO .none) :: own) s' → E (.ref e) s') E s)
    (he : starEach [x] env = [(false, eval x env)] := by rfl) : wpAny (MD w) A (exec (.Raise (some (.Call (.Name "TypeError" np) [x] [] cpos)) none pos) env) Q E s := by
  refine wpAny_Raise_made PySem.F.excRaise_TypeError hh (wpAny_Call_ofName (hn _ ?_))
  refine callWith_excType (by rw [he]; rfl) ?_
  rw [he]
  refine Calls.evalArgs_plain (spliced_cons (wpAny_mono h (fun v s2 h2 => ?_) fun _ _ e => e))
  refine spliced_nil ?_
  obtain ⟨c, g, l, own, S, k⟩ := h2
  refine excAt fun h' hk he' => ⟨_, _, rfl, he', ?_⟩
  have Sk : Sp w c g l own { s2 with heap := h' } := by
    have := (show Sp w c g l (own ++ itO []) s2 by simpa [itO] using S).chgs (s' := { s2 with heap := h' }) (its' := []) (fun b o _ x => hk b o x) rfl rfl rfl (fun _ hp => nomatch hp)
    simpa [itO] using this
  obtain ⟨n1, n2, n3, n4⟩ := S.new_of (a := s2.heap.objs.size + 1) (Nat.le_succ _)
  refine k _ _ ⟨Sk.gens, Sk.os, Sk.gl0, Sk.tabs, Sk.t0, Sk.old, Sk.osz, Sk.sz, Sk.low, Sk.ge, Sk.gs, Sk.gp, Sk.gt1, Sk.gt2, Sk.ns, Sk.gL, fun p hp => ?_, ?_⟩
  · rcases List.mem_cons.mp hp with rfl | hp
    · exact ⟨⟨_, he', rfl, _, rfl, rfl, rfl⟩, n1, n2, n3⟩
    · exact Sk.ow p hp
  · rw [List.map_cons, List.nodup_cons]
    exact ⟨fun hm => by obtain ⟨p, hp, hq⟩ := List.mem_map.mp hm; exact n4 p hp hq, Sk.nd⟩
end
end Mine
end
section
set_option maxHeartbeats 4000000
namespace Mine
section
variable {w : World} {c : Cx} {g : Heap} {l : List (Str × Value)} {own : Own} {s : Shared} {A : Around} {E : Value → Shared → Prop} {env : Env} {gp : Heap} {outer : List Env}
theorem nsSetD {D : Nat} {kvs : List (Str × Value)} {o : Obj} {k : Str} {v : Value} {Q : Unit → Shared → Prop} (hD : s.heap.get? D = some o) (hO : DictO w kvs o)
    (h : ∀ s' o', Heap.SameBut D s.heap s'.heap → s'.heap.get? D = some o' → DictO w (put k v kvs) o' → s'.gens = s.gens → s'.os = s.os → Q () s') : wpAny (MD w) A (nsSet D k v) Q E s := by
  obtain ⟨es, n, rfl, T, hn⟩ := hO
  have e1 := putName_dict k (PyData.keyHash w.params k) (.str k s.toks) v es n
  have T2 := DictO.put T hn k s.toks v (putN k es n)
  have D' := Heap.get?_update_self (h := s.heap) (Obj.putName k (PyData.keyHash w.params k) (.str k s.toks) v) hD (by rw [e1]; rfl)
  rw [e1] at D'
  have cc : (!es.toArray.any (·.key.isStr k) && es.toArray.any (·.refKey)) = false := by
    rw [List.any_toArray, List.any_toArray, noRefKey T, Bool.and_false]
  unfold nsSet
  refine wpAny_bind (wpAny_bind (wpAny_askSetting (wpAny_pure (wpAny_bind (wpAny_mkText (wpAny_bind (wpAny_loadPart hD ?_)))))))
  dsimp only
  rw [aRefKeyMayBeTheName_at, cc]
  exact wpAny_updatePart hD (h _ _ (Heap.SameBut.update ..) D' T2 rfl rfl)
theorem fillD {D : Nat} {Q : PUnit → Shared → Prop} : ∀ (kw : List (Str × Value)) (s : Shared) (kvs : List (Str × Value)) (o : Obj), s.heap.get? D = some o → DictO w kvs o → (∀ k ∈ kw.map (·.1), k ∉ kvs.map (·.1)) → (kw.map (·.1)).Nodup →
    (∀ s' o', Heap.SameBut D s.heap s'.heap → s'.heap.get? D = some o' → DictO w (kvs ++ kw) o' → s'.gens = s.gens → s'.os = s.os → Q ⟨⟩ s') →
    wpAny (MD w) A (forIn kw PUnit.unit fun x _ => (nsSet D x.1 x.2 >>= fun _ => pure (ForInStep.yield PUnit.unit))) Q E s
  | [], s, kvs, o, hD, hO, _, _, h => by
    rw [List.forIn_nil]
    exact wpAny_pure (h s o (.refl ..) hD (by rw [List.append_nil]; exact hO) rfl rfl)
  | x :: r, s, kvs, o, hD, hO, h1, h2, h => by
    rw [List.map_cons, List.nodup_cons] at h2
    rw [List.forIn_cons]
    refine wpAny_bind (wpAny_bind (nsSetD hD hO fun s1 o1 sb hD1 hO1 g1 os1 => wpAny_pure ?_))
    rw [put_new _ _ _ (h1 x.1 (by simp))] at hO1
    refine fillD r s1 _ o1 hD1 hO1 (fun k hk hm => ?_) h2.2 fun s' o' sb' hD' hO' g' os' => h s' o' (sb.trans sb') hD' (by rw [List.append_assoc] at hO'; exact hO') (g'.trans g1) (os'.trans os1)
    rw [List.map_append] at hm
    rcases List.mem_append.mp hm with hm | hm
    · exact h1 k (by rw [List.map_cons]; exact .tail _ hk) hm
    · simp only [List.map_cons, List.map_nil, List.mem_cons, List.not_mem_nil, or_false] at hm
      subst hm; exact h2.1 hk
theorem forIn_app {α : Type} : ∀ {kw : List (Str × Value)} {f : Str × Value → (List α × List (Str × Value)) → Sem (ForInStep (List α × List (Str × Value)))} {a : List α} {b : List (Str × Value)} (hf : ∀ x ∈ kw, ∀ a b, f x (a, b) = pure (.yield (a, b ++ [(x.1, x.2)]))), forIn kw (a, b) f = pure (a, b ++ kw)
  | [], f, a, b, hf => by rw [List.forIn_nil, List.append_nil]
  | x :: r, f, a, b, hf => by
    rw [List.forIn_cons, hf x (.head _)]
    simp only [pure_bind]
    rw [forIn_app (fun y hy => hf y (.tail _ hy)), List.append_assoc]; rfl
theorem bindsStar {fd : FuncData} {pos : List Value} {kw : List (Str × Value)} {va ka : Arg} {Q : List (Str × Value) → Shared → Prop} (hp : fd.params.posonlyargs = []) (hko : fd.params.kwonlyargs = []) (hd : fd.defaults = .none) (hv : fd.params.vararg = some va) (hkw : fd.params.kwarg = some ka)
    (hmiss : ((fd.params.args.map (·.arg)).filter fun n => (((fd.params.args.map (·.arg)).zip pos).lookup n).isNone) = []) (hn : ∀ kv ∈ kw, (fd.params.args.map (·.arg)).contains kv.1 = false) (hz : kw.length ≤ 100) (hnd : (kw.map (·.1)).Nodup) (hpz : pos.length ≤ 100)
    (h : ∀ (T D : Nat) (s' : Shared), T = s.heap.objs.size → D = s.heap.objs.size + 1 → s'.heap.objs.size = s.heap.objs.size + 2 → (∀ (b : Nat) o, s.heap.get? b = some o → s'.heap.get? b = some o) → (∃ o, s'.heap.get? T = some o ∧ TupP (pos.drop fd.params.args.length) o) → (∃ o, s'.heap.get? D = some o ∧ DictO w kw o) → s'.gens = s.gens → s'.os = s.os →
      Q (((fd.params.args.map (·.arg)).filterMap fun n => (((fd.params.args.map (·.arg)).zip pos).lookup n).map (n, ·)) ++ [(va.arg, .ref T)] ++ [(ka.arg, .ref D)]) s') :
    wpAny (MD w) A (bindArgs fd ⟨pos, kw⟩) Q E s := by
  unfold bindArgs
  simp only [hp, hko, hd, hv, hkw, List.map_nil, List.nil_append, List.append_nil]
  refine wpAny_bind (wpAny_of_eq (forIn_app fun x hx a b => by rw [hn x hx]; rfl) ?_)
  refine wpAny_bind (wpAny_of_eq (a := none) rfl ?_)
  rw [if_neg (by simp)]
  dsimp only [Option.getD_none, List.nil_append]
  simp only [Array.toList_empty, List.length_nil, Nat.zero_sub, Nat.sub_zero, List.drop_nil, List.take_length, hmiss, List.isEmpty_nil, Bool.not_true, Bool.false_eq_true, if_false, List.zip_nil_right, List.forIn_nil, List.filterMap_append]
  refine wpAny_bind (wpAny_pure (wpAny_bind (wpAny_pure ?_)))
  dsimp only
  rw [if_neg (by simp), List.length_map]
  refine wpAny_bind (wpAny_newTuple ?_ (by rw [List.length_drop, sizeLine_eq]; omega))
  rw [if_neg (by rw [sizeLine_eq]; omega)]
  refine wpAny_bind (wpAny_alloc ?_)
  have hz1 : (s.heap.push { cls := .type "tuple", data := .seq (pos.drop fd.params.args.length).toArray }).objs.size = s.heap.objs.size + 1 := Heap.size_push ..
  have hD := Heap.get?_push_size (s.heap.push { cls := .type "tuple", data := .seq (pos.drop fd.params.args.length).toArray }) (o := { cls := .type "dict", data := .dict #[] }) rfl
  have hT := Heap.get?_push_of_some (h := s.heap.push { cls := .type "tuple", data := .seq (pos.drop fd.params.args.length).toArray }) { cls := .type "dict", data := .dict #[] } (Heap.get?_push_size s.heap (o := { cls := .type "tuple", data := .seq (pos.drop fd.params.args.length).toArray }) rfl)
  refine wpAny_bind (fillD kw _ [] _ hD ⟨[], 0, rfl, .nil, .nil⟩ (fun k _ hm => nomatch hm) hnd fun s' o' sb hD' hO' g' os' => wpAny_pure ?_)
  rw [hz1] at sb hD' ⊢
  refine h _ _ s' rfl rfl (by rw [sb.1, Heap.size_push, hz1]) (fun b o hb => sb.extBut _ _ (nea (by have : b < s.heap.objs.size := Heap.lt_size hb; omega)) (Heap.get?_push_of_some _ (Heap.get?_push_of_some _ hb))) ⟨_, sb.extBut _ _ (nea (by omega)) hT, 0, rfl⟩ ⟨o', hD', hO'⟩ g' os'
def starB (params : Arguments) (pos : List Value) (va ka : Arg) (T D : Nat) : List (Str × Value) := ((params.args.map (·.arg)).filterMap fun n => (((params.args.map (·.arg)).zip pos).lookup n).map (n, ·)) ++ [(va.arg, .ref T)] ++ [(ka.arg, .ref D)]
theorem enterSc {f : Addr} {name qual : Str} {params : Arguments} {body : List Stmt} {scope : Scope} {kV doc pm cdv ct oc : Value} {an od : Option Addr} {osl : Array (Option Value)} {pos : List Value} {kw : List (Str × Value)} {va ka : Arg} {R : Result → Shared → Prop}
    (I : In w gp s) (hroom : A.depth < recursionLimit)
    (ho : (hd.heap_39 w.params).lookup f = some ⟨oc, od, .func (fnOf name qual params body scope .none kV doc pm an cdv ct), osl⟩) (hcd : codeIn (hd.heap_39 w.params) cdv qual = true)
    (hp : params.posonlyargs = []) (hko : params.kwonlyargs = []) (hv : params.vararg = some va) (hkw : params.kwarg = some ka)
    (hmiss : ((params.args.map (·.arg)).filter fun n => (((params.args.map (·.arg)).zip pos).lookup n).isNone) = []) (hn : ∀ kv ∈ kw, (params.args.map (·.arg)).contains kv.1 = false) (hz : kw.length ≤ 100) (hnd : (kw.map (·.1)).Nodup) (hpz : pos.length ≤ 100)
    (hloc : ∀ T D : Nat, ∀ y ∈ starB params pos va ka T D, scope.names.lookup y.1 = some .local)
    (h : ∀ (L T D : Nat) s1, Sp w ⟨s, gp, L⟩ gp (starB params pos va ka T D).reverse [(D, DictO w kw), (T, TupP (pos.drop params.args.length))] s1 →
      wpAny (MD w) (A.deeper (envOf qual scope L f cdv)) (execs body (envOf qual scope L f cdv)) (fun fl s' => R (.ok (.ret (match fl with | .ret v => v | _ => .none))) s')
        (fun e s' => wpAny (MD w) (A.deeper (envOf qual scope L f cdv)) (leaving (envOf qual scope L f cdv) e) (fun _ s'' => R (.error e) s'') (fun e' s'' => R (.error e') s'') s') s1)
    (hcell : ∀ x ∈ scope.names, x.2 ≠ .cell) (hco : scope.isCoroutine = false) (hgen : scope.isGenerator = false) (hk : scope.kind = .function) : codeAny (MD w) A (.call (.ref f) ⟨pos, kw⟩) R s := by
  have hlim : s.heap.NoLimit := ⟨_, .of_isNs (isNs_of_in (N := cStatics) I.gl.kin (by kernel_rfl)), nsMap_none_of_in I.gl.kin (by kernel_rfl) (by kernel_rfl)⟩
  refine codeAny_call_function (fd := fnOf name qual params body scope .none kV doc pm an cdv ct) (body := body) hroom (I.gl.kin _ _ ho) rfl hco hgen rfl (codeRec_of I.gl.kin hcd) ?_
  refine bindsStar (fd := fnOf name qual params body scope .none kV doc pm an cdv ct) hp hko rfl hv hkw hmiss hn hz hnd hpz fun T D s1 hT hD hsz hk1 hTo hDo g1 os1 => ?_
  refine wpAny_newFunctionEnv hcell (hloc T D) (fun h₀ hns hsb => ⟨hlim.keeps fun b o e => hsb.extBut b o ?_ (Heap.get?_push_of_some _ (hk1 b o e)), codeAny_func ?_⟩) hk
  · have h0 : @LT.lt Nat _ b s.heap.objs.size := Heap.lt_size e
    exact nea (Nat.ne_of_lt (Nat.lt_of_lt_of_le h0 (by rw [hsz]; omega)))
  · have up : ∀ (b : Nat) o, s1.heap.get? b = some o → h₀.get? b = some o := fun b o e => hsb.extBut b o (nea (by have : b < s1.heap.objs.size := Heap.lt_size e; omega)) (Heap.get?_push_of_some _ e)
    refine h s1.heap.objs.size T D _ (start (I := I) (s1 := { s1 with heap := h₀, toks := _ }) hns (fun b o e => up b o (hk1 b o e)) (by rw [hsz]; omega) g1 os1 (fun x v e => e) _ (fun p hp => ?_) ?_)
    · obtain ⟨oT, t1, t2⟩ := hTo
      obtain ⟨oD, d1, d2⟩ := hDo
      have lT := Heap.lt_size t1
      have lD := Heap.lt_size d1
      simp only [List.mem_cons, List.not_mem_nil, or_false] at hp
      rcases hp with rfl | rfl
      · exact ⟨⟨oD, up _ _ d1, d2⟩, by show s.heap.objs.size ≤ D; omega, by show D ≠ s1.heap.objs.size; omega⟩
      · exact ⟨⟨oT, up _ _ t1, t2⟩, by show s.heap.objs.size ≤ T; omega, by show T ≠ s1.heap.objs.size; omega⟩
    · simp only [List.map_cons, List.map_nil, List.nodup_cons, List.mem_cons, List.not_mem_nil, or_false, not_false_eq_true, List.nodup_nil, and_true]
      omega
end
end Mine
end
section
set_option maxHeartbeats 4000000
namespace Mine
section
variable {w : World} {c : Cx} {g : Heap} {l : List (Str × Value)} {own : Own} {s : Shared} {A : Around} {E : Value → Shared → Prop} {env : Env} {gp : Heap} {outer : List Env}
theorem keysOf_kv {es : List DictEntry} {kvs : List (Str × Value)} (T : Two (KV w) es kvs) : KeysOf (strKind P0 w) es.toArray := by
  intro e he
  have he : e ∈ es := by simpa using he
  obtain ⟨i, hi⟩ := List.getElem?_of_mem he
  obtain ⟨kv, _, ⟨t, a⟩, b, d⟩ := T.get' hi
  exact ⟨kv.1, by rw [a]; exact strKind_is P0 w _ _, d⟩
theorem none_kv {es : List DictEntry} {kvs : List (Str × Value)} (T : Two (KV w) es kvs) {k : Str} (hk : k ∉ kvs.map (·.1)) : (es.toArray.findIdx? fun e => (strKind P0 w).is k e.key) = none := by
  rw [Array.findIdx?_eq_none_iff]
  intro e he
  have he : e ∈ es := by simpa using he
  obtain ⟨i, hi⟩ := List.getElem?_of_mem he
  obtain ⟨kv, hkv, ⟨t, a⟩, b, d⟩ := T.get' hi
  rw [a]
  cases q : (strKind P0 w).is k (.str kv.1 t) with
  | false => rfl
  | true =>
    have := (strKind P0 w).inj _ _ _ q (strKind_is P0 w _ _)
    subst this
    exact absurd (List.mem_map_of_mem (List.mem_of_getElem? hkv)) hk
theorem forIn_unit {α : Type} {f : α → PUnit → Sem (ForInStep PUnit)} : ∀ (es : List α), (∀ e ∈ es, f e ⟨⟩ = pure (.yield ⟨⟩)) → forIn es PUnit.unit f = pure ⟨⟩
  | [], _ => rfl
  | e :: r, h => by
    rw [List.forIn_cons, h e (.head _)]
    simp only [pure_bind]
    exact forIn_unit r fun e he => h e (.tail _ he)
theorem rangeLoop {M : Model} {n : Nat} {f : Nat → PUnit → Sem (ForInStep PUnit)} {Q : PUnit → Shared → Prop} (J : Nat → Shared → Prop) (hf : ∀ i s, i < n → J i s → wpAny M A (f i ⟨⟩) (fun r s' => r = .yield ⟨⟩ ∧ J (i + 1) s') E s) :
    ∀ (m i : Nat) (s : Shared), i + m = n → J i s → (∀ s', J n s' → Q ⟨⟩ s') → wpAny M A (forIn (List.range' i m) PUnit.unit f) Q E s
  | 0, i, s, e, j, hq => by
    have : i = n := by omega
    subst this
    exact wpAny_pure (hq s j)
  | m + 1, i, s, e, j, hq => by
    rw [List.range'_succ, List.forIn_cons]
    refine wpAny_bind (wpAny_mono (hf i s (by omega) j) (fun r s' h => ?_) fun _ _ e => e)
    obtain ⟨rfl, j'⟩ := h
    exact rangeLoop J hf m (i + 1) s' (by omega) j' hq
theorem mergeD {D a : Nat} {kvs : List (Str × Value)} {o : Obj} {Q : Unit → Shared → Prop} (hne : D ≠ a) (hD : s.heap.get? D = some o) (hO : DictO w [] o) (ha : IsD w s.heap a kvs) (hz : kvs.length ≤ 1000)
    (h : ∀ s' o', Heap.SameBut D s.heap s'.heap → s'.heap.get? D = some o' → DictO w kvs o' → s'.gens = s.gens → s'.os = s.os → Q () s') : wpAny (MD w) A (mergeMapping D (.ref a) true) Q E s := by
  obtain ⟨es, n, rfl, T, hn⟩ := hO
  cases T
  obtain ⟨⟨oa, hoa, ea, na, rfl, Ta, hna⟩, ha1⟩ := ha
  have hT : s.TypeIs (.ref a) "dict" := ⟨_, hoa, rfl⟩
  unfold mergeMapping
  refine wpAny_bind (wpAny_isInstance (T := "dict") (U := "dict") (b := true) hT (by rw [isSubtype_type]; kernel_rfl) ?_)
  dsimp only
  rw [if_pos rfl]
  refine wpAny_bind (wpAny_specialOf hT PySem.F.slot_dict_iter.lookup (wpAny_bind (wpAny_pure ?_)))
  rw [show (some (Value.builtin "dict.__iter__") == some (Value.builtin "dict.__iter__")) = true by simp]
  dsimp only
  rw [if_neg (by simpa [sysModules] using ha1)]
  refine wpAny_bind (wpAny_dictEntries hD rfl ?_)
  rw [if_pos (by rfl)]
  refine wpAny_bind (wpAny_dictEntries hoa rfl ?_)
  rw [List.forIn_toArray, forIn_unit ea (fun e he => by
    obtain ⟨i, hi⟩ := List.getElem?_of_mem he
    obtain ⟨kv, _, ⟨t, a⟩, _⟩ := Ta.get' hi
    rw [a])]
  refine wpAny_bind (wpAny_pure (wpAny_bind (wpAny_dictEntries hoa rfl (wpAny_bind (wpAny_dictEpoch hoa rfl ?_)))))
  have hsz : ea.toArray.size = kvs.length := by rw [List.size_toArray, Ta.length]
  rw [hsz, List.range_eq_range']
  refine wpAny_bind (rangeLoop (n := kvs.length) (fun i s' => Heap.SameBut D s.heap s'.heap ∧ (∃ o', s'.heap.get? D = some o' ∧ DictO w (kvs.take i) o') ∧ s'.gens = s.gens ∧ s'.os = s.os) (fun i s1 hi j => ?_) kvs.length 0 s (Nat.zero_add _) ⟨.refl .., ⟨_, hD, [], n, rfl, .nil, .nil⟩, rfl, rfl⟩ fun s' j => ?_)
  · obtain ⟨sb, ⟨o1, hD1, es, m, rfl, T, hn1⟩, hg, ho⟩ := j
    have hoa1 := sb.extBut a _ (nea (Ne.symm hne)) hoa
    obtain ⟨e, he, ⟨tq, hk⟩, hv, hh⟩ := Ta.get (i := i) (List.getElem?_eq_getElem hi)
    refine wpAny_bind (wpAny_dictEntries hoa1 rfl ?_)
    rw [List.getElem?_toArray, he]
    dsimp only
    have hnew : (kvs[i]).1 ∉ (kvs.take i).map (·.1) := by
      intro z
      obtain ⟨p, hp, hq⟩ := List.mem_map.mp z
      obtain ⟨j, hj⟩ := List.getElem?_of_mem hp
      rw [List.getElem?_take] at hj
      split at hj
      · have h1 : (kvs.map (·.1))[j]? = some (kvs[i]).1 := by rw [List.getElem?_map, hj, ← hq]; rfl
        have h2 : (kvs.map (·.1))[i]? = some (kvs[i]).1 := by rw [List.getElem?_map, List.getElem?_eq_getElem hi]; rfl
        have := nodup_idx hna h1 h2
        omega
      · cases hj
    have fnd : ∀ {Q : Option Nat → Shared → Prop}, Q none s1 → wpAny (MD w) A (dictFind D e.key e.hash) Q E s1 := fun {Q} q => by
      rw [hk, hh]
      exact wpAny_dictFind_of (knd := strKind P0 w) (strKind_is P0 w _ tq) hD1 rfl (keysOf_kv T) (by rw [none_kv T hnew]; exact q)
    refine wpAny_bind (wpAny_holding ?_)
    rw [if_pos rfl]
    refine wpAny_bind (fnd ?_)
    rw [if_neg (by simp)]
    unfold dictPut
    refine wpAny_bind (fnd ?_)
    have e1 : Obj.mapDictKeys (·.push ⟨e.hash, e.key, e.val⟩) (dictOf es m) = dictOf (es ++ [⟨e.hash, e.key, e.val⟩]) (m + 1) := by simp [Obj.mapDictKeys, dictOf]
    have lz : es.length ≤ 1000 := by rw [T.length, List.length_take]; omega
    refine wpAny_updateDictKeys hD1 rfl ?_ (by rw [List.size_toArray, sizeLine_eq]; omega)
    have D' := Heap.get?_update_self (h := s1.heap) (Obj.mapDictKeys (·.push ⟨e.hash, e.key, e.val⟩)) hD1 (by rw [e1]; rfl)
    rw [e1] at D'
    have sb2 := sb.trans (Heap.SameBut.update s1.heap D (Obj.mapDictKeys (·.push ⟨e.hash, e.key, e.val⟩)))
    refine wpAny_bind (wpAny_dictEpoch (sb2.extBut a _ (nea (Ne.symm hne)) hoa) rfl ?_)
    rw [if_neg (by simp)]
    refine wpAny_pure ⟨rfl, sb2, ⟨_, D', _, _, rfl, ?_, ?_⟩, hg, ho⟩
    · rw [take_snoc (List.getElem?_eq_getElem hi)]
      exact T.snoc ⟨⟨tq, hk⟩, hv, hh⟩
    · rw [take_snoc (List.getElem?_eq_getElem hi), List.map_append, List.nodup_append]
      exact ⟨hn1, by simp, fun x hx y hy e => by simp at hy; subst hy; subst e; exact hnew hx⟩
  · obtain ⟨sb, ⟨o1, hD1, hO1⟩, hg, ho⟩ := j
    rw [List.take_length] at hO1
    exact wpAny_pure (h s' o1 sb hD1 hO1 hg ho)
theorem kwIn {f : Value} {D : Nat} {kvs : List (Str × Value)} {o : Obj} {Q : List (Str × Value) → Shared → Prop} (hD : s.heap.get? D = some o) (hO : DictO w kvs o) (h : Q kvs s) : wpAny (MD w) A (keywordsIn f D) Q E s := by
  obtain ⟨es, n, rfl, T, hn⟩ := hO
  unfold keywordsIn
  refine wpAny_bind (wpAny_dictEntries hD rfl ?_)
  rw [List.forIn_toArray]
  have key : ∀ {es : List DictEntry} {kvs : List (Str × Value)} (T : Two (KV w) es kvs) (f : DictEntry → List (Str × Value) → Sem (ForInStep (List (Str × Value)))) (hf : ∀ (e : DictEntry) (k : Str) (t : Tok) acc, e.key = .str k t → f e acc = pure (.yield (acc ++ [(k, e.val)]))) (acc : List (Str × Value)), forIn es acc f = pure (acc ++ kvs) := by
    intro es kvs T
    induction T with
    | nil => intro f hf acc; rw [List.forIn_nil, List.append_nil]
    | @cons e kv es kvs r _ ih =>
      intro f hf acc
      obtain ⟨⟨t, hk⟩, hv, _⟩ := r
      rw [List.forIn_cons, hf e kv.1 t acc hk]
      simp only [pure_bind]
      rw [ih f hf, hv, List.append_assoc]; rfl
  rw [key T _ (fun e k t acc hk => by rw [hk])]
  exact wpAny_bind (wpAny_pure (wpAny_pure h))
theorem mergedK {f : Value} {x : Sem Value} {N : Nat} {kvs : List (Str × Value)} {Q : Addr → Shared → Prop} (S : Sp w c g l own s) (hx : ∀ (s : Shared) (own : Own) (Q : Value → Shared → Prop) (E : Value → Shared → Prop), Sp w c g l own s → (∀ s', Sp w c g l own s' → Q (.ref N) s') → wpAny (MD w) A x Q E s) (hN : IsD w g N kvs) (hz : kvs.length ≤ 1000)
    (h : ∀ s' D, Sp w c g l ((D, DictO w kvs) :: own) s' → Q D s') : wpAny (MD w) A (mergedKeywords f [(none, x)]) Q E s := by
  unfold mergedKeywords
  refine wpAny_bind (wpAny_alloc ?_)
  have S1 := S.push (P := DictO w []) (o := { cls := .type "dict", data := .dict #[] }) (s' := { s with heap := s.heap.push { cls := .type "dict", data := .dict #[] } }) rfl ⟨[], 0, rfl, .nil, .nil⟩ rfl rfl rfl
  generalize s.heap.objs.size = D at *
  refine wpAny_bind (wpAny_holding ?_)
  extract_lets merge group g0
  rw [List.forIn_cons]
  refine wpAny_bind (wpAny_bind ?_)
  dsimp only
  refine wpAny_bind (wpAny_of_eq (a := ()) rfl ?_)
  refine wpAny_bind (hx _ _ _ _ S1 fun s1 S2 => ?_)
  refine wpAny_bind (wpAny_onRaise ?_)
  refine wpAny_holding (wpAny_tryCatch (wpAny_onRaise ?_))
  obtain ⟨o, hD, hO⟩ := S2.at 0 rfl
  obtain ⟨⟨on, hN1, _⟩, _⟩ := id hN
  have gD := (S2.ow _ (List.Mem.head _)).2.1
  refine mergeD (fun z => by subst z; rw [hN1] at gD; cases gD) hD hO (hN.mono S2.ge) hz fun s' o' sb hD' hO' hg ho => ?_
  have S3 := S2.chg (i := 0) rfl sb.extBut (Nat.le_of_eq sb.1.symm) hD' hO' hg ho
  refine wpAny_pure ?_
  refine wpAny_pure ?_
  refine wpAny_of_eq (a := ()) rfl ?_
  exact wpAny_pure (h s' D S3)
theorem cwSS {f : Value} {V N : Nat} {vs : List Value} {kvs : List (Str × Value)} {e1 e2 : Expr} {p1 p2 pos : Pos} {Q : Value → Shared → Prop} (S : Sp w c g l own s)
    (h1 : ∀ (s : Shared) (Q : Value → Shared → Prop) (E : Value → Shared → Prop), Sp w c g l own s → (∀ s', Sp w c g l own s' → Q (.ref V) s') → wpAny (MD w) A (eval e1 env) Q E s)
    (h2 : ∀ (s : Shared) (own : Own) (Q : Value → Shared → Prop) (E : Value → Shared → Prop), Sp w c g l own s → (∀ s', Sp w c g l own s' → Q (.ref N) s') → wpAny (MD w) A (eval e2 env) Q E s)
    (hV : IsL g V vs) (hzv : vs.length ≤ 1000) (hN : IsD w g N kvs) (hz : kvs.length ≤ 1000)
    (hk : ∀ h : Heap, (K w).In h → Ext g h → ∃ k, (k = Keeper.frame ∨ k = Keeper.caller) ∧ Looks (MD w) h (keeperOf f) k)
    (h : ∀ s', Sp w c g l own s' → wpAny (MD w) A (call f vs kvs) Q E s') :
    wpAny (MD w) A (callWith pos f [] (backTo pos (starEach [.Starred e1 p1] env)) (backToKw pos (keywordEach [⟨none, e2, p2⟩] env))) Q E s := by
  have ea : backTo pos (starEach [.Starred e1 p1] env) = [(true, do let v ← eval e1 env; standAt pos; pure v)] := rfl
  have ek : backToKw pos (keywordEach [⟨none, e2, p2⟩] env) = [(none, do let v ← eval e2 env; standAt pos; pure v)] := rfl
  rw [ea, ek]
  unfold callWith
  refine wpAny_bind (wpAny_holding ?_)
  unfold evalArgs
  dsimp only
  refine wpAny_bind (wpAny_bind (h1 _ _ _ S fun s1 S1 => ?_))
  refine wpAny_bind (wpAny_standAt (wpAny_pure (wpAny_bind (wpAny_pure ?_))))
  refine wpAny_holding ?_
  rw [if_neg (by simp)]
  refine wpAny_bind (mergedK S1 (fun s own Q E S q => wpAny_bind (h2 _ _ _ _ S fun s' S' => wpAny_bind (wpAny_standAt (wpAny_pure (q s' S'))))) hN hz fun s2 D S2 => ?_)
  obtain ⟨n, hVg⟩ := hV
  have hV2 := S2.ge _ _ hVg
  have hT : s2.TypeIs (.ref V) "list" := ⟨_, hV2, rfl⟩
  refine wpAny_bind ?_
  unfold notIterableAtAll
  refine wpAny_bind (wpAny_bind (wpAny_specialOf hT PySem.F.slot_list_iter.lookup (wpAny_pure ?_)))
  rw [if_neg (by simp)]
  refine wpAny_holding (wpAny_collect_seq V (T := "list") (.inl rfl) hV2 rfl rfl (fun h' hk' => ?_) (by rw [List.size_toArray, sizeLine_eq]; omega))
  have S3 : Sp w c g l ((D, DictO w kvs) :: own) { s2 with heap := h' } := by
    have := (show Sp w c g l (((D, DictO w kvs) :: own) ++ itO []) s2 by simpa [itO] using S2).chgs (s' := { s2 with heap := h' }) (its' := []) (fun b o _ x => hk' b o x) rfl rfl rfl (fun _ hp => nomatch hp)
    simpa [itO] using this
  obtain ⟨o, hD, hO⟩ := S3.at 0 rfl
  refine wpAny_bind (wpAny_holding (kwIn hD hO (wpAny_pure ?_)))
  have S4 := S3.weakO (own' := own) (List.sublist_cons_self ..)
  refine wpAny_bind (wpAny_standAt ?_)
  obtain ⟨k, hkk, LK⟩ := hk _ S4.kin S4.ge
  refine wpAny_bind (LK.here ?_)
  have tail : ∀ {t : Sem Value}, wpAny (MD w) A t Q E { s2 with heap := h' } → wpAny (MD w) A (t >>= fun r => holding [r] point >>= fun _ => pure r) Q E { s2 with heap := h' } :=
    fun ht => wpAny_bind (wpAny_mono ht (fun r s₂ hr => wpAny_bind (wpAny_holding (wpAny_point (wpAny_pure hr)))) fun _ _ x => x)
  have hc := h _ S4
  rcases hkk with rfl | rfl
  · exact tail (by unfold callMarked; exact Calls.wpAny_keep (by simpa using hc))
  · exact tail (wpAny_operateT (by simpa using hc))
theorem cwKS {f : Value} {N : Nat} {kvs : List (Str × Value)} {e2 : Expr} {p2 pos : Pos} {Q : Value → Shared → Prop} (S : Sp w c g l own s)
    (h2 : ∀ (s : Shared) (own : Own) (Q : Value → Shared → Prop) (E : Value → Shared → Prop), Sp w c g l own s → (∀ s', Sp w c g l own s' → Q (.ref N) s') → wpAny (MD w) A (eval e2 env) Q E s)
    (hN : IsD w g N kvs) (hz : kvs.length ≤ 1000)
    (hk : ∀ h : Heap, (K w).In h → Ext g h → ∃ k, (k = Keeper.frame ∨ k = Keeper.caller) ∧ Looks (MD w) h (keeperOf f) k)
    (h : ∀ s', Sp w c g l own s' → wpAny (MD w) A (call f [] kvs) Q E s') :
    wpAny (MD w) A (callWith pos f [] (backTo pos (starEach [] env)) (backToKw pos (keywordEach [⟨none, e2, p2⟩] env))) Q E s := by
  have ea : backTo pos (starEach [] env) = [] := rfl
  have ek : backToKw pos (keywordEach [⟨none, e2, p2⟩] env) = [(none, do let v ← eval e2 env; standAt pos; pure v)] := rfl
  rw [ea, ek]
  unfold callWith
  refine wpAny_bind (wpAny_holding ?_)
  unfold evalArgs
  dsimp only
  refine wpAny_bind (wpAny_bind (spliced_nil (wpAny_pure ?_)))
  refine wpAny_bind (wpAny_pure ?_)
  refine wpAny_holding ?_
  rw [if_neg (by simp)]
  refine wpAny_bind (mergedK S (fun s own Q E S q => wpAny_bind (h2 _ _ _ _ S fun s' S' => wpAny_bind (wpAny_standAt (wpAny_pure (q s' S'))))) hN hz fun s2 D S3 => ?_)
  refine wpAny_bind (wpAny_pure ?_)
  obtain ⟨o, hD, hO⟩ := S3.at 0 rfl
  refine wpAny_bind (wpAny_holding (kwIn hD hO (wpAny_pure ?_)))
  have S4 := S3.weakO (own' := own) (List.sublist_cons_self ..)
  refine wpAny_bind (wpAny_standAt ?_)
  obtain ⟨k, hkk, LK⟩ := hk _ S4.kin S4.ge
  refine wpAny_bind (LK.here ?_)
  have tail : ∀ {t : Sem Value}, wpAny (MD w) A t Q E s2 → wpAny (MD w) A (t >>= fun r => holding [r] point >>= fun _ => pure r) Q E s2 :=
    fun ht => wpAny_bind (wpAny_mono ht (fun r s₂ hr => wpAny_bind (wpAny_holding (wpAny_point (wpAny_pure hr)))) fun _ _ x => x)
  have hc := h _ S4
  rcases hkk with rfl | rfl
  · exact tail (by unfold callMarked; exact Calls.wpAny_keep (by simpa using hc))
  · exact tail (wpAny_operateT (by simpa using hc))
theorem keepI {x C : Nat} {dx : Nat} (hx : g.get? x = some (instObj C dx)) : ∀ h : Heap, (K w).In h → Ext g h → ∃ k, (k = Keeper.frame ∨ k = Keeper.caller) ∧ Looks (MD w) h (keeperOf (.ref x)) k := fun h X e => by
  refine ⟨_, .inr rfl, (Looks.ld (part := none) (e _ _ hx)).andThen ?_⟩
  exact .now
theorem keepF {f : Nat} {o : Obj} {fd : FuncData} (hf : g.get? f = some o) (hd : o.data = .func fd) : ∀ h : Heap, (K w).In h → Ext g h → ∃ k, (k = Keeper.frame ∨ k = Keeper.caller) ∧ Looks (MD w) h (keeperOf (.ref f)) k := fun h X e => by
  refine ⟨_, .inl rfl, (Looks.ld (part := none) (e _ _ hf)).andThen ?_⟩
  simp only [hd]
  exact .now
theorem cwF0 {f : Nat} {o : Obj} {fd : FuncData} {pos : Pos} {Q : Value → Shared → Prop} (S : Sp w c g l own s) (hf : g.get? f = some o) (hd : o.data = .func fd) (h : wpAny (MD w) A (call (.ref f) [] []) Q E s) : wpAny (MD w) A (callWith pos (.ref f) [] (backTo pos (starEach [] env)) (backToKw pos (keywordEach [] env))) Q E s := by
  have ea : backTo pos (starEach [] env) = [] := rfl
  have ek : backToKw pos (keywordEach [] env) = [] := rfl
  rw [ea, ek]
  refine Calls.callWith_function (o := o) (fd := fd) ?_
  exact evalArgs_nil3 ⟨⟨S.ge _ _ hf, hd⟩, h⟩
theorem mOwn {x C : Nat} {kvs : List (Str × Value)} {name : Str} {v : Value} {pl : Sem Bool} {Q : Value × List Value → Shared → Prop} (S : Sp w c g l own s) (I : IsInst w s.heap x C kvs) (hl : kvs.lookup name = some v)
    (hg : plainGet (hd.heap_39 w.params) C name = true) (hh : hasDictIn (hd.heap_39 w.params) C = true) (ha : findIn (hd.heap_39 w.params) (.ref C) name = some none) (hn : noGet (hd.heap_39 w.params) none = true)
    (hv : handedIn v = true) (h : ∀ s', Sp w c g l own s' → Q (v, []) s') : wpAny (MD w) A (getMethod (.ref x) name pl) Q E s := by
  have hcan := PySem.F.canon_object_ga
  have X := S.gl.kin
  have I' : ∃ od, W.InstAt s.heap x (instObj C I.choose) C (some od) := by
    obtain ⟨od, hx, hdx, _⟩ := I.choose_spec
    exact ⟨od, hx, rfl, rfl, hdx⟩
  obtain ⟨od, II⟩ := I'
  unfold getMethod specialOf
  refine wpAny_bind (wpAny_bind (II.type.here ((looks_findIn X (plainGet_of hg).1).here ?_)))
  dsimp only
  rw [hcan, if_neg (by decide)]
  refine wpAny_bind (wpAny_bind (II.type.here ((looks_findIn X (plainGet_of hg).2).here ?_)))
  refine wpAny_bind (wpAny_bind (II.type.here ((looks_findIn X ha).here ?_)))
  exact wpAny_bind (ga S I hl hg hh ha hn hv fun s' S' => wpAny_pure (h s' S'))
end
end Mine
end
section
set_option maxHeartbeats 4000000
namespace Mine
inductive Sv
  | i (n : Int)
  | one (k : Nat)
  | got (v : Sv)
def SvAt (g : Heap) : Value → Sv → Prop
  | v, .i n => ∃ t, v = .int n t
  | v, .one k => ∃ (a : Nat) (t : Tok), v = .ref a ∧ IsL g a [.int k t]
  | v, .got u => ∃ (a : Nat) (t : Tok) (x : Value), v = .ref a ∧ IsL g a [.str "got" t, x] ∧ SvAt g x u
theorem SvAt.mono {g g' : Heap} (e : Ext g g') : ∀ {sv : Sv} {v : Value}, SvAt g v sv → SvAt g' v sv
  | .i n, v, h => h
  | .one k, v, ⟨a, t, h1, h2⟩ => ⟨a, t, h1, h2.mono e⟩
  | .got u, v, ⟨a, t, x, h1, h2, h3⟩ => ⟨a, t, x, h1, h2.mono e, SvAt.mono e h3⟩
theorem SvAt.handed {g : Heap} : ∀ {sv : Sv} {v : Value}, SvAt g v sv → handedIn v = true
  | .i n, v, ⟨t, h⟩ => by rw [h]; rfl
  | .one k, v, ⟨a, t, h1, h2⟩ => by rw [h1]; rfl
  | .got u, v, ⟨a, t, x, h1, h2, h3⟩ => by rw [h1]; rfl
theorem SvAt.cases {g : Heap} : ∀ {sv : Sv} {v : Value}, SvAt g v sv → (∃ n t, v = .int n t) ∨ ∃ (a : Nat) (vs : List Value), v = .ref a ∧ IsL g a vs
  | .i n, v, ⟨t, h⟩ => .inl ⟨n, t, h⟩
  | .one k, v, ⟨a, t, h1, h2⟩ => .inr ⟨a, _, h1, h2⟩
  | .got u, v, ⟨a, t, x, h1, h2, h3⟩ => .inr ⟨a, _, h1, h2⟩
def baseV (f : Str → Option Sv) (k : Nat) (r : Row) : Sv := if r.kd = 3 then .i (50 + k) else (f r.al).getD (if r.kd = 2 then .one k else .i (50 + k))
def rowV (f : Str → Option Sv) (k : Nat) (r : Row) : Sv := if r.cv = true then .got (baseV f k r) else baseV f k r
structure KwOk (g : Heap) (kvs : List (Str × Value)) (f : Str → Option Sv) : Prop where
  nd : (kvs.map (·.1)).Nodup
  len : kvs.length ≤ 20
  rep : ∀ kv ∈ kvs, (reprText kv.1).length ≤ 1000
  ns : ∀ kv ∈ kvs, (kv.1 == ("self" : Str)) = false
  val : ∀ x v, kvs.lookup x = some v → ∃ sv, f x = some sv ∧ SvAt g v sv
  none : ∀ x, kvs.lookup x = none → f x = none
theorem KwOk.mono {g g' : Heap} {kvs : List (Str × Value)} {f : Str → Option Sv} (h : KwOk g kvs f) (e : Ext g g') : KwOk g' kvs f := ⟨h.nd, h.len, h.rep, h.ns, fun x v q => let ⟨sv, a, b⟩ := h.val x v q; ⟨sv, a, b.mono e⟩, h.none⟩
def MadeAt (w : World) (g : Heap) (m x : Nat) (rows : List Row) (σ : Nat → Row → Sv) : Prop := ∃ (D : Nat) (hkv : List (Str × Value)), IsInst w g m 213 [("kind", .ref x), ("held", .ref D)] ∧ IsD w g D hkv ∧ Ix (fun i kv r => kv.1 = r.na ∧ SvAt g kv.2 (σ i r)) hkv rows
theorem MadeAt.mono {w : World} {g g' : Heap} {m x : Nat} {rows : List Row} {σ : Nat → Row → Sv} (h : MadeAt w g m x rows σ) (e : Ext g g') : MadeAt w g' m x rows σ := let ⟨D, hkv, a, b, c⟩ := h; ⟨D, hkv, a.mono e, b.mono e, c.imp fun i kv r h => ⟨h.1, h.2.mono e⟩⟩
theorem KindAt.mono {w : World} {g g' : Heap} {v : Value} {rows : List Row} (h : KindAt w g v rows) (e : Ext g g') : KindAt w g' v rows := by
  obtain ⟨x, M, T, EQ, OR, n, avs, a, b, c, d, f, k⟩ := h
  exact ⟨x, M, T, EQ, OR, n, avs, a, b.mono e, c.mono e, d.mono e, f.mono e, k.imp fun i v r h => h.mono e⟩
section
variable {w : World} {c : Cx} {g : Heap} {l : List (Str × Value)} {own : Own} {s : Shared} {A : Around} {E : Value → Shared → Prop} {env : Env} {gp : Heap} {outer : List Env}
theorem is70v {v : Value} {sv : Sv} {Q : Value → Shared → Prop} (S : Sp w c g l own s) (h : SvAt g v sv) (q : Q (.bool false) s) : wpAny (MD w) A (compareOp .Is v (.ref 70)) Q E s := by
  obtain ⟨o, ho, hc⟩ := get70 S.kin
  rcases h.cases with ⟨n, t, rfl⟩ | ⟨a, vs, rfl, n, h1⟩
  · exact wpAny_is_other rfl (by intro e; cases e) q
  · have h1 := S.ge _ _ h1
    refine wpAny_is_ref_other (fun e => ?_) h1 ho (by intro e; injection e with e; exact absurd e (by decide)) q
    subst e; rw [h1] at ho; cases ho; cases hc
theorem Sp.frzT {a : Nat} {vs : List Value} (S : Sp w c g l ((a, TupP vs) :: own) s) : ∃ g', Ext g g' ∧ IsT g' a vs ∧ Sp w c g' l own s := by
  obtain ⟨g', o, e, ha, ⟨n, rfl⟩, S2⟩ := S.frz1
  exact ⟨g', e, ⟨n, ha⟩, S2⟩
theorem useH {f : Value} {pos : List Value} {kw : List (Str × Value)} {Post : Heap → Value → Prop} {k : Nat} {Q : Value → Shared → Prop} (S : Sp w c g l own s) (H : Con w A f pos kw g s Post)
    (hP : ∀ gq v, Post gq v → ∃ (x D : Nat) (od : Obj), v = .ref x ∧ s.heap.objs.size ≤ D ∧ IsInst w gq x 213 [("kind", .ref k), ("held", .ref D)] ∧ gq.get? D = some od ∧ DictO w [] od)
    (h : ∀ (x D : Nat) s' g', Ext g g' → IsInst w g' x 213 [("kind", .ref k), ("held", .ref D)] → Sp w c g' l ((D, DictO w []) :: own) s' → Q (.ref x) s') : wpAny (MD w) A (call f pos kw) Q E s := by
  refine use S H fun v s' gq e hv S' => ?_
  obtain ⟨x, D, od, rfl, hz, hI, hD, hO⟩ := hP gq v hv
  have gn : g.get? D = none := by
    cases q : g.get? D with
    | none => rfl
    | some o => exact absurd (ltz (S.ge _ _ q)) (Nat.not_lt.mpr hz)
  have pn : c.gp.get? D = none := by
    cases q : c.gp.get? D with
    | none => rfl
    | some o => have := S.gp _ _ q; rw [gn] at this; cases this
  obtain ⟨g', e1, e2, S2⟩ := S'.thaw hD hO.nf pn (Nat.le_trans S.osz hz)
  obtain ⟨dx, ox, hx, hdx, hDx⟩ := hI
  have n1 : x ≠ D := fun z => by
    subst z
    rw [hx] at hD
    cases hD
    obtain ⟨es, n, r, _⟩ := hO
    have := congrArg Obj.data r
    cases this
  have n2 : dx ≠ D := fun z => by
    subst z
    rw [hdx] at hD
    cases hD
    obtain ⟨es, n, r, T, _⟩ := hDx
    obtain ⟨es', n', r', T', _⟩ := hO
    rw [r] at r'
    have q := congrArg Obj.data r'
    injection q with q1 q2
    have l1 : es.length = 2 := T.length
    have l2 : es'.length = 0 := T'.length
    have q3 : es = es' := by simpa using q1
    rw [q3, l2] at l1
    cases l1
  refine h x D s' g' (fun b o x => ?_) ⟨dx, ox, by rw [e1 x n1]; exact hx, by rw [e1 dx n2]; exact hdx, hDx⟩ (S2.weakP (i := 0) rfl (fun o z => by rw [z]; exact hO))
  have : b ≠ D := fun z => by subst z; rw [gn] at x; cases x
  rw [e1 b this]; exact e b o x
theorem callI {x dx : Nat} {pos : List Value} {kw : List (Str × Value)} {od : Obj} {Q : Value → Shared → Prop} (I : In w gp s) (hx : gp.get? x = some (instObj 142 dx)) (hdx : gp.get? dx = some od) (k1 : findIn (hd.heap_39 w.params) (.ref 142) "__call__" = some (some (.ref 139))) (k2 : isFn (hd.heap_39 w.params) (.ref 139) = true) (k3 : fnIn (hd.heap_39 w.params) 139 = true) (h : codeAny (MD w) A (.call (.ref 139) ⟨.ref x :: pos, kw⟩) (fun r s' => match r with | .ok (.ret v) => Q v s' | .ok _ => False | .error e => E e s') s) : wpAny (MD w) A (call (.ref x) pos kw) Q E s := by
  refine wpAny_call (kco_code (K := K w) (C := 142) (f := 139) (ox := instObj 142 dx) (od := some od) I.gl.kin ⟨I.ge _ _ hx, rfl, rfl, I.ge _ _ hdx⟩ rfl k1 k2 k3 h)
end
end Mine
end
section
set_option maxHeartbeats 4000000
namespace Mine
section
variable {w : World} {c : Cx} {g : Heap} {l : List (Str × Value)} {own : Own} {s : Shared} {A : Around} {E : Value → Shared → Prop} {env : Env} {gp : Heap}
def BindsD (s : Shared) (fd : FuncData) (args : Args) (binds : Nat → List (Str × Value)) : Prop :=
  ∀ (M : Model) (A : Around) (E : Value → Shared → Prop) (Q : List (Str × Value) → Shared → Prop), Q (binds s.heap.objs.size) { s with heap := s.heap.push { cls := .type "dict", data := .dict #[] } } → wpAny M A (bindArgs fd args) Q E s
theorem bindsD_K {fd : FuncData} {args : Args} {binds : Nat → List (Str × Value)} {T : Addr} {o : Obj} {items : Array Value} {n : Nat} {k : Option (Array Value) → Sem (List (Str × Value))} (X : (K w).In s.heap) (hdf : fd.defaults = .ref T) (ho : (hd.heap_39 w.params).lookup T = some o) (hs : o.data = .seq items n)
    (h₁ : bindArgs fd args = seqItems? fd.defaults >>= k) (h₂ : k (some items) = (alloc { cls := .type "dict", data := .dict #[] } >>= fun d => pure (binds d))) : BindsD s fd args binds := by
  intro M A E Q hq
  rw [h₁, hdf]
  refine wpAny_bind (wpAny_seqItems (X _ _ ho) hs ?_)
  rw [h₂]
  exact wpAny_bind (wpAny_alloc (wpAny_pure hq))
theorem enterCD {f : Addr} {name qual : Str} {params : Arguments} {body : List Stmt} {scope : Scope} {dV kV doc pm cdv ct oc : Value} {an od : Option Addr} {osl : Array (Option Value)} {pos : List Value} {kw : List (Str × Value)} {binds : Nat → List (Str × Value)} {Q : Value → Shared → Prop}
    (I : In w gp s) (hroom : A.depth < recursionLimit)
    (ho : (hd.heap_39 w.params).lookup f = some ⟨oc, od, .func (fnOf name qual params body scope dV kV doc pm an cdv ct), osl⟩) (hcd : codeIn (hd.heap_39 w.params) cdv qual = true)
    (hbind : BindsD s (fnOf name qual params body scope dV kV doc pm an cdv ct) ⟨pos, kw⟩ binds)
    (hkind : ∀ (L D : Nat), ∀ x ∈ binds D, scope.names.lookup x.1 = some .local ∨ (scope.names.lookup x.1 = some .cell ∧ ((cellsFrom (L + 1) scope.names []).lookup x.1).isSome = true))
    (hdist : ∀ L : Nat, ((cellsFrom (L + 1) scope.names []).map (·.1)).Nodup)
    {lr : Nat → List (Str × Value)} (hlr : ∀ D, ((binds D).filter fun y => decide (scope.names.lookup y.1 = some .local)).reverse = lr D) {co : Nat → Nat → Own} (hcl : ∀ L D : Nat, ((cellsFrom (L + 1) scope.names []).map fun p => (p.2, CellP (bindC (fun n => scope.names.lookup n) (binds D) (fun _ => none) p.1))) = co L D)
    (h : ∀ (L D : Nat) s1, Sp w ⟨s, gp, L⟩ gp (lr D) ((D, DictO w []) :: co L D) s1 →
      wpAny (MD w) (A.deeper (cenvOf name qual params body scope dV kV doc pm an cdv ct L f)) (execs body (cenvOf name qual params body scope dV kV doc pm an cdv ct L f)) (retQ Q) (fun _ _ => False) s1)
    (hco : scope.isCoroutine = false) (hgen : scope.isGenerator = false) (hk : scope.kind = .function) : wpAny (MD w) A (call (.ref f) pos kw) Q E s := by
  have hlim : s.heap.NoLimit := ⟨_, .of_isNs (isNs_of_in (N := cStatics) I.gl.kin (by kernel_rfl)), nsMap_none_of_in I.gl.kin (by kernel_rfl) (by kernel_rfl)⟩
  refine wpAny_call (codeAny_call_function hroom (I.gl.kin _ _ ho) rfl hco hgen rfl (codeRec_of I.gl.kin hcd) (hbind _ _ _ _ ?_))
  show wpAny _ _ (newFunctionEnv scope mainGlobals [] (binds s.heap.objs.size) _ _ _ none _) _ _ _
  have up0 : ∀ (b : Nat) o, s.heap.get? b = some o → (s.heap.push { cls := .type "dict", data := .dict #[] }).get? b = some o := fun b o e => Heap.get?_push_of_some _ e
  have hz : (s.heap.push { cls := .type "dict", data := .dict #[] }).objs.size = s.heap.objs.size + 1 := Heap.size_push ..
  have hD := Heap.get?_push_size s.heap (o := { cls := .type "dict", data := .dict #[] }) rfl
  refine wpAny_newFunctionEnv_cells hk (hkind _ _) fun env he s' x => ?_
  subst he
  refine ⟨(hlim.keeps up0).keeps x.toInCall.keep, codeAny_func ?_⟩
  have hs := x.toInCall.same
  have S : Sp w ⟨s, gp, (s.heap.push { cls := .type "dict", data := .dict #[] }).objs.size⟩ gp ((binds s.heap.objs.size).filter fun y => decide (scope.names.lookup y.1 = some .local)).reverse ((s.heap.objs.size, DictO w []) :: ((cellsFrom ((s.heap.push { cls := .type "dict", data := .dict #[] }).objs.size + 1) scope.names []).map fun p => (p.2, CellP (bindC (fun n => scope.names.lookup n) (binds s.heap.objs.size) (fun _ => none) p.1)))) s' := by
    obtain ⟨h', tk, rfl⟩ := hs
    refine start (I := I) x.toInCall.ns (fun b o e => x.toInCall.keep b o (up0 b o e)) (by rw [hz]; exact Nat.le_succ _) rfl rfl (fun y v hy => bindL_eq _ (binds s.heap.objs.size) _ y v hy) _ (fun p hp => ?_) ?_
    · rcases List.mem_cons.mp hp with rfl | hp
      · exact ⟨⟨_, x.toInCall.keep _ _ hD, [], 0, rfl, .nil, .nil⟩, Nat.le_refl _, by rw [hz]; exact Nat.ne_of_lt (Nat.lt_succ_self _)⟩
      · obtain ⟨q, hq, rfl⟩ := List.mem_map.mp hp
        have hl : (cellsFrom ((s.heap.push { cls := .type "dict", data := .dict #[] }).objs.size + 1) scope.names []).lookup q.1 = some q.2 := by
          have nd := hdist (s.heap.push { cls := .type "dict", data := .dict #[] }).objs.size
          clear x h hkind hdist hcl
          revert hq nd
          generalize cellsFrom ((s.heap.push { cls := .type "dict", data := .dict #[] }).objs.size + 1) scope.names [] = cs
          intro hq nd
          induction cs with
          | nil => cases hq
          | cons a r ih =>
            rw [List.map_cons, List.nodup_cons] at nd
            rw [List.lookup_cons]
            rcases List.mem_cons.mp hq with rfl | hq
            · simp
            · have : (q.1 == a.1) = false := by
                have : q.1 ≠ a.1 := fun e => nd.1 (e ▸ List.mem_map_of_mem (f := (·.1)) hq)
                simpa using this
              rw [this]; exact ih hq nd.2
        obtain ⟨o, ho1, ho2⟩ := x.cell _ _ hl
        have hab : (s.heap.push { cls := .type "dict", data := .dict #[] }).objs.size < q.2 := x.above q.1 q.2 hq
        exact ⟨⟨o, ho1, ho2⟩, by dsimp only; omega, Nat.ne_of_gt hab⟩
    · rw [List.map_cons, List.nodup_cons, List.map_map]
      refine ⟨fun hm => ?_, ?_⟩
      · obtain ⟨q, hq, e⟩ := List.mem_map.mp hm
        have hab : (s.heap.push { cls := .type "dict", data := .dict #[] }).objs.size < q.2 := x.above q.1 q.2 hq
        have e' : q.2 = s.heap.objs.size := e
        rw [hz, e'] at hab
        exact absurd hab (Nat.not_lt.mpr (Nat.le_succ _))
      · have := x.apart
        exact List.pairwise_map.mpr this
  rw [hlr, hcl] at S
  exact wpAny_mono (h _ _ s' S) (fun fl s'' q => by cases fl <;> exact q) fun _ _ z => z.elim
end
end Mine
end
section
set_option maxHeartbeats 4000000
namespace Mine
def Sv.dep : Sv → Nat
  | .i _ => 0
  | .one _ => 0
  | .got v => v.dep + 1
theorem allTrue (n : Nat) : ((List.range n).all fun _ => true) = true := by simp
theorem eqAt_lists {A : Around} {s : Shared} {l b : Nat} {xs ys : List Value} (hl : IsL s.heap l xs) (hb : IsL s.heap b ys) (hsz : xs.length = ys.length) (hu : A.units < 9900) (he : ∀ (j : Nat) (x y : Value), xs[j]? = some x → ys[j]? = some y → SeqAt.EqAt A.in1 s x y true) : SeqAt.EqAt A s (.ref l) (.ref b) true := by
  by_cases hne : l = b
  · subst hne; exact SeqAt.EqAt.same _
  · have := SeqAt.RcAt.lists (A := A) (s := s) (e := fun _ => true) hl.list hb.list (by simp [hsz]) hu (fun j h1 h2 => by
      simp only [List.size_toArray] at h1 h2
      exact he j _ _ (by simp [h1]) (by simp [h2]))
    rw [allTrue] at this
    exact SeqAt.EqAt.of_refs hne this
theorem eqAt_sv {s : Shared} : ∀ {sv : Sv} {v1 v2 : Value} {A : Around}, A.units + sv.dep < 9800 → SvAt s.heap v1 sv → SvAt s.heap v2 sv → SeqAt.EqAt A s v1 v2 true
  | .i n, v1, v2, A, hu, ⟨t1, h1⟩, ⟨t2, h2⟩ => by
    subst h1 h2
    have := SeqAt.EqAt.int_int (A := A) (s := s) n t1 n t2
    simpa using this
  | .one k, v1, v2, A, hu, ⟨a1, t1, h1, l1⟩, ⟨a2, t2, h2, l2⟩ => by
    subst h1 h2
    refine eqAt_lists l1 l2 rfl (by have : Sv.dep (.one k) = 0 := rfl; omega) fun j x y e1 e2 => ?_
    match j, e1, e2 with
    | 0, e1, e2 =>
      cases e1; cases e2
      have := SeqAt.EqAt.int_int (A := A.in1) (s := s) k t1 k t2
      simpa using this
    | j + 1, e1, e2 => cases e1
  | .got u, v1, v2, A, hu, ⟨a1, t1, x1, h1, l1, r1⟩, ⟨a2, t2, x2, h2, l2, r2⟩ => by
    subst h1 h2
    have hd : Sv.dep (.got u) = u.dep + 1 := rfl
    refine eqAt_lists l1 l2 rfl (by omega) fun j x y e1 e2 => ?_
    match j, e1, e2 with
    | 0, e1, e2 =>
      cases e1; cases e2
      have := (PyProof.Rows.eqGives_str "got" "got" t1 t2).at A.in1 s
      simpa using this
    | 1, e1, e2 =>
      cases e1; cases e2
      exact eqAt_sv (by show A.units + 1 + u.dep < 9800; omega) r1 r2
    | j + 2, e1, e2 => cases e1
theorem rc_sv {s : Shared} {sv : Sv} {v1 v2 : Value} {A : Around} (hu : A.units + sv.dep < 9800) (h1 : SvAt s.heap v1 sv) (h2 : SvAt s.heap v2 sv) {w : World} {Q : Value → Shared → Prop} {E : Value → Shared → Prop} (q : Q (.bool true) s) : wpAny (MD w) A (compareOp .Eq v1 v2) Q E s := by
  match sv, hu, h1, h2 with
  | .i n, hu, ⟨t1, h1⟩, ⟨t2, h2⟩ =>
    subst h1 h2
    refine iEq ?_
    simpa using q
  | .one k, hu, ⟨a1, t1, h1, l1⟩, ⟨a2, t2, h2, l2⟩ =>
    subst h1 h2
    refine SeqAt.eq_listAt (e := fun _ => true) l1.list l2.list rfl (by have : Sv.dep (.one k) = 0 := rfl; show A.units < 9900; omega) (fun j q1 q2 => ?_) (by rw [allTrue]; exact q)
    match j, q1, q2 with
    | 0, q1, q2 =>
      have := SeqAt.EqAt.int_int (A := A.in1) (s := s) k t1 k t2
      simpa using this
  | .got u, hu, ⟨a1, t1, x1, h1, l1, r1⟩, ⟨a2, t2, x2, h2, l2, r2⟩ =>
    subst h1 h2
    have hd : Sv.dep (.got u) = u.dep + 1 := rfl
    refine SeqAt.eq_listAt (e := fun _ => true) l1.list l2.list rfl (by show A.units < 9900; omega) (fun j q1 q2 => ?_) (by rw [allTrue]; exact q)
    match j, q1, q2 with
    | 0, q1, q2 =>
      have := (PyProof.Rows.eqGives_str "got" "got" t1 t2).at A.in1 s
      simpa using this
    | 1, q1, q2 => exact eqAt_sv (by show A.units + 1 + u.dep < 9800; omega) r1 r2
section
variable {w : World} {c : Cx} {g : Heap} {l : List (Str × Value)} {own : Own} {s : Shared} {A : Around} {E : Value → Shared → Prop} {env : Env} {gp : Heap} {outer : List Env}
theorem lsAt {a b : Nat} {xs ys : List Value} {rows : List Row} {σ : Nat → Row → Sv} (hd : ∀ i r, rows[i]? = some r → (σ i r).dep ≤ 8) (hu : A.units < 9000) (h1 : Ix (fun i v r => SvAt s.heap v (σ i r)) xs rows) (h2 : Ix (fun i v r => SvAt s.heap v (σ i r)) ys rows) : xs.length = ys.length ∧ ∀ (j : Nat) (x y : Value), xs[j]? = some x → ys[j]? = some y → SeqAt.EqAt A.in1 s x y true := by
  refine ⟨h1.1.trans h2.1.symm, fun j x y e1 e2 => ?_⟩
  obtain ⟨r, hr, q1⟩ := h1.get' e1
  have q2 := h2.2 j y r e2 hr
  exact eqAt_sv (by show A.units + 1 + _ < 9800; have := hd j r hr; omega) q1 q2
theorem eqLs {a b : Nat} {xs ys : List Value} {rows : List Row} {σ : Nat → Row → Sv} {Q : Value → Shared → Prop} (ha : IsL s.heap a xs) (hb : IsL s.heap b ys) (hd : ∀ i r, rows[i]? = some r → (σ i r).dep ≤ 8) (hu : A.units < 9000) (h1 : Ix (fun i v r => SvAt s.heap v (σ i r)) xs rows) (h2 : Ix (fun i v r => SvAt s.heap v (σ i r)) ys rows) (q : Q (.bool true) s) : wpAny (MD w) A (compareOp .Eq (.ref a) (.ref b)) Q E s := by
  obtain ⟨z, he⟩ := lsAt (a := a) (b := b) hd hu h1 h2
  refine SeqAt.eq_listAt (e := fun _ => true) ha.list hb.list (by simp [z]) (by show A.units < 9900; omega) (fun j h1 h2 => ?_) (by rw [allTrue]; exact q)
  simp only [List.size_toArray] at h1 h2
  exact he j _ _ (by simp [h1]) (by simp [h2])
theorem neLs {a b : Nat} {xs ys : List Value} {rows : List Row} {σ : Nat → Row → Sv} {Q : Value → Shared → Prop} (ha : IsL s.heap a xs) (hb : IsL s.heap b ys) (hd : ∀ i r, rows[i]? = some r → (σ i r).dep ≤ 8) (hu : A.units < 9000) (h1 : Ix (fun i v r => SvAt s.heap v (σ i r)) xs rows) (h2 : Ix (fun i v r => SvAt s.heap v (σ i r)) ys rows) (q : Q (.bool false) s) : wpAny (MD w) A (compareOp .NotEq (.ref a) (.ref b)) Q E s := by
  obtain ⟨z, he⟩ := lsAt (a := a) (b := b) hd hu h1 h2
  have := SeqAt.RcNeAt.lists (A := A) (s := s) (e := fun _ => true) ha.list hb.list (by simp [z]) (by show A.units < 9900; omega) (fun j h1 h2 => by
    simp only [List.size_toArray] at h1 h2
    exact he j _ _ (by simp [h1]) (by simp [h2]))
  rw [allTrue] at this
  exact this _ _ _ _ q
theorem neNil {a b : Nat} {xs : List Value} {Q : Value → Shared → Prop} (ha : IsL s.heap a xs) (hb : IsL s.heap b []) (hu : A.units < 9000) (q : Q (.bool (!xs.isEmpty)) s) : wpAny (MD w) A (compareOp .NotEq (.ref a) (.ref b)) Q E s := by
  cases xs with
  | nil =>
    have := SeqAt.RcNeAt.lists (A := A) (s := s) (e := fun _ => true) ha.list hb.list rfl (by show A.units < 9900; omega) (fun j h1 h2 => absurd h1 (Nat.not_lt_zero _))
    exact this _ _ _ _ q
  | cons x r =>
    exact SeqAt.RcNeAt.lists_lengths ha.list hb.list (by simp) (by show A.units < 9900; omega) _ _ _ _ q
theorem mCls {x C f : Nat} {kvs : List (Str × Value)} {name : Str} {pl : Sem Bool} {Q : Value × List Value → Shared → Prop} (S : Sp w c g l own s) (I : IsInst w s.heap x C kvs) (hl : kvs.lookup name = none)
    (hg : plainGet (hd.heap_39 w.params) C name = true) (hf : findIn (hd.heap_39 w.params) (.ref C) name = some (some (.ref f))) (ht : isFn (hd.heap_39 w.params) (.ref f) = true) (h : Q (.ref f, [.ref x]) s) : wpAny (MD w) A (getMethod (.ref x) name pl) Q E s := by
  obtain ⟨dx, od, hx, hdx, es, n, rfl, T, hn⟩ := I
  refine method_fn S.gl.kin (x := x) (C := C) (ox := instObj C dx) (od := some (dictOf es n)) ⟨hx, rfl, rfl, hdx⟩ (plainGet_of hg).1 (plainGet_of hg).2 hf (beq_iff_eq.mp ht) ?_ h
  show (lookIn name (dictOf es n)).map _ = _
  rw [lookIn_dict, getL_kv T, hl]; rfl
theorem Sp.frame (S : Sp w c g l own s) : ∃ (h₀ : Heap) (m : Str → Option Value), (K w).In h₀ ∧ Fr h₀ c.L s.heap m := by
  obtain ⟨m, n, _⟩ := S.ns
  refine ⟨sel c.s0.heap fun b => b != 245 && b != 502, m, fun b o hb => ?_, n, fun b o e => ?_, ?_⟩
  · have up := S.gp _ _ (S.gl0.kg b o hb)
    have n1 : b ≠ 245 := fun z => by subst z; rw [S.gt1] at up; cases up
    have n2 : b ≠ 502 := fun z => by subst z; rw [S.gt2] at up; cases up
    rw [sel_get, if_pos (by simp [n1, n2])]
    exact S.gl0.gl.kin b o hb
  · rw [sel_get] at e
    split at e
    · rename_i q
      simp only [Bool.and_eq_true, bne_iff_ne] at q
      exact S.old b o e q.1 q.2
    · cases e
  · show (Array.map _ (Array.range c.s0.heap.objs.size)).size ≤ c.L
    rw [Array.size_map, Array.size_range]
    exact S.sz
theorem eqI {x y C f : Nat} {kx ky : List (Str × Value)} {Q : Value → Shared → Prop} (S : Sp w c g l own s) (hu : A.units < 9000) (Ix : IsInst w s.heap x C kx) (Iy : IsInst w s.heap y C ky)
    (hs : findIn (hd.heap_39 w.params) (.ref C) "__eq__" = some (some (.ref f))) (hf : isFn (hd.heap_39 w.params) (.ref f) = true)
    (h : wpAny (MD w) A (call (.ref f) [.ref x, .ref y]) (PySem.W.CmpBack Q) E s) : wpAny (MD w) A (compareOp .Eq (.ref x) (.ref y)) Q E s := by
  obtain ⟨dx, odx, hx, hdx, _⟩ := Ix
  obtain ⟨dy, ody, hy, hdy, _⟩ := Iy
  obtain ⟨h₀, m, X₀, F⟩ := S.frame
  have I1 : W.InstAt s.heap x (instObj C dx) C (some odx) := ⟨hx, rfl, rfl, hdx⟩
  have I2 : W.InstAt s.heap y (instObj C dy) C (some ody) := ⟨hy, rfl, rfl, hdy⟩
  exact cmp_ofEq (cmp_K (show A.units < 9900 by omega) F X₀ I1 I2.type (by unfold notFirst; rw [beq_self_eq_true, Bool.true_or]) hs hf h)
end
end Mine
end
section
set_option maxHeartbeats 4000000
namespace Mine
section
variable {w : World} {c : Cx} {g : Heap} {l : List (Str × Value)} {own : Own} {s : Shared} {A : Around} {E : Value → Shared → Prop} {env : Env} {gp : Heap} {outer : List Env}
theorem listT {a : Nat} {vs : List Value} {Q : Value → Shared → Prop} (S : Sp w c g l own s) (ha : IsT s.heap a vs) (hz : vs.length ≤ 1000) (h : ∀ s' L g', Ext g g' → IsL g' L vs → Sp w c g' l own s' → Q (.ref L) s') : wpAny (MD w) A (call (.type "list") [.ref a]) Q E s := by
  obtain ⟨n, ha⟩ := ha
  refine call_list_seq a (T := "tuple") (.inr rfl) ha rfl rfl (fun h' c' hk hl => ?_) (by rw [List.size_toArray, sizeLine_eq]; omega)
  have Sk : Sp w c g l own { s with heap := h' } := by
    have := (show Sp w c g l (own ++ itO []) s by simpa [itO] using S).chgs (s' := { s with heap := h' }) (its' := []) (fun b o _ x => hk b o x) rfl rfl rfl (fun _ hp => nomatch hp)
    simpa [itO] using this
  obtain ⟨n1, n2, n3, n4⟩ := S.new_of (Nat.le_refl s.heap.objs.size)
  have S2 : Sp w c g l ((s.heap.objs.size, ListP vs) :: own) { s with heap := h' } := ⟨Sk.gens, Sk.os, Sk.gl0, Sk.tabs, Sk.t0, Sk.old, Sk.osz, Sk.sz, Sk.low, Sk.ge, Sk.gs, Sk.gp, Sk.gt1, Sk.gt2, Sk.ns, Sk.gL, fun p hp => by
    rcases List.mem_cons.mp hp with rfl | hp
    · exact ⟨⟨_, hl, c', rfl⟩, n1, n2, n3⟩
    · exact Sk.ow p hp, by
    rw [List.map_cons, List.nodup_cons]
    exact ⟨fun hm => by obtain ⟨p, hp, hq⟩ := List.mem_map.mp hm; exact n4 p hp hq, Sk.nd⟩⟩
  obtain ⟨g', e, hL, S3⟩ := S2.frzL
  exact h _ _ g' e hL S3
variable {x : Str} {px : Pos} {body orelse : List Stmt} {Q : Flow → Shared → Prop}
theorem for_R {n : Nat} {t : Tok} (hn : n ≤ 1000) (hh : A.handled = none) (S : Sp w c g l own s) (Inv : Nat → Heap → List (Str × Value) → Own → Prop) (i0 : Inv 0 g l own)
    (turn : ∀ k t its g' l' own' s', k < n → Ext g g' → Inv k g' l' own' → Sp w c g' ((x, .int k t) :: l') (own' ++ itO its) s' → wpAny (MD w) A (execs body env) (loopQ (Nx1 w c g' its Inv k) Q) (forE w A env E) s')
    (fin : ∀ g' l' own' s', Ext g g' → Inv n g' l' own' → Sp w c g' l' own' s' → wpAny (MD w) A (execs orelse env) Q (forE w A env E) s')
    (hL : env.locals = c.L := by rfl) (hl : env.kindOf x = some .local := by kernel_rfl) (hp : (env.scope.kind == .class || (env.scope.kind == .module && env.locals != env.globals)) = false := by rfl) :
    wpAny (MD w) A (call (.type "range") [.int n t]) (fun v s₁ => wpAny (MD w) A (pyIter v) (fun it s₂ => codeAny (MD w) A (.forLoop (.Name x px) it body orelse env) (fun r s' => match r with | .ok f => Q f s' | .error e => cameBackBy (MD w) A env E e s') s₂) E s₁) E s := by
  refine call_range_1 ?_
  have S1 := S.push (P := fun _ => True) (o := { cls := .type "range", data := .fields #[.int 0 s.toks, .int n t, .int 1 (s.toks + 1)] }) (s' := { s with heap := s.heap.push { cls := .type "range", data := .fields #[.int 0 s.toks, .int n t, .int 1 (s.toks + 1)] }, toks := s.toks + 1 + 1 }) rfl trivial rfl rfl rfl
  have S1 := S1.weakO (own' := own) (List.sublist_cons_self ..)
  refine wpAny_pyIter_range (IsRange.new s.heap 0 n 1 s.toks t (s.toks + 1)) (small_one (by omega) (by omega) (by omega) (by omega)) ?_
  have rs : Builtin.Range.rangeSize 0 (n : Int) 1 = (n : Int) := by rw [rangeSize_one]; split <;> omega
  rw [rs]
  dsimp only
  have W := Walks.range (prog := P0) (w := w) hh ((s.heap.push { cls := .type "range", data := .fields #[.int 0 s.toks, .int n t, .int 1 (s.toks + 1)] }).objs.size) 0 1 n
  have Kt := KTurns.ofWalks (target := .Name x px) W (fun i v s Q E _ q => wpAny_pure q)
  have T : KT w A (.Name x px) ((s.heap.push { cls := .type "range", data := .fields #[.int 0 s.toks, .int n t, .int 1 (s.toks + 1)] }).objs.size) _ _ n _ _ _ := KT.mk Kt (fun i h st b hb => by rw [List.mem_singleton.mp hb]; exact ⟨_, st⟩) (fun s Q E st q => W.self 0 s Q E st q)
  have a : At g [(s.heap.push { cls := .type "range", data := .fields #[.int 0 s.toks, .int n t, .int 1 (s.toks + 1)] }).objs.size] [(s.heap.push { cls := .type "range", data := .fields #[.int 0 s.toks, .int n t, .int 1 (s.toks + 1)] }).objs.size] [((s.heap.push { cls := .type "range", data := .fields #[.int 0 s.toks, .int n t, .int 1 (s.toks + 1)] }).objs.size, { cls := .type "range_iterator", data := .fields #[rawInt 0, rawInt (n : Int), rawInt 1] })] := ⟨rfl, fun b hb hnb => absurd hb hnb⟩
  have S2 := S1.pushE (o := { cls := .type "range_iterator", data := .fields #[rawInt 0, rawInt (n : Int), rawInt 1] }) (s' := { heap := (s.heap.push { cls := .type "range", data := .fields #[.int 0 s.toks, .int n t, .int 1 (s.toks + 1)] }).push { cls := .type "range_iterator", data := .fields #[rawInt 0, rawInt (n : Int), rawInt 1] }, gens := s.gens, drawn := s.drawn, toks := s.toks + 1 + 1, os := s.os }) rfl rfl rfl rfl
  refine for_any T a S2 ?_ (asg1 (P1 := fun k v => ∃ t, v = .int ((0 : Int) + k * 1) t) hL hl hp) Inv i0 (fun k its g' l' own' b s' hk e iv hb S' => ?_) fin
  · have := Heap.get?_push_size (s.heap.push { cls := .type "range", data := .fields #[.int 0 s.toks, .int n t, .int 1 (s.toks + 1)] }) (o := { cls := .type "range_iterator", data := .fields #[rawInt 0, rawInt (n : Int), rawInt 1] }) rfl
    simpa using this
  · obtain ⟨v, rfl, t', rfl⟩ := hb
    have e1 : (0 : Int) + (k : Int) * 1 = k := by omega
    rw [e1] at S'
    exact turn k t' its g' l' own' s' hk e iv S'
end
section
variable {w : World} {c : Cx} {g : Heap} {l : List (Str × Value)} {own : Own} {s : Shared} {A : Around} {E : Value → Shared → Prop} {env : Env} {gp : Heap} {outer : List Env}
theorem newD1 {ke ve : Expr} {x : Str} {i : Int} {pos : Pos} {Q : Value → Shared → Prop} (S : Sp w c g l own s)
    (hk : ∀ (s : Shared) (own : Own) (Q : Value → Shared → Prop) (E : Value → Shared → Prop), Sp w c g l own s → (∀ s' t, Sp w c g l own s' → Q (.str x t) s') → wpAny (MD w) A (eval ke env) Q E s)
    (hv : ∀ (s : Shared) (own : Own) (Q : Value → Shared → Prop) (E : Value → Shared → Prop), Sp w c g l own s → (∀ s' t, Sp w c g l own s' → Q (.int i t) s') → wpAny (MD w) A (eval ve env) Q E s)
    (h : ∀ s' D t, Sp w c g l ((D, DictO w [(x, .int i t)]) :: own) s' → Q (.ref D) s') : wpAny (MD w) A (eval (.Dict [some ke] [ve] pos) env) Q E s := by
  refine wpAny_Dict_walk (knd := strKind P0 w) rfl rfl (by simp) (by simp) ?_
  have S1 := S.push (P := DictO w []) (o := { cls := .type "dict", data := .dict #[] }) (s' := { s with heap := s.heap.push { cls := .type "dict", data := .dict #[] } }) rfl ⟨[], 0, rfl, .nil, .nil⟩ rfl rfl rfl
  generalize hD : s.heap.objs.size = D at *
  show wpAny _ _ (evalPairs [(eval ke env, do let x ← eval ve env; standAt pos; pure x)]) _ _ _
  unfold evalPairs
  refine wpAny_bind (hk _ _ _ _ S1 fun s2 t2 S2 => wpAny_bind (wpAny_holding (wpAny_bind (hv _ _ _ _ S2 fun s3 t3 S3 => wpAny_bind (wpAny_standAt (wpAny_pure ?_))))))
  refine wpAny_bind (wpAny_holding (wpAny_pure (wpAny_pure ?_)))
  refine ⟨[(x, .int i t3)], ⟨strKind_is P0 w x t2, rfl, trivial⟩, IsD0.dictOf (S3.at 0 rfl), fun h' D' sb => ?_⟩
  obtain ⟨o', x', DO⟩ := IsD0.of D'
  exact h _ D t3 (S3.chg (i := 0) rfl sb.extBut (Nat.le_of_eq sb.1.symm) x' DO rfl rfl)
theorem stLs' {a sl : Nat} {vs : List Value} {vl vu : Value} {lo hi : Option Int} {value : Expr} {lower upper : Option Expr} {p : Pos} {Q : Value → Shared → Prop} (S : Sp w c g l own s) (ha : s.heap.IsList a vs.toArray) (hs : s.heap.IsSliceOf sl vl vu .none) (pl : IsPart vl lo) (pu : IsPart vu hi) (hz : vs.length ≤ 1000)
    (h : ∀ s' b, Sp w c g l ((b, ListP (slicePick vs.toArray lo hi none).toList) :: own) s' → Q (.ref b) s') : wpAny (MD w) A (subscriptTail value (.Slice lower upper none p) (.ref a) (.ref sl)) Q E s := by
  refine tail_any (ops := [.ref sl, .ref a]) ha.typeIs slot_list_getitem.lookup (wpAny_getItem_list_slice ha hs pl pu .none (by decide) ?_ (by rw [List.size_toArray, sizeLine_eq]; omega)) rfl
  exact h _ _ (S.push (o := { cls := .type "list", data := .seq (slicePick vs.toArray lo hi none) }) rfl ⟨0, by simp [listO]⟩ rfl rfl rfl)
theorem lenL' {a : Nat} {vs : List Value} {Q : Value → Shared → Prop} (S : Sp w c g l own s) (ha : s.heap.IsList a vs.toArray) (hz : vs.length ≤ 1000) (h : ∀ s' t, Sp w c g l own s' → Q (.int vs.length t) s') : wpAny (MD w) A (call (.builtin "len") [.ref a]) Q E s := by
  refine PyProof.Rows.len_list ha (by rw [List.size_toArray]; omega) ?_
  rw [List.size_toArray]
  exact h _ _ (S.tk rfl rfl rfl)
end
end Mine
end
section
set_option maxHeartbeats 4000000
namespace Mine
section
variable {w : World} {c : Cx} {g : Heap} {l : List (Str × Value)} {own : Own} {s : Shared} {A : Around} {E : Value → Shared → Prop} {env : Env} {gp : Heap} {outer : List Env}
theorem Sp.thrK (S : Sp w c g l own s) (O : Out A c.gp c.s0.heap outer) (hf : env.frame = some c.L) {e : Nat} {s' : Shared} (t : Thr w s g (env :: outer) e s') : ∃ c' g' T, Slid c outer c' ∧ Ext g g' ∧ Sp w c' g' l ((T, TbO .none) :: (e, ExcO (.ref T)) :: own) s' := by
  obtain ⟨s0', g', L, T, z1, z2, z3, S2⟩ := t
  have hs : Heap.SlotsOnly (c.L :: fsO outer) s.heap s0'.heap := by
    have : fsO (env :: outer) = c.L :: fsO outer := by show List.filterMap _ _ = _; rw [List.filterMap_cons, hf]
    exact this ▸ z3
  obtain ⟨s1, y1, y2, y3, S1⟩ := S.slots hs z1 z2 fun f hf => O.mem hf
  obtain ⟨e1, S3⟩ := S1.join S2
  exact ⟨⟨s1, c.gp, c.L⟩, g', T, ⟨rfl, rfl, y1, y2, y3⟩, e1, S3⟩
theorem useXK {f : Value} {pos : List Value} {kw : List (Str × Value)} {Post : Heap → Value → Prop} {Bad : Prop} {Q : Value → Shared → Prop} {A' : Around} (S : Sp w c g l own s) (C : ConX w A' f pos kw g s (env :: outer) Post Bad)
    (O : Out A c.gp c.s0.heap outer) (hf : env.frame = some c.L) (hE : ∀ e s' c' g' T, Bad → Slid c outer c' → Ext g g' → Sp w c' g' l ((T, TbO .none) :: (e, ExcO (.ref T)) :: own) s' → E (.ref e) s')
    (h : ∀ v s' g', Ext g g' → Post g' v → Sp w c g' l own s' → Q v s') : wpAny (MD w) A' (call f pos kw) Q E s := by
  refine C Q E (fun v s' B hp => ?_) fun e s' b t => ?_
  · obtain ⟨g', e, S', N⟩ := S.after B
    exact h v s' g' e (hp g' N) S'
  · obtain ⟨c', g', T, z, e1, S'⟩ := S.thrK O hf t
    exact hE e s' c' g' T b z e1 S'
theorem Sp.back0 {c' : Cx} {g' : Heap} {l' : List (Str × Value)} {own' : Own} {s' : Shared} (S : Sp w c g l own s) (S' : Sp w c' g' l' own' s') (z : Slid c [] c') : Sp w c g' l' own' s' := by
  obtain ⟨z1, z2, z3, z4, z5⟩ := z
  have hz : c'.s0.heap.objs.size = c.s0.heap.objs.size := z5.1
  have hg : ∀ b : Nat, c'.s0.heap.get? b = c.s0.heap.get? b := fun b => z5.2.1 b (by simp [fsO])
  obtain ⟨a1, a2, a3, a4, a5, a6, a7, a8, a9, b1, b2, b3, b4, b5, b6, b7, b8, b9⟩ := S'
  exact ⟨a1.trans z3, a2.trans z4, S.gl0, a4, S.t0, fun b o x => a6 b o ((hg b).trans x), hz ▸ a7, S.sz, S.low, b1, fun b o x => by rw [← z1, ← hz]; exact b2 b o x, z1 ▸ b3, b4, b5, z2 ▸ b6, z2 ▸ b7, fun p hp => by rw [← hz, ← z2]; exact b8 p hp, b9⟩
theorem Sp.hold {T e : Nat} {tb : Value} (S : Sp w c g l ((T, TbO tb) :: (e, ExcO (.ref T)) :: own) s) : ∃ g', Ext g g' ∧ Sp w c g' l own s ∧ ∀ {A : Around}, A.handled = some (.ref e) → Hnd A g' := by
  have S1 := S.weakO (own' := (e, ExcO (.ref T)) :: own) (List.sublist_cons_self ..)
  obtain ⟨g', o, e1, h1, ⟨h2, vs, h3, h4, h5⟩, S2⟩ := S1.frz1
  exact ⟨g', e1, S2, fun h => .inr ⟨e, o, vs, h, h1, h3, h5⟩⟩
end
end Mine
end
section
namespace Mine
set_option maxHeartbeats 4000000
theorem fill_k (w : World) : (hd.heap_39 w.params).lookup 0 = (hd.heap_39 w.params).lookup 0 ∧ PySem.Challenge.rw_vc0011_01.prog = PySem.Challenge.rw_vc0011_01.prog := by
  k_fill
  exact ⟨rfl, rfl⟩
local macro_rules | `(tactic| walk_at "lk") => `(tactic| ((repeat (first | (with_reducible exact lk_here) | ((with_reducible apply lk_there); (next => kernel_rfl)))) <;> fail))
local macro_rules | `(tactic| walk_at "rv") => `(tactic| (simp only [List.reverse_cons, List.reverse_nil, List.nil_append, List.cons_append] at *))
set_option hygiene false in
local macro_rules | `(tactic| walk_at "z") => `(tactic| (first
  | (with_reducible refine sq ?_)
  | (with_reducible refine sq_next ?_)
  | (with_reducible refine sq_ret ?_)
  | (with_reducible refine ex_nil ?_)
  | (with_reducible refine sq_cont ?_)
  | (with_reducible refine loop_next ?_)
  | (with_reducible refine loop_cont ?_)
  | (with_reducible refine loop_ret ?_)
  | (with_reducible refine ret_v ?_)
  | (with_reducible refine ret_n ?_)
  | (with_reducible refine PyProof.Rows.ite_tt ?_)
  | (with_reducible refine PyProof.Rows.ite_ff ?_)
  | (with_reducible refine ifNT ?_)
  | (with_reducible refine ifNF ?_)
  | ((with_reducible show @ite _ (_ = true) _ _ _); first | refine PySem.W.kdb_pos rfl ?_ | refine PySem.W.kdb_neg rfl ?_)
  | (with_reducible refine wpAny_If ?_)
  | (with_reducible refine wpAny_IfExp ?_)
  | (with_reducible refine wpAny_Return_some ?_)
  | (with_reducible refine wpAny_Continue ?_)
  | (with_reducible refine wpAny_isTrue_Not ?_)
  | (with_reducible refine wpAny_isTrue_BoolOp ?_)
  | (with_reducible refine wpAny_allTrue_And_nil ?_)
  | (with_reducible refine wpAny_allTrue_And_cons ?_)
  | (with_reducible refine wpAny_allTrue_Or_nil ?_)
  | (with_reducible refine wpAny_allTrue_Or_cons ?_)
  | ((with_reducible show wpAny _ _ (isTrue (Expr.Compare _ [_] [_] _) _ _) _ _ _); refine wpAny_isTrue_Compare1 ?_)
  | ((with_reducible show wpAny _ _ (isTrue (Expr.Call _ _ _ _) _ _) _ _ _); refine wpAny_isTrue_value ?_)
  | ((with_reducible show wpAny _ _ (isTrue (Expr.Name _ _) _ _) _ _ _); refine wpAny_isTrue_value ?_)
  | ((with_reducible show wpAny _ _ (isTrue (Expr.Attribute _ _ _) _ _) _ _ _); refine wpAny_isTrue_value ?_)
  | ((with_reducible show wpAny _ _ (isTrue (Expr.ListComp _ _ _ _) _ _) _ _ _); refine wpAny_isTrue_value ?_)
  | ((with_reducible show wpAny _ _ (isTrue (Expr.Subscript _ _ _) _ _) _ _ _); refine wpAny_isTrue_value ?_)
  | ((with_reducible show wpAny _ _ (eval (Expr.Compare _ [_] [_] _) _) _ _ _); refine wpAny_Compare1 ?_)
  | ((with_reducible show wpAny _ _ (exec (Stmt.Expr _ _) _) _ _ _); refine wpAny_Expr_any ?_)
  | ((with_reducible show wpAny _ _ (exec (Stmt.For _ _ _ _ _) _) _ _ _); refine wpAny_For ?_)
  | ((with_reducible show wpAny _ _ (eval (Expr.BinOp _ _ _ _) _) _ _ _); refine wpAny_BinOp ?_)
  | ((with_reducible show wpAny _ _ (exec (Stmt.Assign [Expr.Name _ _] _ _) _) _ _ _); refine wpAny_Assign_Name ?_)
  | ((with_reducible show wpAny _ _ (exec (Stmt.Assign [Expr.Tuple _ _ _] (Expr.Tuple _ _ _) _) _) _ _ _); refine asn2 ?_)
  | ((with_reducible show wpAny _ _ (exec (Stmt.Assign [Expr.Tuple _ _ _] _ _) _) _ _ _); refine PyProof.Rows.Assign_Tuple ?_ (by kernel_rfl) rfl)
  | ((with_reducible show wpAny _ _ (exec (Stmt.Assign [Expr.Attribute _ _ _] _ _) _) _ _ _); refine plainObj_wpAny_Assign_Attribute ?_)
  | ((with_reducible show wpAny _ _ (exec (Stmt.Assign [Expr.Subscript _ _ _] _ _) _) _ _ _); refine wpAny_Assign_Subscript ?_)
  | (with_reducible refine wpAny_Call_ofName ?_)
  | ((with_reducible show wpAny _ _ (spliced (backTo _ (starEach (_ :: _) _))) _ _ _); refine wpAny_items_cons ?_)
  | (with_reducible refine wpAny_items_nil ?_)
  | ((with_reducible show wpAny _ _ (eval (Expr.Attribute (Expr.Name _ _) _ _) _) _ _ _); refine Attribute_Name_ ?_)
  | ((with_reducible show wpAny _ _ (eval (Expr.Attribute _ _ _) _) _ _ _); refine Attribute_any_ ?_)
  | (with_reducible refine tb ?_)
  | (with_reducible refine tn ?_)
  | ((with_reducible show wpAny _ _ (eval (Expr.Subscript _ _ _) _) _ _ _); refine Subscript_ ?_)
  | ((with_reducible show wpAny _ _ (eval (Expr.BoolOp BoolOp.Or _ _) _) _ _ _); refine BoolOp_or ?_)
  | ((with_reducible show wpAny _ _ (eval (Expr.BoolOp _ [_] _) _) _ _ _); refine BoolOp_one ?_)
  | ((with_reducible show wpAny _ _ (eval (Expr.Constant Const.none _ _) _) _ _ _); refine wpAny_Constant_none ?_)
  | ((with_reducible show wpAny _ _ (eval (Expr.Constant (Const.bool _) _ _) _) _ _ _); refine wpAny_Constant_bool ?_)
  | ((with_reducible show wpAny _ _ (eval (Expr.Constant (Const.int _) _ _) _) _ _ _); refine c_int (by assumption) ?_; intro s t S)
  | ((with_reducible show wpAny _ _ (eval (Expr.Constant (Const.str _) _ _) _) _ _ _); refine c_str (by assumption) ?_; intro s t S)
  | ((with_reducible show wpAny _ _ (eval (Expr.Name _ _) _) _ _ _); refine nm (by assumption) (by walk_at "lk") ?_)
  | ((with_reducible show wpAny _ _ (eval (Expr.Name _ _) _) _ _ _); refine nmK (by assumption) (by k_is) ?_)
  | ((with_reducible show wpAny _ _ (eval (Expr.Name _ _) _) _ _ _); refine nmB (by assumption) (by k_is) (by boot_fast) ?_)
  | (with_reducible refine asN ?_)
  | (with_reducible refine wpAny_bindName ?_)
  | ((with_reducible show wpAny _ _ (assignInOrder _ (_ :: _)) _ _ _); refine assignInOrder_cons ?_)
  | ((with_reducible show wpAny _ _ (assignInOrder _ []) _ _ _); refine assignInOrder_nil ?_)
  | ((with_reducible show wpAny _ _ (storeName _ _ _) _ _ _); refine sn (by assumption) ?_; intro s S)
  | (with_reducible refine iEq ?_)
  | (with_reducible refine iNe ?_)
  | (with_reducible refine iGt ?_)
  | (with_reducible refine sEq ?_)
  | (with_reducible refine sNe ?_)
  | ((with_reducible show wpAny _ _ (binaryOp Operator.Add (Value.int _ _) (Value.int _ _)) _ _ _); refine iAdd (by assumption) ?_; intro s t S)
  | ((with_reducible show wpAny _ _ (binaryOp Operator.Mod (Value.int _ _) (Value.int _ _)) _ _ _); refine iMod (by assumption) (by decide) ?_; intro s t S)
  | ((with_reducible show wpAny _ _ (binaryOp Operator.FloorDiv (Value.int _ _) (Value.int _ _)) _ _ _); refine iDiv (by assumption) (by decide) (by decide) ?_; intro s t S)
  | (with_reducible refine is_nn ?_)
  | (with_reducible refine isNot_nn ?_)
  | (with_reducible refine is_rr ?_)
  | (with_reducible refine isNot_rr ?_)
  | (with_reducible refine is_b ?_)
  | (with_reducible refine isNot_b ?_)
  | ((with_reducible show wpAny _ _ (compareOp CmpOp.Is _ _) _ _ _); refine wpAny_is_other (by rfl) (by intro e; exact nomatch e) ?_)
  | ((with_reducible show wpAny _ _ (compareOp CmpOp.IsNot _ _) _ _ _); refine wpAny_isNot_other (by rfl) (by intro e; exact nomatch e) ?_)
  | ((with_reducible show wpAny _ _ (eval (Expr.List _ _) _) _ _ _); refine List_ ?_)
  | ((with_reducible show wpAny _ _ (eval (Expr.Tuple _ _ _) _) _ _ _); refine Tuple_ ?_)
  | ((with_reducible show wpAny _ _ (newTuple [_, _]) (fun v s₂ => wpAny _ _ (unpackItems v 2 none) _ _ _) _ _); refine asn2' (by assumption) (by assumption) ?_; intro s S)
  | ((with_reducible show wpAny _ _ (eval (Expr.Call (Expr.Attribute _ _ _) _ _ _) _) _ _ _); refine methodCall_KW ?_)
  | ((with_reducible show wpAny _ _ (callWith _ (Value.builtin _) _ (backTo _ (starEach [] _)) (backToKw _ (keywordEach [] _))) _ _ _); refine PyProof.Rows.callWith_method0 ?_)
  | ((with_reducible show wpAny _ _ (callWith _ (Value.builtin _) _ (backTo _ (starEach (_ :: _) _)) (backToKw _ (keywordEach [] _))) _ _ _); refine cwB rfl rfl rfl ?_)
  | ((with_reducible show wpAny _ _ (callWith _ (Value.ref _) _ (backTo _ (starEach (_ :: _) _)) (backToKw _ (keywordEach [] _))) _ _ _); refine cwK (by assumption) (by k_is) ?_)
  | ((with_reducible show wpAny _ _ (callWith _ (Value.ref _) _ (backTo _ (starEach [] _)) (backToKw _ (keywordEach [] _))) _ _ _); refine cwK0 (by assumption) (by k_is) ?_)
  | ((with_reducible show wpAny _ _ (callWith _ (Value.ref _) _ (backTo _ (starEach (_ :: _) _)) (backToKw _ (keywordEach (_ :: _) _))) _ _ _); refine cwKW (by assumption) (by k_is) ?_)
  | ((with_reducible show wpAny _ _ (callWith _ (Value.ref _) _ (backTo _ (starEach [] _)) (backToKw _ (keywordEach (_ :: _) _))) _ _ _); refine cwKW0 (by assumption) (by k_is) ?_)
  | ((with_reducible show wpAny _ _ (callWith _ (Value.type _) [] (backTo _ (starEach (_ :: _) _)) (backToKw _ (keywordEach [] _))) _ _ _); refine cwT ?_)
  | (with_reducible refine kwAll_cons ?_)
  | (with_reducible refine kwAll_nil ?_)
  | ((with_reducible show Frag.In _ _ ∧ _); refine ⟨Sp.kin (by assumption), ?_⟩)
  ))
local macro_rules | `(tactic| walk_at "zz") => `(tactic| (walk_at "z"; repeat walk_at "z"))
set_option hygiene false in
local macro_rules | `(tactic| walk_at "sa") => `(tactic| (refine saN (by assumption) (by assumption) (by assumption) (by k_is) (Nat.le_of_ble_eq_true rfl) ?_; intro s S hz))
local macro_rules | `(tactic| walk_at "zs") => `(tactic| (repeat (first | walk_at "z" | walk_at "sa")))
local macro_rules | `(tactic| walk_at "lc") => `(tactic| (refine lcomp (cl := []) (closureFor_none (by decide)) rfl (by decide) ?_))
section
variable {c : Cx} {g : Heap} {l : List (Str × Value)} {own : Own} {s : Shared} {A : Around} {E : Value → Shared → Prop} {w : World} {gp : Heap} {env : Env}
theorem c_fields {x : Nat} {kvs : List (Str × Value)} {v : Value} (I : In w gp s) (hr : A.depth < 900) (hx : IsInst w gp x 142 kvs) (hl : kvs.lookup ("attrs" : Str) = some v) (hv : handedIn v = true) : Con w A (.ref 257) [.ref x] [] gp s fun _ r => r = v := by
  intro Q E h
  refine enter (binds := [(("cls" : Str), .ref x)]) I (Nat.lt_trans hr (by decide)) (by k_is) (by k_is) (.of_eq (by kernel_rfl)) (locs (by kernel_rfl)) (fun L s1 S => ?_) (by decide) rfl rfl rfl
  simp only [List.reverse_cons, List.reverse_nil, List.nil_append, List.cons_append] at S
  walk_at "zz"
  refine isiX (by assumption) (hx.mono S.up) (by k_is) (by k_is) (by k_is) (by k_is) (by k_is) (by k_is) (b := false) (by kernel_rfl) fun s S => ?_
  walk_at "zz"
  refine isiX (by assumption) (hx.mono S.up) (by k_is) (by k_is) (by k_is) (by k_is) (by k_is) (by k_is) (b := true) (by kernel_rfl) fun s S => ?_
  walk_at "zz"
  refine ga (by assumption) (hx.mono S.up) hl (by k_is) (by k_is) (by k_is) (by k_is) hv fun s S => ?_
  walk_at "zz"
  exact S.fin h fun _ _ => rfl
end
section
variable {c : Cx} {g : Heap} {l : List (Str × Value)} {own : Own} {s : Shared} {A : Around} {E : Value → Shared → Prop} {w : World} {gp : Heap} {env : Env}
theorem c_kind_of {x : Nat} {kvs : List (Str × Value)} {v : Value} (I : In w gp s) (hr : A.depth < 900) (hx : IsInst w gp x 213 kvs) (hl : kvs.lookup ("kind" : Str) = some v) (hv : handedIn v = true) : Con w A (.ref 224) [.ref x] [] gp s fun _ r => r = v := by
  intro Q E h
  refine enter (binds := [(("thing" : Str), .ref x)]) I (Nat.lt_trans hr (by decide)) (by k_is) (by k_is) (.of_eq (by kernel_rfl)) (locs (by kernel_rfl)) (fun L s1 S => ?_) (by decide) rfl rfl rfl
  simp only [List.reverse_cons, List.reverse_nil, List.nil_append, List.cons_append] at S
  walk_at "zz"
  refine isiX (by assumption) (hx.mono S.up) (by k_is) (by k_is) (by k_is) (by k_is) (by k_is) (by k_is) (b := true) (by kernel_rfl) fun s S => ?_
  walk_at "zz"
  refine ga (by assumption) (hx.mono S.up) hl (by k_is) (by k_is) (by k_is) (by k_is) hv fun s S => ?_
  walk_at "zz"
  exact S.fin h fun _ _ => rfl
theorem c_fieldsM {x y : Nat} {kvs kvk : List (Str × Value)} {v : Value} (I : In w gp s) (hr : A.depth < 800) (hx : IsInst w gp x 213 kvs) (hl : kvs.lookup ("kind" : Str) = some (.ref y)) (hy : IsInst w gp y 142 kvk) (hk : kvk.lookup ("attrs" : Str) = some v) (hv : handedIn v = true) : Con w A (.ref 257) [.ref x] [] gp s fun _ r => r = v := by
  intro Q E h
  refine enter (binds := [(("cls" : Str), .ref x)]) I (Nat.lt_trans hr (by decide)) (by k_is) (by k_is) (.of_eq (by kernel_rfl)) (locs (by kernel_rfl)) (fun L s1 S => ?_) (by decide) rfl rfl rfl
  simp only [List.reverse_cons, List.reverse_nil, List.nil_append, List.cons_append] at S
  walk_at "zz"
  refine isiX (by assumption) (hx.mono S.up) (by k_is) (by k_is) (by k_is) (by k_is) (by k_is) (by k_is) (b := true) (by kernel_rfl) fun s S => ?_
  walk_at "zz"
  refine ga (by assumption) (hx.mono S.up) hl (by k_is) (by k_is) (by k_is) (by k_is) rfl fun s S => ?_
  walk_at "zz"
  refine use S (c_fields S.inn (by simp [Around.deeper]; omega) (hy.mono S.gp) hk hv) fun r s g' e hp S => ?_
  walk_at "zz"
  exact S.fin h fun _ _ => hp
theorem c_keyed {x D : Nat} {a : Nat} {kvs kva kvd : List (Str × Value)} {na : Str} {t : Tok} {v : Value} (I : In w gp s) (hr : A.depth < 900) (hx : IsInst w gp x 213 kvs) (hl : kvs.lookup ("held" : Str) = some (.ref D)) (ha : IsInst w gp a 313 kva) (hn : kva.lookup ("name" : Str) = some (.str na t)) (hd : IsD w gp D kvd) (hv : kvd.lookup na = some v) : Con w A (.ref 231) [.ref x, .ref a, .none] [] gp s fun _ r => r = v := by
  intro Q E h
  refine enter (binds := [(("inst" : Str), .ref x), (("a" : Str), .ref a), (("key" : Str), .none)]) I (Nat.lt_trans hr (by decide)) (by k_is) (by k_is) (.of_eq (by kernel_rfl)) (locs (by kernel_rfl)) (fun L s1 S => ?_) (by decide) rfl rfl rfl
  simp only [List.reverse_cons, List.reverse_nil, List.nil_append, List.cons_append] at S
  walk_at "zz"
  refine ga (by assumption) (hx.mono S.up) hl (by k_is) (by k_is) (by k_is) (by k_is) rfl fun s S => ?_
  walk_at "zz"
  refine ga (by assumption) (ha.mono S.up) hn (by k_is) (by k_is) (by k_is) (by k_is) rfl fun s S => ?_
  refine stD S (hd.mono S.up).1 hv fun s S => ?_
  walk_at "zz"
  exact S.fin h fun _ _ => rfl
end
section
variable {c : Cx} {g : Heap} {l : List (Str × Value)} {own : Own} {s : Shared} {A : Around} {E : Value → Shared → Prop} {w : World} {gp : Heap} {env : Env}
theorem c_eq_of {x M : Nat} {kvs : List (Str × Value)} {v : Value} (I : In w gp s) (hr : A.depth < 900) (hh : A.handled = none) (hx : IsInst w gp x 142 kvs) (hl : kvs.lookup ("mro" : Str) = some (.ref M)) (hM : IsL gp M [.ref x]) (he : kvs.lookup ("eq_attrs" : Str) = some v) (hv : handedIn v = true) (hn : plainIs v .none = true) (hn2 : v ≠ .none) :
    Con w A (.ref 125) [.ref x] [] gp s fun _ r => r = v := by
  intro Q E h
  refine enter (binds := [(("self" : Str), .ref x)]) I (Nat.lt_trans hr (by decide)) (by k_is) (by k_is) (.of_eq (by kernel_rfl)) (locs (by kernel_rfl)) (fun L s1 S => ?_) (by decide) rfl rfl rfl
  simp only [List.reverse_cons, List.reverse_nil, List.nil_append, List.cons_append] at S
  walk_at "zz"
  refine ga (by assumption) (hx.mono S.up) hl (by k_is) (by k_is) (by k_is) (by k_is) rfl fun s S => ?_
  refine for_L hh S hM (fun k g' l' own' => k = 0) rfl (fun k v1 its g' l' own' s hv1 e iv S => ?_) (fun g' l' own' s e iv S => by cases iv)
  subst iv
  cases hv1
  walk_at "zz"
  refine ga S (hx.mono S.up) he (by k_is) (by k_is) (by k_is) (by k_is) hv fun s S => ?_
  walk_at "zz"
  refine wpAny_isNot_other hn hn2 ?_
  walk_at "zz"
  refine ga S (hx.mono S.up) he (by k_is) (by k_is) (by k_is) (by k_is) hv fun s S => ?_
  walk_at "zz"
  exact S.fin h fun _ _ => rfl
theorem c_wanted (I : In w gp s) (hr : A.depth < 900) (hh : A.handled = none) {d : Nat} (hd : IsD w gp d []) : Con w A (.ref 480) [.none, .ref d] [] gp s fun _ r => r = .none := by
  intro Q E h
  refine enter (binds := [(("wanted" : Str), .none), (("named" : Str), .ref d)]) I (Nat.lt_trans hr (by decide)) (by k_is) (by k_is) (.of_eq (by kernel_rfl)) (locs (by kernel_rfl)) (fun L s1 S => ?_) (by decide) rfl rfl rfl
  simp only [List.reverse_cons, List.reverse_nil, List.nil_append, List.cons_append] at S
  walk_at "zz"
  refine for_D hh S hd (fun k g' l' own' => own' = [] ∧ l' = [(("named" : Str), .ref d), (("wanted" : Str), .none)]) ⟨rfl, rfl⟩ (fun k z u t its g' l' own' s hk e iv S => by cases hk) (fun g' l' own' s e iv S => ?_)
  obtain ⟨rfl, rfl⟩ := iv
  walk_at "zz"
  refine mD (hd.mono S.up) PySem.F.slot_dict_get PySem.F.type_dict_get ?_
  walk_at "zz"
  refine dGetD (by assumption) (hd.mono S.up) fun s S => ?_
  walk_at "zz"
  exact S.fin h fun _ _ => rfl
theorem c_dao (I : In w gp s) (hr : A.depth < 900) : Con w A (.ref 243) [.none, .none, .none, .bool true] [] gp s fun g r => ∃ a, r = .ref a ∧ IsT g a [.bool true, .bool true] := by
  intro Q E h
  refine enter (binds := [(("cmp" : Str), .none), (("eq" : Str), .none), (("order" : Str), .none), (("default_eq" : Str), .bool true)]) I (Nat.lt_trans hr (by decide)) (by k_is) (by k_is) (.of_eq (by kernel_rfl)) (locs (by kernel_rfl)) (fun L s1 S => ?_) (by decide) rfl rfl rfl
  simp only [List.reverse_cons, List.reverse_nil, List.nil_append, List.cons_append] at S
  walk_at "zz"
  refine newTf (by assumption) (Nat.le_of_ble_eq_true rfl) fun s a g' e ha S => ?_
  walk_at "zz"
  exact S.fin h fun gq e => ⟨a, rfl, ha.mono e⟩
theorem c_alias {x : Str} {t : Tok} (I : In w gp s) (hr : A.depth < 900) (hz : x.length ≤ 1000) : Con w A (.ref 264) [.str x t] [] gp s fun g r => ∃ t, r = .str (Txt.lstripChars x "_") t := by
  intro Q E h
  refine enter (binds := [(("name" : Str), .str x t)]) I (Nat.lt_trans hr (by decide)) (by k_is) (by k_is) (.of_eq (by kernel_rfl)) (locs (by kernel_rfl)) (fun L s1 S => ?_) (by decide) rfl rfl rfl
  simp only [List.reverse_cons, List.reverse_nil, List.nil_append, List.cons_append] at S
  walk_at "zz"
  refine PySem.GM.lstrip ?_
  walk_at "zz"
  refine PySem.SC.lstripChars (fun t' k => ?_) (by rw [sizeLine_eq]; omega)
  walk_at "zz"
  have S := S.tk (s' := { s with toks := k }) rfl rfl rfl
  exact S.fin h fun gq e => ⟨_, rfl⟩
theorem c_wrap {v : Value} (I : In w gp s) (hr : A.depth < 900) : Con w A (.ref 500) [v] [] gp s fun g r => ∃ a t, r = .ref a ∧ IsL g a [.str "got" t, v] := by
  intro Q E h
  refine enter (binds := [(("value" : Str), v)]) I (Nat.lt_trans hr (by decide)) (by k_is) (by k_is) (.of_eq (by kernel_rfl)) (locs (by kernel_rfl)) (fun L s1 S => ?_) (by decide) rfl rfl rfl
  simp only [List.reverse_cons, List.reverse_nil, List.nil_append, List.cons_append] at S
  walk_at "zz"
  refine newLf (by assumption) (Nat.le_of_ble_eq_true rfl) fun s a g' e ha S => ?_
  walk_at "zz"
  exact S.fin h fun gq e => ⟨a, _, rfl, ha.mono e⟩
end
section
variable {c : Cx} {g : Heap} {l : List (Str × Value)} {own : Own} {s : Shared} {A : Around} {E : Value → Shared → Prop} {w : World} {gp : Heap} {env : Env}
theorem set370 : findIn (hd.heap_39 w.params) (.ref 370) "__setattr__" = some (some (.builtin "object.__setattr__")) ∧ plainOver (hd.heap_39 w.params) 370 = true ∧ hasDictIn (hd.heap_39 w.params) 370 = true := ⟨by k_is, by k_is, by k_is⟩
theorem set348 : findIn (hd.heap_39 w.params) (.ref 348) "__setattr__" = some (some (.builtin "object.__setattr__")) ∧ plainOver (hd.heap_39 w.params) 348 = true ∧ hasDictIn (hd.heap_39 w.params) 348 = true := ⟨by k_is, by k_is, by k_is⟩
theorem c_Factory {f : Value} (I : In w gp s) (hr : A.depth < 900) : Con w A (.ref 370) [f] [] gp s fun g r => ∃ x kvs, r = .ref x ∧ IsInst w g x 370 kvs ∧ kvs.lookup ("factory" : Str) = some f ∧ kvs.lookup ("takes_self" : Str) = some (.bool false) := by
  intro Q E h
  refine enterI (binds := fun x => [(("self" : Str), .ref x), (("factory" : Str), f), (("takes_self" : Str), .bool false)]) I (by k_is) (by k_is) (by k_is) (Nat.lt_trans hr (by decide)) (by k_is) (by k_is) (fun x s' X => binds_K (K := hd.heap_39 w.params) X rfl (by k_is) rfl rfl rfl) (fun x => locs (by kernel_rfl)) (fun x dx L s1 A' hA hH S => ?_) (by decide) rfl rfl rfl
  simp only [List.reverse_cons, List.reverse_nil, List.nil_append, List.cons_append] at S
  have st := set370 (w := w)
  have hz : ([] : List (Str × Value)).length ≤ 0 := Nat.le_refl _
  walk_at "zs"
  refine ⟨rfl, ?_⟩
  obtain ⟨g', e, hI, S⟩ := Sp.frzI (own := []) S
  exact S.fin h fun gq e' => ⟨x, _, rfl, hI.mono e', by kernel_rfl, by kernel_rfl⟩
theorem c_Counting {d va it cv kw : Value} (I : In w gp s) (hr : A.depth < 900) : Con w A (.ref 348) [] [("default", d), ("validator", va), ("init", it), ("converter", cv), ("kw_only", kw), ("eq", .bool true), ("eq_key", .none), ("order", .bool true), ("order_key", .none), ("on_setattr", .none), ("alias", .none)] gp s
    fun g r => ∃ x kvs, r = .ref x ∧ IsInst w g x 348 kvs ∧ CntK kvs d va it cv kw := by
  intro Q E h
  refine enterI (binds := fun x => [(("self" : Str), .ref x), ("default", d), ("validator", va), ("init", it), ("converter", cv), ("kw_only", kw), ("eq", .bool true), ("eq_key", .none), ("order", .bool true), ("order_key", .none), ("on_setattr", .none), ("alias", .none)]) I (by k_is) (by k_is) (by k_is) (Nat.lt_trans hr (by decide)) (by k_is) (by k_is) (fun x s' X => .of_eq (by kernel_rfl)) (fun x => locs (by kernel_rfl)) (fun x dx L s1 A' hA hH S => ?_) (by decide) rfl rfl rfl
  simp only [List.reverse_cons, List.reverse_nil, List.nil_append, List.cons_append] at S
  have st := set348 (w := w)
  have hz : ([] : List (Str × Value)).length ≤ 0 := Nat.le_refl _
  walk_at "zs"
  refine ⟨rfl, ?_⟩
  obtain ⟨g', e, hI, S⟩ := Sp.frzI (own := []) S
  exact S.fin h fun gq e' => ⟨x, _, rfl, hI.mono e', by kernel_rfl, by kernel_rfl, by kernel_rfl, by kernel_rfl, by kernel_rfl, by kernel_rfl, by kernel_rfl, by kernel_rfl, by kernel_rfl, by kernel_rfl, by kernel_rfl⟩
end
section
variable {c : Cx} {g : Heap} {l : List (Str × Value)} {own : Own} {s : Shared} {A : Around} {E : Value → Shared → Prop} {w : World} {gp : Heap} {env : Env}
theorem c_dat0 (I : In w gp s) (hr : A.depth < 900) (hh : A.handled = none) : Con w A (.ref 250) [.none, .none, .none, .bool true] [] gp s fun g r => ∃ a, r = .ref a ∧ IsT g a [.bool true, .none, .bool true, .none] := by
  intro Q E h
  refine enter (binds := [(("cmp" : Str), .none), (("eq" : Str), .none), (("order" : Str), .none), (("default_eq" : Str), .bool true)]) I (Nat.lt_trans hr (by decide)) (by k_is) (by k_is) (.of_eq (by kernel_rfl)) (locs (by kernel_rfl)) (fun L s1 S => ?_) (by decide) rfl rfl rfl
  simp only [List.reverse_cons, List.reverse_nil, List.nil_append, List.cons_append] at S
  walk_at "zz"
  refine nestDef_K rfl rfl rfl ?_
  refine mkDef S rfl rfl rfl rfl rfl (by kernel_rfl) fun f c' ctv doc pm s g' e hf hc S => ?_
  walk_at "zz"
  refine newTf (by assumption) (Nat.le_of_ble_eq_true rfl) fun s a g' e ha S => ?_
  walk_at "zz"
  exact S.fin h fun gq e => ⟨a, rfl, ha.mono e⟩
end
theorem bool_call : typeLookup (.type "bool") "__call__" = pure none := by rw [typeLookup_type, builtinLookup_eq_fast]; kernel_rfl
section
variable {c : Cx} {g : Heap} {l : List (Str × Value)} {own : Own} {s : Shared} {A : Around} {E : Value → Shared → Prop} {w : World} {gp : Heap} {env : Env}
theorem c_dat1 (I : In w gp s) (hr : A.depth < 900) (hh : A.handled = none) : Con w A (.ref 250) [.none, .bool true, .bool true, .bool true] [] gp s fun g r => ∃ a, r = .ref a ∧ IsT g a [.bool true, .none, .bool true, .none] := by
  intro Q E h
  refine enter (binds := [(("cmp" : Str), .none), (("eq" : Str), .bool true), (("order" : Str), .bool true), (("default_eq" : Str), .bool true)]) I (Nat.lt_trans hr (by decide)) (by k_is) (by k_is) (.of_eq (by kernel_rfl)) (locs (by kernel_rfl)) (fun L s1 S => ?_) (by decide) rfl rfl rfl
  simp only [List.reverse_cons, List.reverse_nil, List.nil_append, List.cons_append] at S
  walk_at "zz"
  refine nestDef_K rfl rfl rfl ?_
  refine mkDef S rfl rfl rfl rfl rfl (by kernel_rfl) fun f c' ctv doc pm s g' e hf hc S => ?_
  have CD : ∀ {g2 : Heap} {s2 : Shared} {A2 : Around}, Ext g' g2 → In w g2 s2 → A2.depth < 950 → A2.handled = none → Con w A2 (.ref f) [.bool true] [] g2 s2 fun g r => ∃ a, r = .ref a ∧ IsT g a [.bool true, .none] := by
    intro g2 s2 A2 e2 I2 hr2 hh2 Q E h
    refine enterF (binds := [(("value" : Str), .bool true)]) I2 (Nat.lt_trans hr2 (by decide)) (e2 _ _ hf) (hc.keeps e2) (.of_eq (by kernel_rfl)) (locs (by kernel_rfl)) (fun L s1 S => ?_) (by decide) rfl rfl rfl
    simp only [List.reverse_cons, List.reverse_nil, List.nil_append, List.cons_append] at S
    walk_at "zz"
    refine call_callable (T := "bool") (r := none) rfl bool_call ?_
    walk_at "zz"
    refine newTf (by assumption) (Nat.le_of_ble_eq_true rfl) fun s a g' e ha S => ?_
    walk_at "zz"
    exact S.fin h fun gq e => ⟨a, rfl, ha.mono e⟩
  walk_at "zz"
  refine cwF (S.ge _ _ hf) ?_
  walk_at "zz"
  refine ⟨fnAt (S.ge _ _ hf), ?_⟩
  refine use S (CD Ext.rfl' S.inn (by show A.depth + 1 < 950; omega) hh) fun v s g2 e2 hv S => ?_
  obtain ⟨a2, rfl, ha2⟩ := hv
  refine asT S hh (ha2.mono S.ge) rfl fun s S => ?_
  walk_at "zz"
  refine cwF (S.ge _ _ (e2 _ _ hf)) ?_
  walk_at "zz"
  refine ⟨fnAt (S.ge _ _ (e2 _ _ hf)), ?_⟩
  refine use S (CD e2 S.inn (by show A.depth + 1 < 950; omega) hh) fun v s g3 e3 hv S => ?_
  obtain ⟨a3, rfl, ha3⟩ := hv
  refine asT S hh (ha3.mono S.ge) rfl fun s S => ?_
  walk_at "zz"
  refine newTf (by assumption) (Nat.le_of_ble_eq_true rfl) fun s a g' e ha S => ?_
  walk_at "zz"
  exact S.fin h fun gq e => ⟨a, rfl, ha.mono e⟩
end
section
variable {c : Cx} {g : Heap} {l : List (Str × Value)} {own : Own} {s : Shared} {A : Around} {E : Value → Shared → Prop} {w : World} {gp : Heap} {env : Env}
theorem set313 : findIn (hd.heap_39 w.params) (.ref 313) "__setattr__" = some (some (.builtin "object.__setattr__")) ∧ plainOver (hd.heap_39 w.params) 313 = true ∧ hasDictIn (hd.heap_39 w.params) 313 = true := ⟨by k_is, by k_is, by k_is⟩
theorem c_Attr {na d it cv kw : Value} (I : In w gp s) (hr : A.depth < 800) (hh : A.handled = none) (C1 : ∀ {gp s A}, In w gp s → A.depth < 900 → A.handled = none → Con w A (.ref 250) [.none, .bool true, .bool true, .bool true] [] gp s fun g r => ∃ a, r = .ref a ∧ IsT g a [.bool true, .none, .bool true, .none]) :
    Con w A (.ref 313) [na, d, .none, .none, it, .bool false, cv, kw, .bool true, .none, .bool true, .none, .none, .none, .bool true] [] gp s
      fun g r => ∃ x dx kvs od, r = .ref x ∧ s.heap.objs.size ≤ dx ∧ g.get? x = some (instObj 313 dx) ∧ g.get? dx = some od ∧ DictO w kvs od ∧ AttrK kvs na d it cv kw .none := by
  intro Q E h
  refine enterI (binds := fun x => [(("self" : Str), .ref x), ("name", na), ("default", d), ("validator", .none), ("cmp", .none), ("init", it), ("inherited", .bool false), ("converter", cv), ("kw_only", kw), ("eq", .bool true), ("eq_key", .none), ("order", .bool true), ("order_key", .none), ("on_setattr", .none), ("alias", .none), ("alias_is_default", .bool true)]) I (by k_is) (by k_is) (by k_is) (Nat.lt_trans hr (by decide)) (by k_is) (by k_is) (fun x s' X => binds_K (K := hd.heap_39 w.params) X rfl (by k_is) rfl rfl (by kernel_rfl)) (fun x => locs (by kernel_rfl)) (fun x dx L s1 A' hA hH S => ?_) (by decide) rfl rfl rfl
  simp only [List.reverse_cons, List.reverse_nil, List.nil_append, List.cons_append] at S
  have st := set313 (w := w)
  have hz : ([] : List (Str × Value)).length ≤ 0 := Nat.le_refl _
  have hh' : A'.handled = none := hH.trans hh
  walk_at "zs"
  refine use S (C1 S.inn (by show A'.depth + 1 < 900; omega) hh') fun v s g' e hv S => ?_
  obtain ⟨a, rfl, ha⟩ := hv
  refine asT S hh' (ha.mono S.ge) rfl fun s S => ?_
  walk_at "zs"
  refine ⟨rfl, ?_⟩
  obtain ⟨g', od, e, hx, hdx, hD, h0, S⟩ := Sp.frzJ (own := []) S
  exact S.fin h fun gq e' => ⟨x, dx, _, od, rfl, h0, e' _ _ hx, e' _ _ hdx, hD, ⟨by kernel_rfl, by kernel_rfl, by kernel_rfl, by kernel_rfl, by kernel_rfl, by kernel_rfl, by kernel_rfl, by kernel_rfl, by kernel_rfl, by kernel_rfl, fun _ => Nat.le_trans hz (by decide)⟩⟩
end
section
variable {c : Cx} {g : Heap} {l : List (Str × Value)} {own : Own} {s : Shared} {A : Around} {E : Value → Shared → Prop} {w : World} {gp : Heap} {env : Env}
theorem c_fca {q ca : Nat} {na d it cv kw kb : Value} {kvc : List (Str × Value)} (I : In w gp s) (hr : A.depth < 700) (hh : A.handled = none) (hq : gp.get? q = some (methodObj (.ref 300) (.ref 313))) (hca : IsInst w gp ca 348 kvc) (hk : CntK kvc d .none it cv kw) (hd : handedIn d = true) (hi : handedIn it = true) (hc : handedIn cv = true) (hkw : kw = .none ∧ kb = .bool false ∨ kw = .bool true ∧ kb = .bool true) :
    Con w A (.ref q) [na, .ref ca, .bool false] [] gp s
      fun g r => ∃ x dx kvs od, r = .ref x ∧ s.heap.objs.size ≤ dx ∧ g.get? x = some (instObj 313 dx) ∧ g.get? dx = some od ∧ DictO w kvs od ∧ AttrK kvs na d it cv kb .none := by
  rcases hkw with ⟨rfl, rfl⟩ | ⟨rfl, rfl⟩
  · intro Q E h
    refine enterM (binds := [(("cls" : Str), .ref 313), (("name" : Str), na), (("ca" : Str), .ref ca), (("kw_only" : Str), .bool false)]) I hq (Nat.lt_trans hr (by decide)) (by k_is) (by k_is) (.of_eq (by kernel_rfl)) (locs (by kernel_rfl)) (fun L s1 S => ?_) (by decide) rfl rfl rfl
    simp only [List.reverse_cons, List.reverse_nil, List.nil_append, List.cons_append] at S
    walk_at "zz"
    refine ga (by assumption) (hca.mono S.up) hk.default (by k_is) (by k_is) (by k_is) (by k_is) hd fun s S => ?_
    walk_at "zz"
    refine ga (by assumption) (hca.mono S.up) hk.validator (by k_is) (by k_is) (by k_is) (by k_is) rfl fun s S => ?_
    walk_at "zz"
    refine ga (by assumption) (hca.mono S.up) hk.init (by k_is) (by k_is) (by k_is) (by k_is) hi fun s S => ?_
    walk_at "zz"
    refine ga (by assumption) (hca.mono S.up) hk.converter (by k_is) (by k_is) (by k_is) (by k_is) hc fun s S => ?_
    walk_at "zz"
    refine ga (by assumption) (hca.mono S.up) hk.kw_only (by k_is) (by k_is) (by k_is) (by k_is) rfl fun s S => ?_
    walk_at "zz"
    refine ga (by assumption) (hca.mono S.up) hk.eq (by k_is) (by k_is) (by k_is) (by k_is) rfl fun s S => ?_
    walk_at "zz"
    refine ga (by assumption) (hca.mono S.up) hk.eq_key (by k_is) (by k_is) (by k_is) (by k_is) rfl fun s S => ?_
    walk_at "zz"
    refine ga (by assumption) (hca.mono S.up) hk.order (by k_is) (by k_is) (by k_is) (by k_is) rfl fun s S => ?_
    walk_at "zz"
    refine ga (by assumption) (hca.mono S.up) hk.order_key (by k_is) (by k_is) (by k_is) (by k_is) rfl fun s S => ?_
    walk_at "zz"
    refine ga (by assumption) (hca.mono S.up) hk.on_setattr (by k_is) (by k_is) (by k_is) (by k_is) rfl fun s S => ?_
    walk_at "zz"
    refine ga (by assumption) (hca.mono S.up) hk.alias (by k_is) (by k_is) (by k_is) (by k_is) rfl fun s S => ?_
    walk_at "zz"
    refine ga (by assumption) (hca.mono S.up) hk.alias (by k_is) (by k_is) (by k_is) (by k_is) rfl fun s S => ?_
    walk_at "zz"
    have SZ := S.osz
    refine use S (c_Attr S.inn (by show A.depth + 1 < 800; omega) hh (fun I hr hh => c_dat1 I hr hh)) fun v s g' e hv S => ?_
    walk_at "zz"
    exact S.fin h fun gq e' => by
      obtain ⟨x, dx, kvs, od, rfl, h0, hx, hdx, hD, hK⟩ := hv
      exact ⟨x, dx, kvs, od, rfl, Nat.le_trans SZ h0, e' _ _ hx, e' _ _ hdx, hD, hK⟩
  · intro Q E h
    refine enterM (binds := [(("cls" : Str), .ref 313), (("name" : Str), na), (("ca" : Str), .ref ca), (("kw_only" : Str), .bool false)]) I hq (Nat.lt_trans hr (by decide)) (by k_is) (by k_is) (.of_eq (by kernel_rfl)) (locs (by kernel_rfl)) (fun L s1 S => ?_) (by decide) rfl rfl rfl
    simp only [List.reverse_cons, List.reverse_nil, List.nil_append, List.cons_append] at S
    walk_at "zz"
    refine ga (by assumption) (hca.mono S.up) hk.default (by k_is) (by k_is) (by k_is) (by k_is) hd fun s S => ?_
    walk_at "zz"
    refine ga (by assumption) (hca.mono S.up) hk.validator (by k_is) (by k_is) (by k_is) (by k_is) rfl fun s S => ?_
    walk_at "zz"
    refine ga (by assumption) (hca.mono S.up) hk.init (by k_is) (by k_is) (by k_is) (by k_is) hi fun s S => ?_
    walk_at "zz"
    refine ga (by assumption) (hca.mono S.up) hk.converter (by k_is) (by k_is) (by k_is) (by k_is) hc fun s S => ?_
    walk_at "zz"
    refine ga (by assumption) (hca.mono S.up) hk.kw_only (by k_is) (by k_is) (by k_is) (by k_is) rfl fun s S => ?_
    walk_at "zz"
    refine ga (by assumption) (hca.mono S.up) hk.kw_only (by k_is) (by k_is) (by k_is) (by k_is) rfl fun s S => ?_
    walk_at "zz"
    refine ga (by assumption) (hca.mono S.up) hk.eq (by k_is) (by k_is) (by k_is) (by k_is) rfl fun s S => ?_
    walk_at "zz"
    refine ga (by assumption) (hca.mono S.up) hk.eq_key (by k_is) (by k_is) (by k_is) (by k_is) rfl fun s S => ?_
    walk_at "zz"
    refine ga (by assumption) (hca.mono S.up) hk.order (by k_is) (by k_is) (by k_is) (by k_is) rfl fun s S => ?_
    walk_at "zz"
    refine ga (by assumption) (hca.mono S.up) hk.order_key (by k_is) (by k_is) (by k_is) (by k_is) rfl fun s S => ?_
    walk_at "zz"
    refine ga (by assumption) (hca.mono S.up) hk.on_setattr (by k_is) (by k_is) (by k_is) (by k_is) rfl fun s S => ?_
    walk_at "zz"
    refine ga (by assumption) (hca.mono S.up) hk.alias (by k_is) (by k_is) (by k_is) (by k_is) rfl fun s S => ?_
    walk_at "zz"
    refine ga (by assumption) (hca.mono S.up) hk.alias (by k_is) (by k_is) (by k_is) (by k_is) rfl fun s S => ?_
    walk_at "zz"
    have SZ := S.osz
    refine use S (c_Attr S.inn (by show A.depth + 1 < 800; omega) hh (fun I hr hh => c_dat1 I hr hh)) fun v s g' e hv S => ?_
    walk_at "zz"
    exact S.fin h fun gq e' => by
      obtain ⟨x, dx, kvs, od, rfl, h0, hx, hdx, hD, hK⟩ := hv
      exact ⟨x, dx, kvs, od, rfl, Nat.le_trans SZ h0, e' _ _ hx, e' _ _ hdx, hD, hK⟩
end
section
variable {c : Cx} {g : Heap} {l : List (Str × Value)} {own : Own} {s : Shared} {A : Around} {E : Value → Shared → Prop} {w : World} {gp : Heap} {env : Env}
theorem c_attribM {cv kw : Value} (I : In w gp s) (hr : A.depth < 800) (hh : A.handled = none) (hcv : cv = .none ∨ cv = .ref 500) : Con w A (.ref 78) [] [("kw_only", kw), ("converter", cv), ("validator", .none)] gp s fun g r => ∃ x kvs, r = .ref x ∧ IsInst w g x 348 kvs ∧ CntK kvs (.ref 70) .none (.bool true) cv kw := by
  rcases hcv with rfl | rfl
  · intro Q E h
    refine enter (binds := [(("default" : Str), .ref 70), ("validator", .none), ("cmp", .none), ("init", .bool true), ("converter", .none), ("factory", .none), ("kw_only", kw), ("eq", .none), ("order", .none), ("on_setattr", .none), ("alias", .none)]) I (Nat.lt_trans hr (by decide)) (by k_is) (by k_is) (binds_K (K := hd.heap_39 w.params) I.gl.kin rfl (by k_is) rfl rfl (by kernel_rfl)) (locs (by kernel_rfl)) (fun L s1 S => ?_) (by decide) rfl rfl rfl
    simp only [List.reverse_cons, List.reverse_nil, List.nil_append, List.cons_append] at S
    walk_at "zz"
    refine use S (c_dat0 S.inn (by show A.depth + 1 < 900; omega) hh) fun v s g' e hv S => ?_
    obtain ⟨a, rfl, ha⟩ := hv
    refine asT S hh (ha.mono S.ge) rfl fun s S => ?_
    walk_at "zz"
    refine use S (c_Counting S.inn (by show A.depth + 1 < 900; omega)) fun v s g4 e4 hv S => ?_
    obtain ⟨x, kvs, rfl, hx, hK⟩ := hv
    walk_at "zz"
    exact S.fin h fun gq e' => ⟨x, kvs, rfl, hx.mono e', hK⟩
  · intro Q E h
    refine enter (binds := [(("default" : Str), .ref 70), ("validator", .none), ("cmp", .none), ("init", .bool true), ("converter", .ref 500), ("factory", .none), ("kw_only", kw), ("eq", .none), ("order", .none), ("on_setattr", .none), ("alias", .none)]) I (Nat.lt_trans hr (by decide)) (by k_is) (by k_is) (binds_K (K := hd.heap_39 w.params) I.gl.kin rfl (by k_is) rfl rfl (by kernel_rfl)) (locs (by kernel_rfl)) (fun L s1 S => ?_) (by decide) rfl rfl rfl
    simp only [List.reverse_cons, List.reverse_nil, List.nil_append, List.cons_append] at S
    walk_at "zz"
    refine use S (c_dat0 S.inn (by show A.depth + 1 < 900; omega) hh) fun v s g' e hv S => ?_
    obtain ⟨a, rfl, ha⟩ := hv
    refine asT S hh (ha.mono S.ge) rfl fun s S => ?_
    walk_at "zz"
    refine tF (tyFn S.kin (by k_is) rfl) ?_
    walk_at "zz"
    refine newTf (by assumption) (Nat.le_of_ble_eq_true rfl) fun s tp g3 e3 htp S => ?_
    walk_at "zz"
    refine isiP S (kitx_fn (a := 500)) (kitAt_K (K := hd.heap_39 w.params) S.kin (by k_is) rfl) (htp.mono S.ge) (b := false) (by kernel_rfl) (by intro e; cases e) fun s S => ?_
    walk_at "zz"
    refine use S (c_Counting S.inn (by show A.depth + 1 < 900; omega)) fun v s g4 e4 hv S => ?_
    obtain ⟨x, kvs, rfl, hx, hK⟩ := hv
    walk_at "zz"
    exact S.fin h fun gq e' => ⟨x, kvs, rfl, hx.mono e', hK⟩
theorem c_attribF {f : Nat} {cv kw : Value} {na qual : Str} {params : Arguments} {body : Expr} {scope : Scope} {clos : List (Str × Addr)} {pm ctv : Value} {c' : Nat} (I : In w gp s) (hr : A.depth < 800) (hh : A.handled = none) (hf : gp.get? f = some (kla_obj na qual params body scope clos pm c' ctv)) (hcv : cv = .none ∨ cv = .ref 500) : Con w A (.ref 78) [] [("factory", .ref f), ("kw_only", kw), ("converter", cv), ("validator", .none)] gp s fun g r => ∃ x kvs F kvF, r = .ref x ∧ IsInst w g x 348 kvs ∧ CntK kvs (.ref F) .none (.bool true) cv kw ∧ IsInst w g F 370 kvF ∧ kvF.lookup ("factory" : Str) = some (.ref f) ∧ kvF.lookup ("takes_self" : Str) = some (.bool false) := by
  rcases hcv with rfl | rfl
  · intro Q E h
    refine enter (binds := [(("default" : Str), .ref 70), ("validator", .none), ("cmp", .none), ("init", .bool true), ("converter", .none), ("factory", .ref f), ("kw_only", kw), ("eq", .none), ("order", .none), ("on_setattr", .none), ("alias", .none)]) I (Nat.lt_trans hr (by decide)) (by k_is) (by k_is) (binds_K (K := hd.heap_39 w.params) I.gl.kin rfl (by k_is) rfl rfl (by kernel_rfl)) (locs (by kernel_rfl)) (fun L s1 S => ?_) (by decide) rfl rfl rfl
    simp only [List.reverse_cons, List.reverse_nil, List.nil_append, List.cons_append] at S
    walk_at "zz"
    refine use S (c_dat0 S.inn (by show A.depth + 1 < 900; omega) hh) fun v s g' e hv S => ?_
    obtain ⟨a, rfl, ha⟩ := hv
    refine asT S hh (ha.mono S.ge) rfl fun s S => ?_
    walk_at "zz"
    refine call_callable (T := "function") ⟨_, S.ge _ _ (e _ _ hf), rfl⟩ fn_call ?_
    walk_at "zz"
    refine use S (c_Factory S.inn (by show A.depth + 1 < 900; omega)) fun v s g2 e2 hv S => ?_
    obtain ⟨F, kvF, rfl, hF, hF1, hF2⟩ := hv
    walk_at "zz"
    refine use S (c_Counting S.inn (by show A.depth + 1 < 900; omega)) fun v s g4 e4 hv S => ?_
    obtain ⟨x, kvs, rfl, hx, hK⟩ := hv
    walk_at "zz"
    exact S.fin h fun gq e' => ⟨x, kvs, F, kvF, rfl, hx.mono e', hK, hF.mono (e4.trans e'), hF1, hF2⟩
  · intro Q E h
    refine enter (binds := [(("default" : Str), .ref 70), ("validator", .none), ("cmp", .none), ("init", .bool true), ("converter", .ref 500), ("factory", .ref f), ("kw_only", kw), ("eq", .none), ("order", .none), ("on_setattr", .none), ("alias", .none)]) I (Nat.lt_trans hr (by decide)) (by k_is) (by k_is) (binds_K (K := hd.heap_39 w.params) I.gl.kin rfl (by k_is) rfl rfl (by kernel_rfl)) (locs (by kernel_rfl)) (fun L s1 S => ?_) (by decide) rfl rfl rfl
    simp only [List.reverse_cons, List.reverse_nil, List.nil_append, List.cons_append] at S
    walk_at "zz"
    refine use S (c_dat0 S.inn (by show A.depth + 1 < 900; omega) hh) fun v s g' e hv S => ?_
    obtain ⟨a, rfl, ha⟩ := hv
    refine asT S hh (ha.mono S.ge) rfl fun s S => ?_
    walk_at "zz"
    refine call_callable (T := "function") ⟨_, S.ge _ _ (e _ _ hf), rfl⟩ fn_call ?_
    walk_at "zz"
    refine use S (c_Factory S.inn (by show A.depth + 1 < 900; omega)) fun v s g2 e2 hv S => ?_
    obtain ⟨F, kvF, rfl, hF, hF1, hF2⟩ := hv
    walk_at "zz"
    refine tF (tyFn S.kin (by k_is) rfl) ?_
    walk_at "zz"
    refine newTf (by assumption) (Nat.le_of_ble_eq_true rfl) fun s tp g3 e3 htp S => ?_
    walk_at "zz"
    refine isiP S (kitx_fn (a := 500)) (kitAt_K (K := hd.heap_39 w.params) S.kin (by k_is) rfl) (htp.mono S.ge) (b := false) (by kernel_rfl) (by intro e; cases e) fun s S => ?_
    walk_at "zz"
    refine use S (c_Counting S.inn (by show A.depth + 1 < 900; omega)) fun v s g4 e4 hv S => ?_
    obtain ⟨x, kvs, rfl, hx, hK⟩ := hv
    walk_at "zz"
    exact S.fin h fun gq e' => ⟨x, kvs, F, kvF, rfl, hx.mono e', hK, hF.mono (e3.trans (e4.trans e')), hF1, hF2⟩
theorem c_attribD {d : Int} {t : Tok} {it : Bool} {cv kw : Value} (I : In w gp s) (hr : A.depth < 800) (hh : A.handled = none) (hcv : cv = .none ∨ cv = .ref 500) : Con w A (.ref 78) [] [("default", .int d t), ("init", .bool it), ("kw_only", kw), ("converter", cv), ("validator", .none)] gp s fun g r => ∃ x kvs, r = .ref x ∧ IsInst w g x 348 kvs ∧ CntK kvs (.int d t) .none (.bool it) cv kw := by
  rcases hcv with rfl | rfl
  · intro Q E h
    refine enter (binds := [(("default" : Str), .int d t), ("validator", .none), ("cmp", .none), ("init", .bool it), ("converter", .none), ("factory", .none), ("kw_only", kw), ("eq", .none), ("order", .none), ("on_setattr", .none), ("alias", .none)]) I (Nat.lt_trans hr (by decide)) (by k_is) (by k_is) (binds_K (K := hd.heap_39 w.params) I.gl.kin rfl (by k_is) rfl rfl (by kernel_rfl)) (locs (by kernel_rfl)) (fun L s1 S => ?_) (by decide) rfl rfl rfl
    simp only [List.reverse_cons, List.reverse_nil, List.nil_append, List.cons_append] at S
    walk_at "zz"
    refine use S (c_dat0 S.inn (by show A.depth + 1 < 900; omega) hh) fun v s g' e hv S => ?_
    obtain ⟨a, rfl, ha⟩ := hv
    refine asT S hh (ha.mono S.ge) rfl fun s S => ?_
    walk_at "zz"
    refine use S (c_Counting S.inn (by show A.depth + 1 < 900; omega)) fun v s g4 e4 hv S => ?_
    obtain ⟨x, kvs, rfl, hx, hK⟩ := hv
    walk_at "zz"
    exact S.fin h fun gq e' => ⟨x, kvs, rfl, hx.mono e', hK⟩
  · intro Q E h
    refine enter (binds := [(("default" : Str), .int d t), ("validator", .none), ("cmp", .none), ("init", .bool it), ("converter", .ref 500), ("factory", .none), ("kw_only", kw), ("eq", .none), ("order", .none), ("on_setattr", .none), ("alias", .none)]) I (Nat.lt_trans hr (by decide)) (by k_is) (by k_is) (binds_K (K := hd.heap_39 w.params) I.gl.kin rfl (by k_is) rfl rfl (by kernel_rfl)) (locs (by kernel_rfl)) (fun L s1 S => ?_) (by decide) rfl rfl rfl
    simp only [List.reverse_cons, List.reverse_nil, List.nil_append, List.cons_append] at S
    walk_at "zz"
    refine use S (c_dat0 S.inn (by show A.depth + 1 < 900; omega) hh) fun v s g' e hv S => ?_
    obtain ⟨a, rfl, ha⟩ := hv
    refine asT S hh (ha.mono S.ge) rfl fun s S => ?_
    walk_at "zz"
    refine tF (tyFn S.kin (by k_is) rfl) ?_
    walk_at "zz"
    refine newTf (by assumption) (Nat.le_of_ble_eq_true rfl) fun s tp g3 e3 htp S => ?_
    walk_at "zz"
    refine isiP S (kitx_fn (a := 500)) (kitAt_K (K := hd.heap_39 w.params) S.kin (by k_is) rfl) (htp.mono S.ge) (b := false) (by kernel_rfl) (by intro e; cases e) fun s S => ?_
    walk_at "zz"
    refine use S (c_Counting S.inn (by show A.depth + 1 < 900; omega)) fun v s g4 e4 hv S => ?_
    obtain ⟨x, kvs, rfl, hx, hK⟩ := hv
    walk_at "zz"
    exact S.fin h fun gq e' => ⟨x, kvs, rfl, hx.mono e', hK⟩
end
section
variable {c : Cx} {g : Heap} {l : List (Str × Value)} {own : Own} {s : Shared} {A : Around} {E : Value → Shared → Prop} {w : World} {gp : Heap} {env : Env}
theorem c_linear {k b : Nat} (I : In w gp s) (hr : A.depth < 900) (hh : A.handled = none) (hb : IsT gp b []) : Con w A (.ref 151) [.ref k, .ref b] [] gp s fun g r => ∃ M, r = .ref M ∧ IsL g M [.ref k] := by
  intro Q E h
  refine enterC (binds := [(("kind" : Str), .ref k), (("bases" : Str), .ref b)]) (lr := [(("bases" : Str), .ref b), (("kind" : Str), .ref k)]) (co := fun L => [(L + 2, CellP none), (L + 1, CellP none)]) I (Nat.lt_trans hr (by decide)) (by k_is) (by k_is) (.of_eq (by kernel_rfl)) (fun L x hx => .inl (locs (by kernel_rfl) x hx)) (fun L => by exact (show (["heads", "rows"] : List Str).Nodup by decide)) (by kernel_rfl) (fun L => by kernel_rfl) (fun L s1 S => ?_) rfl rfl rfl
  walk_at "zz"
  walk_at "lc"
  walk_at "zz"
  refine lcB (fun Q => it_T hh S (hb.mono S.gp)) (by decide) rfl (fun C => by kernel_rfl) (by decide) (Nat.zero_le _) (fun k ys g2 own2 => ys = [] ∧ own2 = [(L + 2, CellP none), (L + 1, CellP none)]) ⟨rfl, rfl⟩ (fun C D k its v ys g' l' own' s' E' hv => by cases hv) (fun C lC D ys g' own' s e1 iv S => ?_)
  obtain ⟨rfl, rfl⟩ := iv
  refine lpost S fun s S => ?_
  obtain ⟨g1, e1, hD1, S⟩ := S.frzL
  walk_at "zz"
  walk_at "lc"
  walk_at "zz"
  refine lcB (fun Q => it_T hh S (hb.mono S.gp)) (by decide) rfl (fun C => by kernel_rfl) (by decide) (Nat.zero_le _) (fun k ys g2 own2 => ys = [] ∧ own2 = [(L + 2, CellP none), (L + 1, CellP none)]) ⟨rfl, rfl⟩ (fun C D k its v ys g' l' own' s' E' hv => by cases hv) (fun C lC D2 ys g' own' s e2 iv S => ?_)
  obtain ⟨rfl, rfl⟩ := iv
  refine lpost S fun s S => ?_
  obtain ⟨g2, e3, hD2, S⟩ := S.frzL
  walk_at "zz"
  refine newLf S (Nat.le_of_ble_eq_true rfl) fun s D3 g3 e4 hD3 S => ?_
  refine addL S ((hD1.mono (e2.trans (e3.trans e4))).mono S.ge) (hD3.mono S.ge) (Nat.le_of_ble_eq_true rfl) fun s D4 S => ?_
  obtain ⟨g4, e5, hD4, S⟩ := S.frzL
  refine snC (i := 1) S rfl (by kernel_rfl) fun s S => ?_
  walk_at "zz"
  refine newLf S (Nat.le_of_ble_eq_true rfl) fun s M g5 e6 hM S => ?_
  walk_at "zz"
  refine while0 fun E' => ?_
  walk_at "zz"
  walk_at "lc"
  refine nmC (i := 1) S rfl (by kernel_rfl) ?_
  refine lcB (fun Q => it_L hh S (hD4.mono e6)) (by decide) rfl (fun C => by kernel_rfl) (by decide) (Nat.le_of_ble_eq_true rfl) (fun k ys g2 own2 => ys = [] ∧ own2 = [(L + 2, CellP none), (L + 1, CellP (some (.ref D4)))]) ⟨rfl, rfl⟩ (fun C D k its v ys g' l' own' s E' hv hk e7 iv S => ?_) (fun C lC D5 ys g' own' s e7 iv S => ?_)
  · obtain ⟨rfl, rfl⟩ := iv
    have : v = .ref D2 := by
      cases k with
      | zero => cases hv; rfl
      | succ k => cases hv
    subst this
    refine turn1 ?_
    walk_at "zz"
    refine tL S (((hD2.mono (e4.trans (e5.trans e6))).mono e7).mono S.ge) (Nat.zero_le _) fun s S => ?_
    walk_at "zz"
    exact ⟨_, _, _, Ext.rfl', ⟨rfl, rfl⟩, S⟩
  · obtain ⟨rfl, rfl⟩ := iv
    refine lpost S fun s S => ?_
    obtain ⟨o, ho, hL5⟩ := S.at 0 rfl
    obtain ⟨n5, rfl⟩ := hL5
    refine tL S ⟨n5, ho⟩ (Nat.zero_le _) fun s S => ?_
    refine ⟨rfl, fun E' => ?_⟩
    walk_at "zz"
    exact S.fin h fun gq e' => ⟨M, rfl, hM.mono (e7.trans e')⟩
end
section
variable {c : Cx} {g : Heap} {l : List (Str × Value)} {own : Own} {s : Shared} {A : Around} {E : Value → Shared → Prop} {w : World} {gp : Heap} {env : Env}
theorem set142 : findIn (hd.heap_39 w.params) (.ref 142) "__setattr__" = some (some (.builtin "object.__setattr__")) ∧ plainOver (hd.heap_39 w.params) 142 = true ∧ hasDictIn (hd.heap_39 w.params) 142 = true := ⟨by k_is, by k_is, by k_is⟩
theorem set213 : findIn (hd.heap_39 w.params) (.ref 213) "__setattr__" = some (some (.builtin "object.__setattr__")) ∧ plainOver (hd.heap_39 w.params) 213 = true ∧ hasDictIn (hd.heap_39 w.params) 213 = true := ⟨by k_is, by k_is, by k_is⟩
theorem c_Kind {b : Nat} {na : Value} (I : In w gp s) (hr : A.depth < 800) (hh : A.handled = none) (hb : IsT gp b []) :
    Con w A (.ref 142) [na, .ref b] [] gp s
      fun g r => ∃ x dx M T od, r = .ref x ∧ s.heap.objs.size ≤ dx ∧ g.get? x = some (instObj 142 dx) ∧ g.get? dx = some od ∧ DictO w [("name", na), ("mro", .ref M), ("attrs", .ref T), ("eq_attrs", .none), ("order_attrs", .none)] od ∧ IsL g M [.ref x] := by
  intro Q E h
  refine enterI (binds := fun x => [(("self" : Str), .ref x), ("name", na), ("bases", .ref b)]) I (by k_is) (by k_is) (by k_is) (Nat.lt_trans hr (by decide)) (by k_is) (by k_is) (fun x s' X => .of_eq (by kernel_rfl)) (fun x => locs (by kernel_rfl)) (fun x dx L s1 A' hA hH S => ?_) (by decide) rfl rfl rfl
  simp only [List.reverse_cons, List.reverse_nil, List.nil_append, List.cons_append] at S
  have st := set142 (w := w)
  have hz : ([] : List (Str × Value)).length ≤ 0 := Nat.le_refl _
  have hh' : A'.handled = none := hH.trans hh
  walk_at "zs"
  refine use S (c_linear S.inn (by show A'.depth + 1 < 900; omega) hh' hb) fun v s g' e hv S => ?_
  obtain ⟨M, rfl, hM⟩ := hv
  walk_at "zs"
  refine newTf (by assumption) (Nat.le_of_ble_eq_true rfl) fun s T g2 e2 hT S => ?_
  walk_at "zs"
  refine ⟨rfl, ?_⟩
  obtain ⟨g3, od, e3, hx, hdx, hD, h0, S⟩ := Sp.frzJ (own := []) S
  refine S.fin h fun gq e' => ⟨x, dx, M, T, od, rfl, h0, e' _ _ hx, e' _ _ hdx, ?_, hM.mono (e2.trans (e3.trans e'))⟩
  have ek : (put ("order_attrs" : Str) .none (put "eq_attrs" .none (put "attrs" (.ref T) (put "mro" (.ref M) (put "name" na []))))) = [(("name" : Str), na), ("mro", .ref M), ("attrs", .ref T), ("eq_attrs", .none), ("order_attrs", .none)] := by kernel_rfl
  rw [← ek]; exact hD
theorem c_Made {k : Nat} (I : In w gp s) (hr : A.depth < 800) :
    Con w A (.ref 213) [.ref k] [] gp s
      fun g r => ∃ x D od, r = .ref x ∧ s.heap.objs.size ≤ D ∧ IsInst w g x 213 [("kind", .ref k), ("held", .ref D)] ∧ g.get? D = some od ∧ DictO w [] od := by
  intro Q E h
  refine enterI (binds := fun x => [(("self" : Str), .ref x), ("kind", .ref k)]) I (by k_is) (by k_is) (by k_is) (Nat.lt_trans hr (by decide)) (by k_is) (by k_is) (fun x s' X => .of_eq (by kernel_rfl)) (fun x => locs (by kernel_rfl)) (fun x dx L s1 A' hA hH S => ?_) (by decide) rfl rfl rfl
  simp only [List.reverse_cons, List.reverse_nil, List.nil_append, List.cons_append] at S
  have st := set213 (w := w)
  have hz : ([] : List (Str × Value)).length ≤ 0 := Nat.le_refl _
  walk_at "zs"
  refine newD S fun s D S => ?_
  have hD0 := S.owGe 0 rfl
  obtain ⟨g1, od, e1, hD, hDO, S⟩ := S.frz1
  walk_at "zs"
  refine ⟨rfl, ?_⟩
  obtain ⟨g3, e3, hI, S⟩ := Sp.frzI (own := []) S
  have ek : (put ("held" : Str) (.ref D) (put "kind" (.ref k) [])) = [(("kind" : Str), .ref k), ("held", .ref D)] := by kernel_rfl
  rw [ek] at hI
  exact S.fin h fun gq e' => ⟨x, D, od, rfl, hD0, hI.mono e', e' _ _ (e3 _ _ hD), hDO⟩
theorem c_lawNew {v : Value} (I : In w gp s) (hr : A.depth < 900) (hv : handedIn v = true) : Con w A (.ref 507) [v] [] gp s fun g r => ∃ f na qual params body scope clos pm c' ctv, r = .ref f ∧ g.get? f = some (kla_obj na qual params body scope clos pm c' ctv) ∧ Fac w g f v := by
  intro Q E h
  refine enterC (binds := [(("k" : Str), v)]) (lr := []) (co := fun L => [(L + 1, CellP (some v))]) I (Nat.lt_trans hr (by decide)) (by k_is) (by k_is) (.of_eq (by kernel_rfl)) (fun L x hx => .inr ?_) (fun L => by exact (show (["k"] : List Str).Nodup by decide)) (by kernel_rfl) (fun L => by kernel_rfl) (fun L s1 S => ?_) rfl rfl rfl
  · rw [List.mem_singleton.mp hx]; exact ⟨by kernel_rfl, by kernel_rfl⟩
  obtain ⟨g1, o, e1, hc, hcP, S⟩ := S.frz1
  walk_at "zz"
  refine kla_eval rfl ?_
  refine mkLam S rfl rfl (clos := [("k", L + 1)]) (by kernel_rfl) rfl rfl (by kernel_rfl) fun f c' ctv pm s g' e hf hcr S => ?_
  walk_at "zz"
  refine S.fin h fun gq e' => ⟨f, _, _, _, _, _, _, _, _, _, rfl, e' _ _ hf, ?_⟩
  refine ⟨⟨_, _, e' _ _ hf, rfl⟩, ?_⟩
  intro g2 s2 A2 e2 I2 hr2 Q E h
  refine enterL I2 (Nat.lt_trans hr2 (by decide)) (e2 _ _ (e' _ _ hf)) (hcr.keeps (e'.trans e2)) (.of_eq (by kernel_rfl)) (fun L2 s3 S2 => ?_) (by decide) rfl rfl rfl
  walk_at "zz"
  refine nmF S2 ⟨o, e2 _ _ (e' _ _ (e _ _ hc)), hcP⟩ (by kernel_rfl) ?_
  walk_at "zz"
  refine newLf S2 (Nat.le_of_ble_eq_true rfl) fun s a g3 e3 ha S => ?_
  exact S.fin h fun gq e4 => ⟨a, rfl, ha.mono e4⟩
end
theorem abc {k : Nat} (h : k < 5) : ("abcde" : Str).cps[k]? = some (97 + k) := by
  match k, h with
  | 0, _ => rfl
  | 1, _ => rfl
  | 2, _ => rfl
  | 3, _ => rfl
  | 4, _ => rfl
section
variable {c : Cx} {g : Heap} {l : List (Str × Value)} {own : Own} {s : Shared} {A : Around} {E : Value → Shared → Prop} {w : World} {gp : Heap} {env : Env}
theorem c_rows {D : Nat} {dvs : List Value} {ds : List Int} (I : In w gp s) (hr : A.depth < 900) (hh : A.handled = none) (hD : IsL gp D dvs) (hI : Two IntAt dvs ds) (hz : ds.length ≤ 5) :
    Con w A (.ref 514) [.ref D] [] gp s fun g r => ∃ R vs rows, r = .ref R ∧ IsL g R vs ∧ Two (RowAt g) vs rows ∧ rows.length = ds.length ∧ ∀ i r, rows[i]? = some r → RowK i r := by
  intro Q E h
  refine enter (binds := [(("draws" : Str), .ref D)]) I (Nat.lt_trans hr (by decide)) (by k_is) (by k_is) (.of_eq (by kernel_rfl)) (locs (by kernel_rfl)) (fun L s1 S => ?_) (by decide) rfl rfl rfl
  simp only [List.reverse_cons, List.reverse_nil, List.nil_append, List.cons_append] at S
  have hl := hI.length
  walk_at "zz"
  refine newL S (Nat.zero_le _) fun s R S => ?_
  walk_at "zz"
  refine for_E hh S hD (fun k g' l' own' => l' = [(("rows" : Str), .ref R), ("draws", .ref D)] ∧ ∃ vs rows, own' = [(R, ListP vs)] ∧ Two (RowAt g') vs rows ∧ rows.length = k ∧ ∀ i r, rows[i]? = some r → RowK i r) ⟨rfl, [], [], rfl, .nil, rfl, fun i r e => by cases e⟩ (fun k v t its g' l' own' s hv e iv S => ?_) (fun g' l' own' s e iv S => ?_)
  · obtain ⟨rfl, vs, rows, rfl, hT, hn, hK⟩ := iv
    obtain ⟨d, hd', t2, rfl⟩ := hI.get' hv
    have hk5 : k < 5 := by
      have := (List.getElem?_eq_some_iff.mp hv).1
      omega
    walk_at "zz"
    refine stS (cp := 97 + k) S (abc hk5) (by omega) fun s t S => ?_
    walk_at "zz"
    refine mLo (i := 0) S rfl ?_
    walk_at "zz"
    refine iteS (fun v => ∃ x t2, v = .str x t2 ∧ (x = letter k ∨ x = ("_" : Str) ++ letter k)) S (fun hb => ?_) (fun hb => ?_) ?_
    · walk_at "zz"
      refine sAdd S (Nat.le_of_ble_eq_true rfl) fun s t S => ⟨⟨_, _, rfl, .inr rfl⟩, S⟩
    · walk_at "zz"
      exact ⟨⟨_, _, rfl, .inl rfl⟩, S⟩
    rintro v s ⟨x, t3, rfl, hx⟩ S
    walk_at "zz"
    refine newTf S (Nat.le_of_ble_eq_true rfl) fun s T g2 e2 hT2 S => ?_
    walk_at "zz"
    have hlv := hT.length
    refine app (i := 0) S rfl (by rw [sizeLine_eq]; omega) fun s S => ?_
    walk_at "zz"
    have h4 : ∃ q : Nat, d.fmod 4 = q ∧ q < 4 := ⟨(d.fmod 4).toNat, by have := Int.fmod_nonneg_of_pos d (show (0:Int) < 4 by decide); have := Int.fmod_lt_of_pos d (show (0:Int) < 4 by decide); omega⟩
    obtain ⟨q, hq, hq4⟩ := h4
    refine ⟨g2, _, _, e2, ⟨rfl, vs ++ [.ref T], rows ++ [⟨x, letter k, q, (d.fdiv 4).fmod 3 == 2, (d.fdiv 12).fmod 2 == 1⟩], rfl, (hT.imp fun _ _ h => h.mono e2).snoc ⟨T, _, _, _, rfl, by rw [hq] at hT2; exact hT2⟩, by simp [hn], fun i r hr => ?_⟩, S.weakL ?_⟩
    · rw [List.getElem?_append] at hr
      split at hr
      · exact hK i r hr
      · rename_i hlt
        have : i = k := by
          have := (List.getElem?_eq_some_iff.mp hr).1
          simp at this; omega
        subst this
        rw [hn] at hr
        simp at hr
        subst hr
        exact ⟨hk5, rfl, hx, hq4⟩
    · intro p hp
      simp only [List.mem_cons, List.not_mem_nil, or_false] at hp
      rcases hp with rfl | rfl <;> walk_at "lk"
  · obtain ⟨rfl, vs, rows, rfl, hT, hn, hK⟩ := iv
    walk_at "zz"
    obtain ⟨g2, e2, hR, S⟩ := S.frzL
    exact S.fin h fun gq e' => ⟨R, vs, rows, rfl, hR.mono e', hT.imp fun _ _ h => h.mono (e2.trans e'), by omega, hK⟩
end
section
variable {c : Cx} {g : Heap} {l : List (Str × Value)} {own : Own} {s : Shared} {A : Around} {E : Value → Shared → Prop} {w : World} {gp : Heap} {env : Env}
theorem c_lmade {R : Nat} {rvs : List Value} {rows : List Row} (I : In w gp s) (hr : A.depth < 400) (hh : A.handled = none) (hR : IsL gp R rvs) (hT : Two (RowAt gp) rvs rows) (ok : RowsOK rows)
    (MK : ∀ {gp s A} {d : Nat} {t : Tok} {kvs : List (Str × Value)}, In w gp s → A.depth < 500 → A.handled = none → IsD w gp d kvs → Ix (fun i kv r => kv.1 = r.na ∧ CaAt w gp kv.2 i r) kvs rows → Con w A (.ref 410) [.str "Drawn" t, .ref d] [] gp s fun g r => KindAt w g r rows) :
    Con w A (.ref 521) [.ref R, .none] [] gp s fun g r => KindAt w g r rows := by
  intro Q E h
  refine enter (binds := [(("rows" : Str), .ref R), ("check", .none)]) I (Nat.lt_trans hr (by decide)) (by k_is) (by k_is) (.of_eq (by kernel_rfl)) (locs (by kernel_rfl)) (fun L s1 S => ?_) (by decide) rfl rfl rfl
  simp only [List.reverse_cons, List.reverse_nil, List.nil_append, List.cons_append] at S
  walk_at "zz"
  refine newD S fun s D S => ?_
  walk_at "zz"
  refine for_E hh S hR (fun k g' l' own' => l' = [(("these" : Str), .ref D), ("check", .none), ("rows", .ref R)] ∧ ∃ kvs, own' = [(D, DictO w kvs)] ∧ Ix (fun i kv r => kv.1 = r.na ∧ CaAt w g' kv.2 i r) kvs (rows.take k)) ⟨rfl, [], rfl, Ix.nil⟩ (fun k v t its g' l' own' s hv e iv S => ?_) (fun g' l' own' s e iv S => ?_)
  · obtain ⟨rfl, kvs, rfl, hK⟩ := iv
    obtain ⟨r, hr', a, t1, t2, t3, rfl, hra⟩ := hT.get' hv
    have hra := hra.mono e
    walk_at "zz"
    refine stT (hra.mono S.ge) (by decide) (by decide) rfl ?_
    walk_at "zz"
    refine iteS (fun v => v = cvV r) S (fun hb => ?_) (fun hb => ?_) ?_
    · walk_at "zz"
      exact ⟨by unfold cvV; rw [if_pos hb], S⟩
    · walk_at "zz"
      exact ⟨by unfold cvV; rw [if_neg (by rw [hb]; decide)], S⟩
    rintro v s rfl S
    walk_at "zz"
    refine stT (hra.mono S.ge) (by decide) (by decide) rfl ?_
    walk_at "zz"
    refine iteS (fun v => v = kwV r) S (fun hb => ?_) (fun hb => ?_) ?_
    · walk_at "zz"
      exact ⟨by unfold kwV; rw [if_pos hb], S⟩
    · walk_at "zz"
      exact ⟨by unfold kwV; rw [if_neg (by rw [hb]; decide)], S⟩
    rintro v s rfl S
    walk_at "zz"
    refine stT (hra.mono S.ge) (by decide) (by decide) rfl ?_
    walk_at "zz"
    have tl := take_len hr'
    have nk : r.na ∉ kvs.map (·.1) := by
      rw [hK.keys (h := Row.na) (fun i a b h => h.1)]
      exact nodup_take ok.na hr'
    have hkd : r.kd = 0 ∨ r.kd = 1 ∨ r.kd = 2 ∨ r.kd = 3 := by
      obtain ⟨i, _, _, _, h4⟩ := ok.row r (List.mem_of_getElem? hr')
      omega
    rcases hkd with h0 | h0 | h0 | h0
    · obtain ⟨na, al, kd, kw, cv⟩ := r
      dsimp only at h0
      subst h0
      walk_at "zz"
      refine use S (c_attribM S.inn (by show A.depth + 1 < 800; omega) hh (by unfold cvV; split <;> simp)) fun v s g2 EE hv S => ?_
      obtain ⟨x, kvc, rfl, hx, hC⟩ := hv
      have CA : CaAt w g2 (.ref x) (rows.take k).length ⟨na, al, 0, kw, cv⟩ := ⟨x, kvc, _, rfl, hx, .inl ⟨rfl, rfl⟩, hC⟩
      walk_at "zz"
      refine stT ((hra.mono EE).mono S.ge) (by decide) (by decide) rfl ?_
      refine dSet (i := 0) S rfl (by have := hK.1; rw [tl] at this; rw [sizeLine_eq]; have := ok.len; have := (List.getElem?_eq_some_iff.mp hr').1; omega) fun s S => ?_
      walk_at "zz"
      rw [put_new _ _ _ nk] at S
      refine ⟨_, _, _, EE, ⟨rfl, _, rfl, by rw [take_snoc hr']; exact (hK.imp fun i kv r h => ⟨h.1, h.2.mono EE⟩).snoc ⟨rfl, CA⟩⟩, S.weakL ?_⟩
      intro p hp
      simp only [List.mem_cons, List.not_mem_nil, or_false] at hp
      rcases hp with rfl | rfl | rfl <;> walk_at "lk"
    · obtain ⟨na, al, kd, kw, cv⟩ := r
      dsimp only at h0
      subst h0
      walk_at "zz"
      refine stT (hra.mono S.ge) (by decide) (by decide) rfl ?_
      walk_at "zz"
      refine stT (hra.mono S.ge) (by decide) (by decide) rfl ?_
      walk_at "zz"
      refine use S (c_attribD S.inn (by show A.depth + 1 < 800; omega) hh (by unfold cvV; split <;> simp)) fun v s g2 EE hv S => ?_
      obtain ⟨x, kvc, rfl, hx, hC⟩ := hv
      have CA : CaAt w g2 (.ref x) (rows.take k).length ⟨na, al, 1, kw, cv⟩ := ⟨x, kvc, _, rfl, hx, .inr (.inr ⟨.inl rfl, _, by rw [tl]⟩), hC⟩
      walk_at "zz"
      refine stT ((hra.mono EE).mono S.ge) (by decide) (by decide) rfl ?_
      refine dSet (i := 0) S rfl (by have := hK.1; rw [tl] at this; rw [sizeLine_eq]; have := ok.len; have := (List.getElem?_eq_some_iff.mp hr').1; omega) fun s S => ?_
      walk_at "zz"
      rw [put_new _ _ _ nk] at S
      refine ⟨_, _, _, EE, ⟨rfl, _, rfl, by rw [take_snoc hr']; exact (hK.imp fun i kv r h => ⟨h.1, h.2.mono EE⟩).snoc ⟨rfl, CA⟩⟩, S.weakL ?_⟩
      intro p hp
      simp only [List.mem_cons, List.not_mem_nil, or_false] at hp
      rcases hp with rfl | rfl | rfl <;> walk_at "lk"
    · obtain ⟨na, al, kd, kw, cv⟩ := r
      dsimp only at h0
      subst h0
      walk_at "zz"
      refine stT (hra.mono S.ge) (by decide) (by decide) rfl ?_
      walk_at "zz"
      refine use S (c_lawNew S.inn (by show A.depth + 1 < 900; omega) rfl) fun v s g1 e1 hv S => ?_
      obtain ⟨f, fna, qual, params, body, scope, clos, pm, ctv, c', rfl, hf, hF⟩ := hv
      walk_at "zz"
      refine use S (c_attribF S.inn (by show A.depth + 1 < 800; omega) hh hf (by unfold cvV; split <;> simp)) fun v s g2 e2 hv S => ?_
      obtain ⟨x, kvc, F, kvF, rfl, hx, hC, hF1, hF2, hF3⟩ := hv
      have EE := e1.trans e2
      have CA : CaAt w g2 (.ref x) (rows.take k).length ⟨na, al, 2, kw, cv⟩ := ⟨x, kvc, _, rfl, hx, .inr (.inl ⟨rfl, F, f, kvF, _, rfl, hF1, hF2, hF3, by rw [tl]; exact hF.mono e2⟩), hC⟩
      walk_at "zz"
      refine stT ((hra.mono EE).mono S.ge) (by decide) (by decide) rfl ?_
      refine dSet (i := 0) S rfl (by have := hK.1; rw [tl] at this; rw [sizeLine_eq]; have := ok.len; have := (List.getElem?_eq_some_iff.mp hr').1; omega) fun s S => ?_
      walk_at "zz"
      rw [put_new _ _ _ nk] at S
      refine ⟨_, _, _, EE, ⟨rfl, _, rfl, by rw [take_snoc hr']; exact (hK.imp fun i kv r h => ⟨h.1, h.2.mono EE⟩).snoc ⟨rfl, CA⟩⟩, S.weakL ?_⟩
      intro p hp
      simp only [List.mem_cons, List.not_mem_nil, or_false] at hp
      rcases hp with rfl | rfl | rfl <;> walk_at "lk"
    · obtain ⟨na, al, kd, kw, cv⟩ := r
      dsimp only at h0
      subst h0
      walk_at "zz"
      refine stT (hra.mono S.ge) (by decide) (by decide) rfl ?_
      walk_at "zz"
      refine stT (hra.mono S.ge) (by decide) (by decide) rfl ?_
      walk_at "zz"
      refine use S (c_attribD S.inn (by show A.depth + 1 < 800; omega) hh (by unfold cvV; split <;> simp)) fun v s g2 EE hv S => ?_
      obtain ⟨x, kvc, rfl, hx, hC⟩ := hv
      have CA : CaAt w g2 (.ref x) (rows.take k).length ⟨na, al, 3, kw, cv⟩ := ⟨x, kvc, _, rfl, hx, .inr (.inr ⟨.inr rfl, _, by rw [tl]⟩), hC⟩
      walk_at "zz"
      refine stT ((hra.mono EE).mono S.ge) (by decide) (by decide) rfl ?_
      refine dSet (i := 0) S rfl (by have := hK.1; rw [tl] at this; rw [sizeLine_eq]; have := ok.len; have := (List.getElem?_eq_some_iff.mp hr').1; omega) fun s S => ?_
      walk_at "zz"
      rw [put_new _ _ _ nk] at S
      refine ⟨_, _, _, EE, ⟨rfl, _, rfl, by rw [take_snoc hr']; exact (hK.imp fun i kv r h => ⟨h.1, h.2.mono EE⟩).snoc ⟨rfl, CA⟩⟩, S.weakL ?_⟩
      intro p hp
      simp only [List.mem_cons, List.not_mem_nil, or_false] at hp
      rcases hp with rfl | rfl | rfl <;> walk_at "lk"
  · obtain ⟨rfl, kvs, rfl, hK⟩ := iv
    rw [take_all' hT.length] at hK
    walk_at "zz"
    obtain ⟨g2, e2, hD, S⟩ := S.frzD
    refine use S (MK S.inn (by show A.depth + 1 < 500; omega) hh hD (hK.imp fun i kv r h => ⟨h.1, h.2.mono e2⟩)) fun v s g3 e3 hv S => ?_
    walk_at "zz"
    refine S.fin h fun gq e4 => ?_
    obtain ⟨x, M, T, EQ, OR, n, avs, rfl, h1, h2, h3, h4, h5⟩ := hv
    exact ⟨x, M, T, EQ, OR, n, avs, rfl, h1.mono e4, h2.mono e4, h3.mono e4, h4.mono e4, h5.imp fun i v r h => h.mono e4⟩
end
theorem pick1 (v : Value) : (slicePick [v].toArray (some 1) none none).toList = [] := by kernel_rfl
section
variable {c : Cx} {g : Heap} {l : List (Str × Value)} {own : Own} {s : Shared} {A : Around} {E : Value → Shared → Prop} {w : World} {gp : Heap} {env : Env}
theorem c_base {x D M : Nat} {kvs : List (Str × Value)} (I : In w gp s) (hr : A.depth < 900) (hh : A.handled = none) (hx : IsInst w s.heap x 142 kvs) (hl : kvs.lookup ("mro" : Str) = some (.ref M)) (hM : IsL gp M [.ref x]) :
    Con w A (.ref 92) [.ref x, .ref D] [] gp s fun g r => ∃ T B v, r = .ref T ∧ IsT g T [.ref B, v] ∧ IsL g B [] := by
  intro Q E h
  refine enter (binds := [(("cls" : Str), .ref x), ("taken_attr_names", .ref D)]) I (Nat.lt_trans hr (by decide)) (by k_is) (by k_is) (.of_eq (by kernel_rfl)) (locs (by kernel_rfl)) (fun L s1 S => ?_) (by decide) rfl rfl rfl
  simp only [List.reverse_cons, List.reverse_nil, List.nil_append, List.cons_append] at S
  walk_at "zz"
  refine newLf S (Nat.zero_le _) fun s B g1 e1 hB S => ?_
  walk_at "zz"
  refine newD S fun s D2 S => ?_
  walk_at "zz"
  refine ga S (S.inst0 hx) hl (by k_is) (by k_is) (by k_is) (by k_is) rfl fun s S => ?_
  refine slc ?_
  refine wpAny_evalPart_some ?_
  walk_at "zz"
  refine wpAny_evalPart_none ?_
  refine ⟨_, _, _, _, S, fun s sl S hsl => ?_⟩
  refine stLs S (hM.mono S.up) hsl (.int _ _) .none (Nat.le_of_ble_eq_true rfl) fun s b S => ?_
  rw [pick1] at S
  obtain ⟨g2, e2, hb, S⟩ := S.frzL
  refine for_L hh S hb (fun k g' l' own' => l' = [(("base_attr_map" : Str), .ref D2), ("base_attrs", .ref B), ("taken_attr_names", .ref D), ("cls", .ref x)]) rfl (fun k v1 its g' l' own' s hv1 e iv S => by cases hv1) (fun g' l' own' s e3 iv S => ?_)
  subst iv
  walk_at "zz"
  refine newTf S (Nat.le_of_ble_eq_true rfl) fun s T g3 e4 hT S => ?_
  walk_at "zz"
  exact S.fin h fun gq e5 => ⟨T, B, _, rfl, hT.mono e5, hB.mono (e2.trans (e3.trans (e4.trans e5)))⟩
end
theorem pw_lt {l : List Nat} (h : l.Pairwise (· < ·)) {i j a b : Nat} (h1 : l[i]? = some a) (h2 : l[j]? = some b) (hij : i < j) : a < b := by
  obtain ⟨hi, rfl⟩ := List.getElem?_eq_some_iff.mp h1
  obtain ⟨hj, rfl⟩ := List.getElem?_eq_some_iff.mp h2
  exact List.pairwise_iff_getElem.mp h i j hi hj hij
section
variable {c : Cx} {g : Heap} {l : List (Str × Value)} {own : Own} {s : Shared} {A : Around} {E : Value → Shared → Prop} {w : World} {gp : Heap} {env : Env}
set_option pp.maxSteps 3000 in
theorem c_trans {x D M : Nat} {kvk kvs : List (Str × Value)} {t : Tok} {rows : List Row} (I : In w gp s) (hr : A.depth < 600) (hh : A.handled = none) (hx : IsInst w s.heap x 142 kvk) (hl : kvk.lookup ("mro" : Str) = some (.ref M)) (hM : IsL gp M [.ref x]) (hD : IsD w gp D kvs) (hK : Ix (fun i kv r => kv.1 = r.na ∧ CaAt w gp kv.2 i r) kvs rows) (ok : RowsOK rows) :
    Con w A (.ref 97) [.ref x, .ref D, .str "no" t, .bool false, .none] [] gp s fun g r => ∃ (T TA : Nat) (v1 v2 : Value) (avs : List Value), r = .ref T ∧ IsT g T [.ref TA, v1, v2] ∧ IsT g TA avs ∧ Ix (fun i v r => AtAt w g v i r) avs rows := by
  intro Q E h
  refine enterC (binds := [(("cls" : Str), .ref x), ("these", .ref D), ("kw_only", .str "no" t), ("collect_by_mro", .bool false), ("field_transformer", .none)]) (lr := [(("field_transformer" : Str), .none), ("collect_by_mro", .bool false), ("these", .ref D), ("cls", .ref x)]) (co := fun L => [(L + 1, CellP (some (.str "no" t)))]) I (Nat.lt_trans hr (by decide)) (by k_is) (by k_is) (.of_eq (by kernel_rfl)) (fun L y hy => ?_) (fun L => by exact (show (["kw_only"] : List Str).Nodup by decide)) (by kernel_rfl) (fun L => by kernel_rfl) (fun L s1 S => ?_) rfl rfl rfl
  · simp only [List.mem_cons, List.not_mem_nil, or_false] at hy
    rcases hy with rfl | rfl | rfl | rfl | rfl
    · exact .inl (by kernel_rfl)
    · exact .inl (by kernel_rfl)
    · exact .inr ⟨by kernel_rfl, by kernel_rfl⟩
    · exact .inl (by kernel_rfl)
    · exact .inl (by kernel_rfl)
  obtain ⟨g0, oc, e0, hc, hcP, S⟩ := S.frz1
  have HC : ∃ o, g0.get? (L + 1) = some o ∧ CellP (some (.str "no" t)) o := ⟨oc, hc, hcP⟩
  have lD := hK.1
  have l5 := ok.len
  refine sq ?_
  refine lcompA (cl := [("kw_only", L + 1)]) (by kernel_rfl) (by kernel_rfl) rfl (by decide) ?_
  walk_at "zz"
  refine mD (hD.mono S.up) PySem.F.slot_dict_items PySem.F.type_dict_items ?_
  walk_at "zz"
  refine dItems S (hD.mono S.up) fun vw s g1 e1 hV S => ?_
  refine lcBV (RR := fun acc C => compPost _ _ _ _ _ acc C) hh S hV (hD.mono S.gp) (by decide) rfl (fun C => by kernel_rfl) (fun C => by kernel_rfl) (by decide) (by rw [sizeLine_eq]; omega)
    (fun k ys g own => ∃ as, ys = aV as ∧ own = aO w as ∧ Ix (fun i a r => AOk w g a i r False) as (rows.take k)) ⟨[], rfl, rfl, Ix.nil⟩ (fun C D2 k its z t2 cv ys g' l' own' s E' hz hyk e2 iv S => ?_) (fun C lC D2 ys g' own' s e2 iv S => ?_)
  · obtain ⟨as, rfl, rfl, hA⟩ := iv
    obtain ⟨r, hr', hna, ca, kvc, d, rfl, hca, hd', hC⟩ := hK.get' hz
    dsimp only at hna
    subst hna
    refine turn0 ?_
    walk_at "zz"
    refine mCM (p := 302) (f := .ref 300) (rest := [.bool false]) (mc := .type "type") S (by k_is) (by k_is) (by k_is) (by k_is) fun q s g2 e3 hq S => ?_
    refine cwM (f := 300) (self := .ref 313) S (by k_is) ?_
    walk_at "zz"
    refine nmG S ⟨oc, (e1.trans (e2.trans e3)) _ _ hc, hcP⟩ (by kernel_rfl) ?_
    walk_at "zz"
    refine ⟨methAt S hq, ?_⟩
    have e00 : ((("no" : Str)) != ("no" : Str)) = false := by kernel_rfl
    rw [e00]
    have hkw : (kwV r = .none ∧ (Value.bool r.kw) = .bool false) ∨ (kwV r = .bool true ∧ (Value.bool r.kw) = .bool true) := by
      unfold kwV
      cases r.kw
      · exact .inl ⟨rfl, rfl⟩
      · exact .inr ⟨rfl, rfl⟩
    have up2 := S.gp
    refine useD (C := 313) (P := fun _ x dx kvs => AttrK kvs (.str r.na t2) d (.bool (iniB r)) (cvV r) (.bool r.kw) .none) S (c_fca S.inn (by show A.depth + 1 < 700; omega) hh hq (hca.mono up2) hC hd'.handed rfl (by unfold cvV; split <;> rfl) hkw) (fun gq v ⟨x, dx, kvs, od, h1, h2, h3, h4, h5, h6⟩ => ⟨x, dx, kvs, od, h1, h2, h3, h4, h5, h6⟩) fun xa dxa kva s g3 gq e4 hA6 hg3 hxa S => ?_
    have S := S.rot
    refine ⟨g3, _, aO w (as ++ [⟨xa, dxa, kva⟩]), e3.trans e4, ⟨as ++ [⟨xa, dxa, kva⟩], by unfold aV; simp, rfl, ?_⟩, by unfold aO at S ⊢; simpa using S⟩
    rw [take_snoc hr']
    refine (hA.imp fun i a r h => h.mono (e3.trans e4)).snoc ⟨hxa, d, t2, .none, ?_, hA6, .inl ⟨fun f => f, rfl⟩⟩
    rw [take_len hr']
    exact hd'.mono (up2.trans e4)
  · obtain ⟨as, rfl, rfl, hA⟩ := iv
    rw [take_all' lD] at hA
    refine apost S rfl (by kernel_rfl) rfl fun s S => ?_
    obtain ⟨g2, e3, hOA, S⟩ := S.frzL
    have hA := hA.imp fun i a r h => h.mono e3
    have la : as.length ≤ 5 := by rw [hA.1]; exact l5
    have lv : (aV as).length = as.length := by unfold aV; simp
    walk_at "zz"
    refine scomp (cl := []) (closureFor_none (by decide)) rfl (by decide) ?_
    walk_at "zz"
    refine scB (fun Q => it_L hh S hOA) (by decide) rfl (fun C => by kernel_rfl) (by omega) (fun C D3 k its v l' s E' hv S => ?_) (fun D3 s S => ?_)
    · obtain ⟨a, ha, rfl⟩ := aV_get hv
      obtain ⟨r, hr', hxa, d, t1, al, hd', hAK, _⟩ := hA.get' ha
      walk_at "zz"
      refine ga S (S.instM hxa (List.mem_append_left _ (List.mem_cons_of_mem _ (List.mem_cons_of_mem _ (aO_mem ha))))) hAK.name (by k_is) (by k_is) (by k_is) (by k_is) rfl fun s S => ⟨⟨_, _, rfl⟩, _, S⟩
    have S := S.weakO (own' := aO w as) (List.sublist_cons_self ..)
    walk_at "zz"
    refine use S (c_base S.inn (by show A.depth + 1 < 900; omega) hh (S.inst0 hx) hl (hM.mono S.gp)) fun v s g3 e4 hv S => ?_
    obtain ⟨T1, B, bm, rfl, hT1, hB⟩ := hv
    refine asT S hh (hT1.mono S.ge) rfl fun s S => ?_
    walk_at "zz"
    refine nmG S ⟨oc, (e1.trans (e2.trans (e3.trans e4))) _ _ hc, hcP⟩ (by kernel_rfl) ?_
    walk_at "zz"
    have e01 : ((("no" : Str)) == ("force" : Str)) = false := by kernel_rfl
    refine addL S (hB.mono S.ge) ((hOA.mono e4).mono S.ge) (by simp [lv]; omega) fun s AT S => ?_
    obtain ⟨g4, e5, hAT, S⟩ := S.frzL
    rw [List.nil_append] at hAT
    walk_at "zz"
    have hA := hA.imp fun i a r h => h.mono (e4.trans e5)
    have st3 := set313 (w := w)
    refine for_L hh S hAT (fun k g' l' own' => l' = [(("attrs" : Str), .ref AT), ("base_attr_map", bm), ("base_attrs", .ref B), ("own_attrs", .ref D2), ("field_transformer", .none), ("collect_by_mro", .bool false), ("these", .ref D), ("cls", .ref x)] ∧ ∃ as', own' = aO w as' ∧ aV as' = aV as ∧ Ix (fun i a r => AOk w g' a i r (i < k)) as' rows) ⟨rfl, as, rfl, rfl, hA.imp fun i a r h => h.iff ⟨False.elim, fun z => absurd z (Nat.not_lt_zero _)⟩⟩ (fun k v its g5 l' own' s hv e6 iv S => ?_) (fun g5 l' own' s e6 iv S => ?_)
    · obtain ⟨rfl, as', rfl, hV', hA'⟩ := iv
      rw [← hV'] at hv
      obtain ⟨a, ha, rfl⟩ := aV_get hv
      obtain ⟨r, hr', hxa, d, t1, al, hd', hAK, hal⟩ := hA'.get' ha
      obtain ⟨ri, hri⟩ := ok.row r (List.mem_of_getElem? hr')
      obtain ⟨hst1, hst2, hst3⟩ := hri.strip
      have hal : al = .none := by rcases hal with ⟨_, h⟩ | ⟨h, _⟩; exact h; exact absurd h (Nat.lt_irrefl _)
      subst hal
      walk_at "zz"
      refine ga S (S.instM hxa (List.mem_append_left _ (aO_mem ha))) hAK.alias (by k_is) (by k_is) (by k_is) (by k_is) rfl fun s S => ?_
      walk_at "zz"
      refine ga S (S.instM hxa (List.mem_append_left _ (aO_mem ha))) hAK.name (by k_is) (by k_is) (by k_is) (by k_is) rfl fun s S => ?_
      walk_at "zz"
      refine use S (c_alias S.inn (by show A.depth + 1 < 900; omega) hst2) fun v s g6 e7 hv S => ?_
      obtain ⟨t3, rfl⟩ := hv
      rw [hst1]
      walk_at "zz"
      refine saA S ha (e7 _ _ hxa) st3 (by k_is) (Nat.le_trans (hAK.len rfl) (by decide)) fun s S => ?_
      walk_at "zz"
      refine saA (a := { a with kvs := put "alias" (.str r.al t3) a.kvs }) S (set_get ha) (e7 _ _ hxa) st3 (by k_is) (Nat.le_trans (put_len _ _ _) (by have := hAK.len rfl; show a.kvs.length + 1 ≤ 900; omega)) fun s S => ?_
      rw [List.set_set] at S
      walk_at "zz"
      refine ⟨g6, _, _, e7, ⟨rfl, as'.set k ⟨a.x, a.dx, put "alias_is_default" (.bool true) (put "alias" (.str r.al t3) a.kvs)⟩, rfl, ?_, ?_⟩, S.weakL ?_⟩
      · rw [← hV']; exact aV_set ha
      · exact hA'.set hr' ⟨e7 _ _ hxa, d, t1, _, hd'.mono e7, hAK.setAlias (by intro e; cases e), .inr ⟨Nat.lt_succ_self _, t3, rfl⟩⟩ fun i b r' hi h => (h.mono e7).iff ⟨fun z => Nat.lt_succ_of_lt z, fun z => by omega⟩
      · intro p hp
        simp only [List.mem_cons, List.not_mem_nil, or_false] at hp
        rcases hp with rfl | rfl | rfl | rfl | rfl | rfl | rfl | rfl <;> walk_at "lk"
    · obtain ⟨rfl, as2, rfl, hV2, hA2⟩ := iv
      have hA2 : Ix (fun i a r => AOk w g5 a i r True) as2 rows := ⟨hA2.1, fun i a r x y => (hA2.2 i a r x y).iff ⟨fun _ => trivial, fun _ => by rw [lv, hA.1]; exact (List.getElem?_eq_some_iff.mp y).1⟩⟩
      rw [← hV2] at hAT
      clear hA hOA hV2 hV
      have lv2 : (aV as2).length = as2.length := by unfold aV; simp
      have la2 : as2.length ≤ 5 := by rw [hA2.1]; exact l5
      walk_at "zz"
      walk_at "lc"
      walk_at "zz"
      refine lcB (fun Q => it_L hh S (hAT.mono e6)) (by decide) rfl (fun C => by kernel_rfl) (by decide) (by rw [sizeLine_eq]; omega) (fun k ys g own => own = aO w as2 ∧ ∃ idx : List Nat, idx.Pairwise (· < ·) ∧ (∀ j ∈ idx, j < k) ∧ Two (fun v i => ∃ a, as2[i]? = some a ∧ v = .ref a.x) ys idx) ⟨rfl, [], .nil, (by simp), .nil⟩ (fun C D5 k its v ys g6 l' own' s E' hv hyk e7 iv S => ?_) (fun C lC D5 ys g6 own' s e7 iv S => ?_)
      · obtain ⟨rfl, idx, hp, hlt, hT⟩ := iv
        obtain ⟨a, ha, rfl⟩ := aV_get hv
        obtain ⟨r, hr', hxa, d, t1, al, hd', hAK, _⟩ := hA2.get' ha
        refine turn1 ?_
        walk_at "zz"
        refine ga S (S.instM (e7 _ _ hxa) (List.mem_append_left _ (List.mem_cons_of_mem _ (List.mem_cons_of_mem _ (aO_mem ha))))) hAK.init (by k_is) (by k_is) (by k_is) (by k_is) rfl fun s S => ?_
        walk_at "zz"
        cases hin : iniB r with
        | false =>
          walk_at "zz"
          exact ⟨g6, _, _, Ext.rfl', ⟨rfl, idx, hp, fun j hj => Nat.lt_succ_of_lt (hlt j hj), hT⟩, S⟩
        | true =>
          walk_at "zz"
          refine ga S (S.instM (e7 _ _ hxa) (List.mem_append_left _ (List.mem_cons_of_mem _ (List.mem_cons_of_mem _ (aO_mem ha))))) hAK.kw_only (by k_is) (by k_is) (by k_is) (by k_is) rfl fun s S => ?_
          walk_at "zz"
          cases hkw : r.kw with
          | false =>
            walk_at "zz"
            exact ⟨g6, _, _, Ext.rfl', ⟨rfl, idx ++ [k], by
              rw [List.pairwise_append]
              exact ⟨hp, by simp, fun i hi j hj => by simp at hj; subst hj; exact hlt i hi⟩, fun j hj => by
              rcases List.mem_append.mp hj with h | h
              · exact Nat.lt_succ_of_lt (hlt j h)
              · simp at h; omega, hT.snoc ⟨a, ha, rfl⟩⟩, S⟩
          | true =>
            walk_at "zz"
            exact ⟨g6, _, _, Ext.rfl', ⟨rfl, idx, hp, fun j hj => Nat.lt_succ_of_lt (hlt j hj), hT⟩, S⟩
      · obtain ⟨rfl, idx, hp, hlt, hT⟩ := iv
        refine lpost S fun s S => ?_
        obtain ⟨g7, e8, hL5, S⟩ := S.frzL
        have hA2 := hA2.imp fun i a r h => h.mono (e7.trans e8)
        refine for_L hh S hL5 (fun j g own_l own' => own' = aO w as2 ∧ ∃ b, own_l = (("had_default" : Str), .bool b) :: [("attrs", .ref AT), ("base_attr_map", bm), ("base_attrs", .ref B), ("own_attrs", .ref D2), ("field_transformer", .none), ("collect_by_mro", .bool false), ("these", .ref D), ("cls", .ref x)] ∧ (b = true → ∃ j' i r, j' < j ∧ idx[j']? = some i ∧ rows[i]? = some r ∧ r.kd ≠ 0)) ⟨rfl, false, rfl, fun e => by cases e⟩ (fun j v its g8 l' own' s hv e9 iv S => ?_) (fun g8 l' own' s e9 iv S => ?_)
        · obtain ⟨rfl, b, rfl, hb⟩ := iv
          obtain ⟨i, hi, a, ha, rfl⟩ := hT.get' hv
          obtain ⟨r, hr', hxa, d, t1, al, hd', hAK, _⟩ := hA2.get' ha
          have hd' := hd'.mono e9
          have hxa := e9 _ _ hxa
          walk_at "zz"
          cases b with
          | true =>
            obtain ⟨j', i', r', hj, hi', hri, hkd⟩ := hb rfl
            have hk1 : (r.kd == 0) = false := by
              cases h : (r.kd == 0) with
              | false => rfl
              | true => exact absurd (ok.ord i' i r' r (pw_lt hp hi' hi hj) hri hr' (by simpa using h)) hkd
            walk_at "zz"
            refine ga S (S.instM hxa (List.mem_append_left _ (aO_mem ha))) hAK.default (by k_is) (by k_is) (by k_is) (by k_is) hd'.handed fun s S => ?_
            walk_at "zz"
            refine is70 S hd' ?_
            rw [hk1]
            walk_at "zz"
            exact ⟨g8, _, _, Ext.rfl', ⟨rfl, true, rfl, fun _ => ⟨j', i', r', Nat.lt_succ_of_lt hj, hi', hri, hkd⟩⟩, S.weakL (by
              intro p hp
              simp only [List.mem_cons, List.not_mem_nil, or_false] at hp
              rcases hp with rfl | rfl | rfl | rfl | rfl | rfl | rfl | rfl | rfl <;> walk_at "lk")⟩
          | false =>
            walk_at "zz"
            refine ga S (S.instM hxa (List.mem_append_left _ (aO_mem ha))) hAK.default (by k_is) (by k_is) (by k_is) (by k_is) hd'.handed fun s S => ?_
            walk_at "zz"
            refine isNot70 S hd' ?_
            cases hk1 : (r.kd == 0) with
            | true =>
              walk_at "zz"
              exact ⟨g8, _, _, Ext.rfl', ⟨rfl, false, rfl, fun e => by cases e⟩, S.weakL (by
                intro p hp
                simp only [List.mem_cons, List.not_mem_nil, or_false] at hp
                rcases hp with rfl | rfl | rfl | rfl | rfl | rfl | rfl | rfl | rfl <;> walk_at "lk")⟩
            | false =>
              walk_at "zz"
              exact ⟨g8, _, _, Ext.rfl', ⟨rfl, true, rfl, fun _ => ⟨j, i, r, Nat.lt_succ_self _, hi, hr', by simpa using hk1⟩⟩, S.weakL (by
                intro p hp
                simp only [List.mem_cons, List.not_mem_nil, or_false] at hp
                rcases hp with rfl | rfl | rfl | rfl | rfl | rfl | rfl | rfl | rfl <;> walk_at "lk")⟩
        · obtain ⟨rfl, b, rfl, hb⟩ := iv
          have hA2 := hA2.imp fun i a r h => h.mono e9
          walk_at "zz"
          refine for_L hh S (hAT.mono (e6.trans (e7.trans (e8.trans e9)))) (fun k g l own => own = aO w as2 ∧ l = [(("had_default" : Str), .bool b), ("attrs", .ref AT), ("base_attr_map", bm), ("base_attrs", .ref B), ("own_attrs", .ref D2), ("field_transformer", .none), ("collect_by_mro", .bool false), ("these", .ref D), ("cls", .ref x)]) ⟨rfl, rfl⟩ (fun k v its g9 l' own' s hv e10 iv S => ?_) (fun g9 l' own' s e10 iv S => ?_)
          · obtain ⟨rfl, rfl⟩ := iv
            obtain ⟨a, ha, rfl⟩ := aV_get hv
            obtain ⟨r, hr', hxa, d, t1, al, hd', hAK, hal⟩ := hA2.get' ha
            obtain ⟨ri, hri⟩ := ok.row r (List.mem_of_getElem? hr')
            obtain ⟨hst1, hst2, hst3⟩ := hri.strip
            have hal : ∃ t2, al = .str r.al t2 := by rcases hal with ⟨h, _⟩ | ⟨_, h⟩; exact absurd trivial h; exact h
            obtain ⟨t2, rfl⟩ := hal
            walk_at "zz"
            refine ga S (S.instM (e10 _ _ hxa) (List.mem_append_left _ (aO_mem ha))) hAK.alias (by k_is) (by k_is) (by k_is) (by k_is) rfl fun s S => ?_
            refine tS S (by omega) fun s S => ?_
            rw [hst3]
            walk_at "zz"
            exact ⟨g9, _, _, Ext.rfl', ⟨rfl, rfl⟩, S.weakL (by
              intro p hp
              simp only [List.mem_cons, List.not_mem_nil, or_false] at hp
              rcases hp with rfl | rfl | rfl | rfl | rfl | rfl | rfl | rfl | rfl <;> walk_at "lk")⟩
          · obtain ⟨rfl, rfl⟩ := iv
            walk_at "zz"
            refine tupL S ((hAT.mono (e6.trans (e7.trans (e8.trans (e9.trans e10))))).mono S.ge) (by omega) fun s TA g10 e11 hTA S => ?_
            walk_at "zz"
            refine newTf S (Nat.le_of_ble_eq_true rfl) fun s T g11 e12 hT S => ?_
            obtain ⟨g12, e13, hf, S⟩ := S.frzA
            walk_at "zz"
            have hF := aOk_at hA2 (e10.trans (e11.trans (e12.trans e13))) hf
            exact S.fin h fun gq e14 => ⟨T, TA, _, _, aV as2, rfl, hT.mono (e13.trans e14), hTA.mono (e12.trans (e13.trans e14)), hF.imp fun i v r h => h.mono e14⟩
end
section
variable {c : Cx} {g : Heap} {l : List (Str × Value)} {own : Own} {s : Shared} {A : Around} {E : Value → Shared → Prop} {w : World} {gp : Heap} {env : Env}
theorem c_mkcls {D : Nat} {tq : Tok} {kvs : List (Str × Value)} {rows : List Row} (I : In w gp s) (hr : A.depth < 500) (hh : A.handled = none) (hD : IsD w gp D kvs) (hK : Ix (fun i kv r => kv.1 = r.na ∧ CaAt w gp kv.2 i r) kvs rows) (ok : RowsOK rows) :
    Con w A (.ref 410) [.str "Drawn" tq, .ref D] [] gp s fun g r => KindAt w g r rows := by
  intro Q E h
  have hb : IsT gp 404 [] := ⟨0, I.kg _ _ (by kernel_rfl)⟩
  refine enter (binds := [(("name" : Str), .str "Drawn" tq), ("attrs", .ref D), ("bases", .ref 404), ("cmp", .none), ("eq", .none), ("order", .none), ("kw_only", .bool false), ("force_kw_only", .bool true), ("collect_by_mro", .bool false), ("field_transformer", .none)]) I (Nat.lt_trans hr (by decide)) (by k_is) (by k_is) (binds_K (K := hd.heap_39 w.params) I.gl.kin rfl (by k_is) rfl rfl (by kernel_rfl)) (locs (by kernel_rfl)) (fun L s1 S => ?_) (by decide) rfl rfl rfl
  simp only [List.reverse_cons, List.reverse_nil, List.nil_append, List.cons_append] at S
  have st1 := set142 (w := w)
  walk_at "zz"
  refine isi S kitx_dict (show KitAt D "dict" s1.heap from ?_) (b := true) (by kernel_rfl) (by intro e; cases e) fun s S => ?_
  · obtain ⟨⟨o, ho, es, n, rfl, _⟩, _⟩ := hD
    exact ⟨_, S.up _ _ ho, rfl⟩
  walk_at "zz"
  refine use S (c_dao S.inn (by show A.depth + 1 < 900; omega)) fun v s g1 e1 hv S => ?_
  obtain ⟨a1, rfl, ha1⟩ := hv
  refine asT S hh (ha1.mono S.ge) rfl fun s S => ?_
  walk_at "zz"
  refine useD (C := 142) (P := fun gq x dx kvs => ∃ M T : Nat, kvs = [(("name" : Str), .str "Drawn" tq), ("mro", .ref M), ("attrs", .ref T), ("eq_attrs", .none), ("order_attrs", .none)] ∧ IsL gq M [.ref x] ∧ M ≠ dx) S (c_Kind S.inn (by show A.depth + 1 < 800; omega) hh (hb.mono S.gp)) (fun gq v ⟨x, dx, M, T, od, h1, h2, h3, h4, h5, h6⟩ => ⟨x, dx, _, od, h1, h2, h3, h4, h5, M, T, rfl, h6, fun z => by
      obtain ⟨n, h6⟩ := h6
      rw [z, h4] at h6
      cases h6
      obtain ⟨es, n2, r, _⟩ := h5
      exact absurd (congrArg Obj.cls r) (by intro e; injection e with e; exact absurd e (by decide))⟩) fun x dx kvk s g2 gq e2 hP hgq hx S => ?_
  obtain ⟨M, T0, rfl, hM, hMd⟩ := hP
  have hM : IsL g2 M [.ref x] := by obtain ⟨n, h⟩ := hM; exact ⟨n, by rw [hgq M hMd]; exact h⟩
  walk_at "zz"
  refine use S (c_trans S.inn (by show A.depth + 1 < 600; omega) hh (S.instO hx 0 rfl) (by kernel_rfl) hM (hD.mono S.gp) (hK.imp fun i kv r h => ⟨h.1, h.2.mono S.gp⟩) ok) fun v s g3 e3 hv S => ?_
  obtain ⟨T1, TA, v1, v2, avs, rfl, hT1, hTA, hF⟩ := hv
  refine asT S hh (hT1.mono S.ge) rfl fun s S => ?_
  refine assignInOrder_cons (asA ?_)
  walk_at "zz"
  have hx := e3 _ _ hx
  refine sa (i := 0) S (S.ge _ _ hx) rfl st1.1 st1.2.1 (by k_is) st1.2.2 (Nat.le_of_ble_eq_true rfl) fun s S => ?_
  have ek1 : put ("attrs" : Str) (.ref TA) [(("name" : Str), .str "Drawn" tq), ("mro", .ref M), ("attrs", .ref T0), ("eq_attrs", .none), ("order_attrs", .none)] = [(("name" : Str), .str "Drawn" tq), ("mro", .ref M), ("attrs", .ref TA), ("eq_attrs", .none), ("order_attrs", .none)] := by kernel_rfl
  rw [List.set_cons_zero, ek1] at S
  walk_at "zz"
  walk_at "lc"
  walk_at "zz"
  refine ga S (S.instO hx 0 rfl) (v := .ref TA) (by kernel_rfl) (by k_is) (by k_is) (by k_is) (by k_is) rfl fun s S => ?_
  refine lcB (fun Q => it_T hh S hTA) (by decide) rfl (fun C => by kernel_rfl) (by decide) (by rw [sizeLine_eq]; have := hF.1; have := ok.len; omega) (fun k ys g own => ys = avs.take k ∧ own = [(dx, DictO w [(("name" : Str), .str "Drawn" tq), ("mro", .ref M), ("attrs", .ref TA), ("eq_attrs", .none), ("order_attrs", .none)])]) ⟨rfl, rfl⟩ (fun C D5 k its v ys g6 l' own' s E' hv hyk e7 iv S => ?_) (fun C lC D5a ys g6 own' s e4 iv S => ?_)
  · obtain ⟨rfl, rfl⟩ := iv
    obtain ⟨r, hr', xa, kva, d, t1, t2, rfl, hxa, hd', hAK⟩ := hF.get' hv
    refine turn1 ?_
    walk_at "zz"
    refine ga S ((hxa.mono (e7)).mono S.ge) hAK.eq (by k_is) (by k_is) (by k_is) (by k_is) rfl fun s S => ?_
    walk_at "zz"
    exact ⟨g6, _, _, Ext.rfl', ⟨(take_snoc hv).symm, rfl⟩, S⟩
  obtain ⟨rfl, rfl⟩ := iv
  rw [List.take_length] at S
  refine lpost S fun s S => ?_
  obtain ⟨g7, e5, hEQ, S⟩ := S.frzL
  walk_at "zz"
  refine sa (i := 0) S (S.ge _ _ ((e4.trans e5) _ _ hx)) rfl st1.1 st1.2.1 (by k_is) st1.2.2 (Nat.le_of_ble_eq_true rfl) fun s S => ?_
  have ek2 : put ("eq_attrs" : Str) (.ref D5a) [(("name" : Str), .str "Drawn" tq), ("mro", .ref M), ("attrs", .ref TA), ("eq_attrs", .none), ("order_attrs", .none)] = [(("name" : Str), .str "Drawn" tq), ("mro", .ref M), ("attrs", .ref TA), ("eq_attrs", .ref D5a), ("order_attrs", .none)] := by kernel_rfl
  rw [List.set_cons_zero, ek2] at S
  walk_at "zz"
  walk_at "lc"
  walk_at "zz"
  refine ga S (S.instO ((e4.trans e5) _ _ hx) 0 rfl) (v := .ref TA) (by kernel_rfl) (by k_is) (by k_is) (by k_is) (by k_is) rfl fun s S => ?_
  refine lcB (fun Q => it_T hh S (hTA.mono (e4.trans e5))) (by decide) rfl (fun C => by kernel_rfl) (by decide) (by rw [sizeLine_eq]; have := hF.1; have := ok.len; omega) (fun k ys g own => ys = avs.take k ∧ own = [(dx, DictO w [(("name" : Str), .str "Drawn" tq), ("mro", .ref M), ("attrs", .ref TA), ("eq_attrs", .ref D5a), ("order_attrs", .none)])]) ⟨rfl, rfl⟩ (fun C D5 k its v ys g6 l' own' s E' hv hyk e7 iv S => ?_) (fun C lC D5b ys g6 own' s e8 iv S => ?_)
  · obtain ⟨rfl, rfl⟩ := iv
    obtain ⟨r, hr', xa, kva, d, t1, t2, rfl, hxa, hd', hAK⟩ := hF.get' hv
    refine turn1 ?_
    walk_at "zz"
    refine ga S ((hxa.mono ((e4.trans e5).trans e7)).mono S.ge) hAK.order (by k_is) (by k_is) (by k_is) (by k_is) rfl fun s S => ?_
    walk_at "zz"
    exact ⟨g6, _, _, Ext.rfl', ⟨(take_snoc hv).symm, rfl⟩, S⟩
  obtain ⟨rfl, rfl⟩ := iv
  rw [List.take_length] at S
  refine lpost S fun s S => ?_
  obtain ⟨g9, e9, hOR, S⟩ := S.frzL
  walk_at "zz"
  refine sa (i := 0) S (S.ge _ _ (((e4.trans e5).trans (e8.trans e9)) _ _ hx)) rfl st1.1 st1.2.1 (by k_is) st1.2.2 (Nat.le_of_ble_eq_true rfl) fun s S => ?_
  have ek3 : put ("order_attrs" : Str) (.ref D5b) [(("name" : Str), .str "Drawn" tq), ("mro", .ref M), ("attrs", .ref TA), ("eq_attrs", .ref D5a), ("order_attrs", .none)] = [(("name" : Str), .str "Drawn" tq), ("mro", .ref M), ("attrs", .ref TA), ("eq_attrs", .ref D5a), ("order_attrs", .ref D5b)] := by kernel_rfl
  rw [List.set_cons_zero, ek3] at S
  walk_at "zz"
  obtain ⟨g10, o, e10, hdx, hDO, S⟩ := S.frz1
  have up := (e4.trans e5).trans ((e8.trans e9).trans e10)
  exact S.fin h fun gq e' => ⟨x, M, TA, D5a, D5b, _, avs, rfl, ⟨dx, o, e' _ _ (up _ _ hx), e' _ _ hdx, hDO⟩, hM.mono (e3.trans (up.trans e')), hTA.mono (up.trans e'), hEQ.mono ((e8.trans e9).trans (e10.trans e')), hF.imp fun i v r h => h.mono (up.trans e')⟩
end
def Kn (rows : List Row) (x : Str) : Prop := ∃ r ∈ rows, r.kd ≠ 3 ∧ r.al = x
theorem lookup_nil_of {x : Str} : ∀ {kvs : List (Str × Value)}, x ∉ kvs.map (·.1) → kvs.lookup x = none
  | [], _ => rfl
  | (y, v) :: r, h => by
    simp only [List.map_cons, List.mem_cons, not_or] at h
    have : (x == y) = false := by simpa using h.1
    rw [List.lookup_cons, this]; exact lookup_nil_of h.2
theorem known_of {rows : List Row} {x : Str} : x ∈ (rows.filter iniB).map (·.al) ↔ Kn rows x := by
  unfold Kn
  simp only [List.mem_map, List.mem_filter, iniB, decide_eq_true_eq]
  constructor
  · rintro ⟨r, ⟨h1, h2⟩, h3⟩; exact ⟨r, h1, h2, h3⟩
  · rintro ⟨r, h1, h2, h3⟩; exact ⟨r, ⟨h1, h2⟩, h3⟩
section
variable {c : Cx} {g : Heap} {l : List (Str × Value)} {own : Own} {s : Shared} {A : Around} {E : Value → Shared → Prop} {w : World} {gp : Heap} {env : Env} {outer : List Env}
def HV (kvs : List (Str × Value)) (i : Nat) (r : Row) (v : Value) : Prop := kvs.lookup r.al = some v ∨ kvs.lookup r.al = none ∧ ((r.kd = 1 ∧ ∃ t, v = .int (50 + i) t) ∨ (r.kd = 2 ∧ v = .ref 70))
structure HK (kvs : List (Str × Value)) (rows : List Row) (k : Nat) (hk : List (Str × Value)) : Prop where
  up : ∀ x v, kvs.lookup x = some v → hk.lookup x = some v
  row : ∀ i r, i < k → rows[i]? = some r → r.kd ≠ 3 → ∃ v, hk.lookup r.al = some v ∧ HV kvs i r v
  no : ∀ x, kvs.lookup x = none → (∀ i r, i < k → rows[i]? = some r → r.al ≠ x) → hk.lookup x = none
  len : hk.length ≤ 100 + k
theorem HK.zero {kvs : List (Str × Value)} {rows : List Row} (h : kvs.length ≤ 100) : HK kvs rows 0 kvs := ⟨fun _ _ h => h, fun i r h => absurd h (Nat.not_lt_zero _), fun x h _ => h, h⟩
theorem HK.skip {kvs hk : List (Str × Value)} {rows : List Row} {k : Nat} {r : Row} (H : HK kvs rows k hk) (hr : rows[k]? = some r) (h3 : r.kd ≠ 3 → ∃ v, kvs.lookup r.al = some v) : HK kvs rows (k + 1) hk := by
  refine ⟨H.up, fun i r' hi hr' hd => ?_, fun x h1 h2 => H.no x h1 fun i r' hi => h2 i r' (by omega), by have := H.len; omega⟩
  rcases Nat.lt_or_eq_of_le (Nat.le_of_lt_succ hi) with hi | rfl
  · exact H.row i r' hi hr' hd
  · rw [hr] at hr'; cases hr'
    obtain ⟨v, hv⟩ := h3 hd
    exact ⟨v, H.up _ _ hv, .inl hv⟩
theorem HK.put {kvs hk : List (Str × Value)} {rows : List Row} {k : Nat} {r : Row} {v : Value} (H : HK kvs rows k hk) (ok : RowsOK rows) (hr : rows[k]? = some r) (hn : kvs.lookup r.al = none) (hv : HV kvs k r v) : HK kvs rows (k + 1) (Mine.put r.al v hk) := by
  have ne : ∀ (i : Nat) (r' : Row), i < k → rows[i]? = some r' → r'.al ≠ r.al := fun i r' hi hr' e => by
    have h1 : (rows.map (·.al))[i]? = some r.al := by rw [List.getElem?_map, hr', ← e]; rfl
    have h2 : (rows.map (·.al))[k]? = some r.al := by rw [List.getElem?_map, hr]; rfl
    have := nodup_idx ok.al h1 h2
    omega
  refine ⟨fun x u h => ?_, fun i r' hi hr' hd => ?_, fun x h1 h2 => ?_, by have := H.len; have := put_len r.al v hk; omega⟩
  · rw [lookup_put]
    split
    · rename_i e; subst e; rw [hn] at h; cases h
    · exact H.up x u h
  · rcases Nat.lt_or_eq_of_le (Nat.le_of_lt_succ hi) with hi | rfl
    · obtain ⟨u, h1, h2⟩ := H.row i r' hi hr' hd
      exact ⟨u, by rw [lookup_put, if_neg (ne i r' hi hr')]; exact h1, h2⟩
    · rw [hr] at hr'; cases hr'
      exact ⟨v, by rw [lookup_put, if_pos rfl], hv⟩
  · rw [lookup_put, if_neg (fun e => h2 k r (Nat.lt_succ_self _) hr e.symm)]
    exact H.no x h1 fun i r' hi => h2 i r' (by omega)
theorem c_handed {sb : Shared} {T B D : Nat} {avs : List Value} {kvs : List (Str × Value)} {rows : List Row} (I : In w gp sb) (hr : A.depth < 900) (hh : A.handled = none) (O : Out A gp sb.heap outer) (hT : IsT gp T avs) (hF : Ix (fun i v r => AtAt w gp v i r) avs rows) (ok : RowsOK rows) (hB : IsT gp B []) (hD : IsD w gp D kvs) (hn : kvs.length ≤ 100) (hrep : ∀ kv ∈ kvs, (reprText kv.1).length ≤ 1000)
    (hreq : ∀ r ∈ rows, r.kd = 0 → (kvs.lookup r.al).isSome = true) :
    ConX w A (.ref 156) [.ref T, .ref B, .ref D] [] gp sb outer (fun g v => ∃ (H : Nat) (hk : List (Str × Value)), v = .ref H ∧ IsD w g H hk ∧ (∀ kv ∈ kvs, Kn rows kv.1) ∧ ∀ i r, rows[i]? = some r → r.kd ≠ 3 → ∃ v, hk.lookup r.al = some v ∧ HV kvs i r v) (∃ kv ∈ kvs, ¬ Kn rows kv.1) := by
  intro Q E h hE
  refine enterX (binds := [(("attrs" : Str), .ref T), ("args", .ref B), ("kwargs", .ref D)]) I (Nat.lt_trans hr (by decide)) (by k_is) (by k_is) (.of_eq (by kernel_rfl)) (locs (by kernel_rfl)) (fun L s1 S => ?_) (by decide) rfl rfl rfl
  simp only [List.reverse_cons, List.reverse_nil, List.nil_append, List.cons_append] at S
  walk_at "zz"
  refine lcompA (cl := []) (by kernel_rfl) (closureFor_none (by decide)) rfl (by decide) ?_
  walk_at "zz"
  have l5 : avs.length ≤ 5 := by rw [hF.1]; exact ok.len
  refine lcB (fun Q => it_T hh S hT) (by decide) rfl (fun C => by kernel_rfl) (by decide) (by rw [sizeLine_eq]; omega) (fun k ys g own => own = [] ∧ ys.length ≤ k) ⟨rfl, Nat.zero_le _⟩ (fun C D5 k its v ys g6 l' own' s E' hv hyk e7 iv S => ?_) (fun C lC D5 ys g6 own' s e4 iv S => ?_)
  · obtain ⟨rfl, hyl⟩ := iv
    obtain ⟨r, hr', xa, kva, d, t1, t2, rfl, hxa, hd', hAK⟩ := hF.get' hv
    refine turn1 ?_
    walk_at "zz"
    refine ga S ((hxa.mono e7).mono S.ge) hAK.init (by k_is) (by k_is) (by k_is) (by k_is) rfl fun s S => ?_
    walk_at "zz"
    cases hin : iniB r with
    | false =>
      walk_at "zz"
      exact ⟨g6, _, _, Ext.rfl', ⟨rfl, Nat.le_succ_of_le hyl⟩, S⟩
    | true =>
      walk_at "zz"
      refine ga S ((hxa.mono e7).mono S.ge) hAK.kw_only (by k_is) (by k_is) (by k_is) (by k_is) rfl fun s S => ?_
      walk_at "zz"
      cases hkw : r.kw with
      | true =>
        walk_at "zz"
        exact ⟨g6, _, _, Ext.rfl', ⟨rfl, Nat.le_succ_of_le hyl⟩, S⟩
      | false =>
        walk_at "zz"
        exact ⟨g6, _, _, Ext.rfl', ⟨rfl, by simp only [List.length_append, List.length_cons, List.length_nil]; omega⟩, S⟩
  obtain ⟨rfl, hyl⟩ := iv
  refine apost S rfl (by kernel_rfl) rfl fun s S => ?_
  obtain ⟨g7, e5, hPL, S⟩ := S.frzL
  walk_at "zz"
  refine lenT S (hB.mono S.up) (Nat.le_of_ble_eq_true rfl) fun s t S => ?_
  walk_at "zz"
  refine lenL S (hPL.mono S.ge) (by omega) fun s t S => ?_
  walk_at "zz"
  refine dcompA0 S (cl := []) (by kernel_rfl) (closureFor_none (by decide)) rfl (by decide) (by decide) rfl (by kernel_rfl) rfl ?_
  walk_at "zz"
  refine newZip0 hh S hPL (hB.mono S.gp) fun I fp wr Md St its s TK a S st => ⟨I, fp, wr, _, Md, St, its, _, _, _, rfl, TK _ _ _, a, S, st, fun H s S => ?_⟩
  walk_at "zz"
  refine lcompA (cl := []) (by kernel_rfl) (closureFor_none (by decide)) rfl (by decide) ?_
  walk_at "zz"
  have hT1 := (hT.mono S.gp)
  refine lcB (fun Q => it_T hh S hT1) (by decide) rfl (fun C => by kernel_rfl) (by decide) (by rw [sizeLine_eq]; omega) (fun k ys g own => own = [(H, DictO w [])] ∧ Two (fun v y => ∃ u, v = .str y u) ys (((rows.take k).filter iniB).map (·.al))) ⟨rfl, .nil⟩ (fun C D5 k its v ys g6 l' own' s E' hv hyk e7 iv S => ?_) (fun C lC D6 ys6 g6 own' s e9 iv S => ?_)
  · obtain ⟨rfl, hyl⟩ := iv
    obtain ⟨r, hr', xa, kva, d, t1, t2, rfl, hxa, hd', hAK⟩ := hF.get' hv
    refine turn1 ?_
    walk_at "zz"
    refine ga S (((hxa.mono (e4.trans e5)).mono e7).mono S.ge) hAK.init (by k_is) (by k_is) (by k_is) (by k_is) rfl fun s S => ?_
    walk_at "zz"
    cases hin : iniB r with
    | false =>
      walk_at "zz"
      refine ⟨g6, _, _, Ext.rfl', ⟨rfl, ?_⟩, S⟩
      rw [take_snoc hr', List.filter_append]; simp [hin]; exact hyl
    | true =>
      walk_at "zz"
      refine ga S (((hxa.mono (e4.trans e5)).mono e7).mono S.ge) hAK.alias (by k_is) (by k_is) (by k_is) (by k_is) rfl fun s S => ?_
      refine ⟨g6, _, _, Ext.rfl', ⟨rfl, ?_⟩, S⟩
      rw [take_snoc hr', List.filter_append, List.map_append]
      have : (([r].filter iniB).map (·.al)) = [r.al] := by simp [hin]
      rw [this]
      exact hyl.snoc ⟨_, rfl⟩
  obtain ⟨rfl, hyl⟩ := iv
  rw [hF.1, List.take_length] at hyl
  refine apost S rfl (by kernel_rfl) rfl fun s S => ?_
  obtain ⟨g8, e8, hNL, S⟩ := S.frzL
  walk_at "zz"
  have hnd : (kvs.map (·.1)).Nodup := by obtain ⟨⟨_, _, _, _, _, _, z⟩, _⟩ := hD; exact z
  have up8 : Ext gp g8 := S.gp
  refine mD ((hD.mono up8).mono S.ge) PySem.F.slot_dict_items (by rfl) ?_
  walk_at "zz"
  refine dItems S ((hD.mono up8).mono S.ge) fun V s g10 e10 hV S => ?_
  have leaveE : ∀ (env' : Env) e s', env'.scope.kind ≠ .module → env'.frame = some L → (∃ kv ∈ kvs, ¬ Kn rows kv.1) → Flyg w ⟨_, gp, L⟩ outer e s' → wpAny (MD w) (A.deeper env') (leaving env' (.ref e)) (fun _ s'' => E (.ref e) s'') (fun e' s'' => E e' s'') s' := fun env' e s' h1 h2 b F => leave F O h1 h2 fun s'' t => hE e s'' b t
  refine for_V hh S hV (hD.mono (up8.trans e10)) (fun k g' l' own' => l' = [(("names" : Str), .ref D6), ("handed", .ref H), ("places", .ref D5), ("kwargs", .ref D), ("args", .ref B), ("attrs", .ref T)] ∧ own' = [(H, DictO w (kvs.take k))] ∧ ∀ kv ∈ kvs.take k, Kn rows kv.1) ⟨rfl, rfl, by simp⟩ (fun k na v tq its g' l' own' s hv e iv S => ?_) (fun g' l' own' s e iv S => ?_)
  · obtain ⟨rfl, rfl, hkn⟩ := iv
    have hmem : (na, v) ∈ kvs := List.mem_of_getElem? hv
    have hnew : na ∉ (kvs.take k).map (·.1) := by
      intro z
      obtain ⟨p, hp, hq⟩ := List.mem_map.mp z
      obtain ⟨j, hj⟩ := List.getElem?_of_mem hp
      rw [List.getElem?_take] at hj
      split at hj
      · rename_i hjk
        have h1 : (kvs.map (·.1))[j]? = some na := by rw [List.getElem?_map, hj, ← hq]; rfl
        have h2 : (kvs.map (·.1))[k]? = some na := by rw [List.getElem?_map, hv]; rfl
        have := nodup_idx hnd h1 h2
        omega
      · cases hj
    have hlk : (kvs.take k).lookup na = none := lookup_nil_of hnew
    walk_at "zz"
    refine dIn S (S.isD 0 rfl) fun s S => ?_
    rw [hlk]
    walk_at "zz"
    refine nInL S (((hNL.mono e10).mono e).mono S.ge) hyl ?_
    by_cases hx : na ∈ (rows.filter iniB).map (·.al)
    · rw [decide_eq_true hx]
      walk_at "zz"
      refine dSet (i := 0) S rfl (by rw [List.length_take, sizeLine_eq]; omega) fun s S => ?_
      walk_at "zz"
      rw [put_new _ _ _ hnew, ← take_snoc hv] at S
      refine ⟨g', _, _, Ext.rfl', ⟨rfl, rfl, fun kv hkv => ?_⟩, S.weakL fun p hp => ?_⟩
      · rw [take_snoc hv] at hkv
        rcases List.mem_append.mp hkv with hkv | hkv
        · exact hkn kv hkv
        · rw [List.mem_singleton.mp hkv]; exact known_of.mp hx
      · simp only [List.mem_cons, List.not_mem_nil, or_false] at hp
        rcases hp with rfl | rfl | rfl | rfl | rfl | rfl <;> walk_at "lk"
    · rw [decide_eq_false hx]
      walk_at "zz"
      refine fRepr (t := tq) S (hrep _ hmem) (by decide) (by decide) (fun s1 Q1 S1 k1 => ?_) fun s y u S => ?_
      · exact nm S1 (by walk_at "lk") (k1 _ S1)
      walk_at "zz"
      refine raiseT hh (fun Q' q => nmB S (by k_is) (by boot_fast) q) ?_
      refine nm S (by walk_at "lk") ⟨_, _, _, _, S, fun e s' S' => ?_⟩
      refine forE_of (.fresh (c0 := ⟨_, gp, L⟩) .rfl' S') O (by intro z; cases z) rfl fun s'' F => leaveE _ e s'' (by intro z; cases z) rfl ⟨(na, v), hmem, fun z => hx (known_of.mpr z)⟩ F
  obtain ⟨rfl, rfl, hkn⟩ := iv
  rw [List.take_length] at S hkn
  walk_at "zz"
  have hT2 := hT.mono S.gp
  have upg : Ext gp g' := S.gp
  refine for_T hh S hT2 (fun k g' l' own' => l' = [(("names" : Str), .ref D6), ("handed", .ref H), ("places", .ref D5), ("kwargs", .ref D), ("args", .ref B), ("attrs", .ref T)] ∧ ∃ hk, own' = [(H, DictO w hk)] ∧ HK kvs rows k hk) ⟨rfl, _, rfl, .zero hn⟩ (fun k v its g2 l' own' s hv e2 iv S => ?_) (fun g2 l' own' s e2 iv S => ?_)
  · obtain ⟨rfl, hk, rfl, hHK⟩ := iv
    obtain ⟨r, hr', xa, kva, d, t1, t2, rfl, hxa, hd', hAK⟩ := hF.get' hv
    have hxa := (hxa.mono upg).mono e2
    have hd' := (hd'.mono upg).mono e2
    have back : ∀ {s : Shared} {v : Value} {hk : List (Str × Value)}, Sp w ⟨sb, gp, L⟩ g2 ((("a" : Str), v) :: [(("names" : Str), .ref D6), ("handed", .ref H), ("places", .ref D5), ("kwargs", .ref D), ("args", .ref B), ("attrs", .ref T)]) ([(H, DictO w hk)] ++ itO its) s → HK kvs rows (k + 1) hk → ∃ g'' l'' own'', Ext g2 g'' ∧ (l'' = [(("names" : Str), .ref D6), ("handed", .ref H), ("places", .ref D5), ("kwargs", .ref D), ("args", .ref B), ("attrs", .ref T)] ∧ ∃ hk, own'' = [(H, DictO w hk)] ∧ HK kvs rows (k + 1) hk) ∧ Sp w ⟨sb, gp, L⟩ g'' l'' (own'' ++ itO its) s := by
      intro s v hk S h1
      refine ⟨g2, _, _, Ext.rfl', ⟨rfl, hk, rfl, h1⟩, S.weakL fun p hp => ?_⟩
      simp only [List.mem_cons, List.not_mem_nil, or_false] at hp
      rcases hp with rfl | rfl | rfl | rfl | rfl | rfl <;> walk_at "lk"
    walk_at "zz"
    refine ga S (hxa.mono S.ge) hAK.init (by k_is) (by k_is) (by k_is) (by k_is) rfl fun s S => ?_
    walk_at "zz"
    cases hin : iniB r with
    | false =>
      walk_at "zz"
      exact back S (hHK.skip hr' fun z => by unfold iniB at hin; rw [decide_eq_true z] at hin; cases hin)
    | true =>
      have hk3 : r.kd ≠ 3 := by unfold iniB at hin; exact of_decide_eq_true hin
      walk_at "zz"
      refine ga S (hxa.mono S.ge) hAK.alias (by k_is) (by k_is) (by k_is) (by k_is) rfl fun s S => ?_
      walk_at "zz"
      refine dNin S (S.isD 0 rfl) fun s S => ?_
      cases hq : kvs.lookup r.al with
      | some u =>
        rw [hHK.up _ _ hq]
        walk_at "zz"
        exact back S (hHK.skip hr' fun z => ⟨u, hq⟩)
      | none =>
        have hno : hk.lookup r.al = none := hHK.no _ hq fun i r' hi hr2 e => by
          have h1 : (rows.map (·.al))[i]? = some r.al := by rw [List.getElem?_map, hr2, ← e]; rfl
          have h2 : (rows.map (·.al))[k]? = some r.al := by rw [List.getElem?_map, hr']; rfl
          have := nodup_idx ok.al h1 h2
          omega
        rw [hno]
        walk_at "zz"
        refine ga S (hxa.mono S.ge) hAK.default (by k_is) (by k_is) (by k_is) (by k_is) hd'.handed fun s S => ?_
        walk_at "zz"
        have hk0 : r.kd ≠ 0 := fun z => by have := hreq r (List.mem_of_getElem? hr') z; rw [hq] at this; cases this
        refine is70 S hd' ?_
        rw [show (r.kd == 0) = false by simpa using hk0]
        walk_at "zz"
        refine ga S (hxa.mono S.ge) hAK.default (by k_is) (by k_is) (by k_is) (by k_is) hd'.handed fun s S => ?_
        walk_at "zz"
        rcases hd' with ⟨z, _⟩ | ⟨z, F, f, kvF, tq, rfl, h2, h3, h4, h5⟩ | ⟨z, tq, rfl⟩
        · exact absurd z hk0
        · refine isiX S (h2.mono S.ge) (by k_is) (by k_is) (by k_is) (by k_is) (by k_is) (by k_is) (b := true) (by kernel_rfl) fun s S => ?_
          walk_at "zz"
          refine ga S (hxa.mono S.ge) hAK.alias (by k_is) (by k_is) (by k_is) (by k_is) rfl fun s S => ?_
          refine dSet (i := 0) S rfl (by rw [sizeLine_eq]; have := hHK.len; have := (List.getElem?_eq_some_iff.mp hv).1; omega) fun s S => ?_
          walk_at "zz"
          exact back S (hHK.put ok hr' hq (.inr ⟨hq, .inr ⟨z, rfl⟩⟩))
        · refine isi S kitx_int trivial (b := false) (by kernel_rfl) (by intro e; cases e) fun s S => ?_
          walk_at "zz"
          refine ga S (hxa.mono S.ge) hAK.default (by k_is) (by k_is) (by k_is) (by k_is) rfl fun s S => ?_
          walk_at "zz"
          refine ga S (hxa.mono S.ge) hAK.alias (by k_is) (by k_is) (by k_is) (by k_is) rfl fun s S => ?_
          refine dSet (i := 0) S rfl (by rw [sizeLine_eq]; have := hHK.len; have := (List.getElem?_eq_some_iff.mp hv).1; omega) fun s S => ?_
          walk_at "zz"
          refine back S (hHK.put ok hr' hq (.inr ⟨hq, .inl ⟨z.resolve_right hk3, tq, rfl⟩⟩))
  obtain ⟨rfl, hk, rfl, hHK⟩ := iv
  walk_at "zz"
  obtain ⟨g9, e9, hH, S⟩ := S.frzD
  refine S.fin h fun gq e' => ⟨H, hk, rfl, hH.mono e', fun kv hkv => hkn kv hkv, fun i r hr' h3 => hHK.row i r (by rw [hF.1]; exact (List.getElem?_eq_some_iff.mp hr').1) hr' h3⟩
end
section
variable {c : Cx} {g : Heap} {l : List (Str × Value)} {own : Own} {s : Shared} {A : Around} {E : Value → Shared → Prop} {w : World} {gp : Heap} {env : Env} {outer : List Env}
theorem at500 {h : Heap} (X : (K w).In h) : KitAt 500 "function" h := by
  have e : ((K w).lookup 500).map (·.cls) = some (.type "function") := by kernel_rfl
  cases q : (K w).lookup 500 with
  | none => rw [q] at e; cases e
  | some o => rw [q] at e; exact ⟨o, X _ _ q, Option.some.inj e⟩
theorem c_kcall {sb : Shared} {x : Nat} {kvs : List (Str × Value)} {rows : List Row} {f : Str → Option Sv} (I : In w gp sb) (hr : A.depth < 700) (hh : A.handled = none) (O : Out A gp sb.heap outer) (hK : KindAt w gp (.ref x) rows) (ok : RowsOK rows) (hkw : KwOk gp kvs f)
    (hreq : ∀ r ∈ rows, r.kd = 0 → (kvs.lookup r.al).isSome = true) :
    ConX w A (.ref x) [] kvs gp sb outer (fun g r => ∃ m : Nat, r = .ref m ∧ (∀ kv ∈ kvs, Kn rows kv.1) ∧ MadeAt w g m x rows (rowV f)) (∃ kv ∈ kvs, ¬ Kn rows kv.1) := by
  intro Q E h hE
  obtain ⟨x', M, TA, EQ, OR, n, avs, hx', hxi, hM, hTA, hEQ, hF⟩ := hK
  cases hx'
  obtain ⟨dx, od, hx, hdx, hDO⟩ := id hxi
  refine callI I hx hdx (by k_is) (by k_is) (by k_is) ?_
  refine enterSc I (Nat.lt_trans hr (by decide)) (by k_is) (by k_is) rfl rfl rfl rfl (by kernel_rfl) (fun kv hkv => ?_) (Nat.le_trans hkw.len (by decide)) hkw.nd (Nat.le_of_ble_eq_true rfl) (fun T D => locs (by kernel_rfl)) (fun L T D s1 S => ?_) (by decide) rfl rfl rfl
  · have := hkw.ns kv hkv
    show List.elem kv.1 [("self" : Str)] = false
    simp only [List.elem_cons, List.elem_nil, this, Bool.or_false]
  have S : Sp w ⟨sb, gp, L⟩ gp _ [(D, DictO w kvs), (T, TupP [])] s1 := S
  have S := S.weakL (l' := [(("kwargs" : Str), .ref D), ("args", .ref T), ("self", .ref x)]) (fun p hp => by
    simp only [List.mem_cons, List.not_mem_nil, or_false] at hp
    rcases hp with rfl | rfl | rfl <;> kernel_rfl)
  obtain ⟨g1, e1, hD, S⟩ := S.frzD
  obtain ⟨g2, e2, hT, S⟩ := S.frzT
  have hD := hD.mono e2
  have e12 := e1.trans e2
  walk_at "zz"
  refine ga S ((hxi.mono e12).mono S.ge) (v := .ref TA) (by kernel_rfl) (by k_is) (by k_is) (by k_is) (by k_is) rfl fun s S => ?_
  walk_at "zz"
  have leaveE : ∀ (env' : Env) e s', env'.scope.kind ≠ .module → env'.frame = some L → (∃ kv ∈ kvs, ¬ Kn rows kv.1) → Flyg w ⟨sb, gp, L⟩ outer e s' → wpAny (MD w) (A.deeper env') (leaving env' (.ref e)) (fun _ s'' => E (.ref e) s'') (fun e' s'' => E e' s'') s' := fun env' e s' h1 h2 b F => leave F O h1 h2 fun s'' t => hE e s'' b t
  refine useX S (c_handed S.inn (by show A.depth + 1 < 900; omega) hh (S.out O (by intro z; cases z) rfl) (hTA.mono e12) (hF.imp fun i v r h => h.mono e12) ok hT hD (Nat.le_trans hkw.len (by decide)) hkw.rep hreq) O rfl (fun e s' b F => leaveE _ e s' (by intro z; cases z) rfl b F) fun v s g3 e3 hv S => ?_
  obtain ⟨H, hk, rfl, hH, hkn, hHV⟩ := hv
  walk_at "zz"
  refine useH S (c_Made S.inn (by show A.depth + 1 < 800; omega)) (fun gq v ⟨m, D2, od, h1, h2, h3, h4, h5⟩ => ⟨m, D2, od, h1, h2, h3, h4, h5⟩) fun m D2 s g4 e4 hm S => ?_
  walk_at "zz"
  have e14 := e12.trans (e3.trans e4)
  refine ga S ((hxi.mono e14).mono S.ge) (v := .ref TA) (by kernel_rfl) (by k_is) (by k_is) (by k_is) (by k_is) rfl fun s S => ?_
  have l5 : avs.length ≤ 5 := by rw [hF.1]; exact ok.len
  refine for_T hh S (hTA.mono e14) (fun k g' l' own' => l' = [(("inst" : Str), .ref m), ("handed", .ref H), ("kwargs", .ref D), ("args", .ref T), ("self", .ref x)] ∧ ∃ hkv, own' = [(D2, DictO w hkv)] ∧ Ix (fun i kv r => kv.1 = r.na ∧ SvAt g' kv.2 (rowV f i r)) hkv (rows.take k)) ⟨rfl, [], rfl, .nil⟩ (fun k v its g5 l' own' s hv e5 iv S => ?_) (fun g5 l' own' s e5 iv S => ?_)
  · obtain ⟨rfl, hkv, rfl, hIx⟩ := iv
    obtain ⟨r, hr', xa, kva, d, t1, t2, rfl, hxa, hd', hAK⟩ := hF.get' hv
    have e15 := e14.trans e5
    have hxa := hxa.mono e15
    have hd' := hd'.mono e15
    have hm5 := hm.mono e5
    have hH5 := hH.mono (e4.trans e5)
    have hkl : hkv.length ≤ 5 := by rw [hIx.1, List.length_take]; have := ok.len; omega
    refine sq (wpAny_mono (Q := fun fl s' => fl = .next ∧ Sp w ⟨sb, gp, L⟩ g5 ((("a" : Str), .ref xa) :: [(("inst" : Str), .ref m), ("handed", .ref H), ("kwargs", .ref D), ("args", .ref T), ("self", .ref x)]) ([(D2, DictO w hkv)] ++ itO its) s') ?_ (fun fl s' hm1 => ?_) fun _ _ e => e)
    · walk_at "zz"
      refine ga S (hxa.mono S.ge) hAK.init (by k_is) (by k_is) (by k_is) (by k_is) rfl fun s S => ?_
      walk_at "zz"
      cases hin : iniB r with
      | true =>
        walk_at "zz"
        exact ⟨rfl, S⟩
      | false =>
        walk_at "zz"
        refine ga S (hxa.mono S.ge) hAK.default (by k_is) (by k_is) (by k_is) (by k_is) hd'.handed fun s S => ?_
        walk_at "zz"
        refine is70 S hd' ?_
        have hk3 : r.kd = 3 := by unfold iniB at hin; simpa using hin
        rw [show (r.kd == 0) = false by rw [hk3]; rfl]
        walk_at "zz"
        exact ⟨rfl, S⟩
    obtain ⟨rfl, S⟩ := hm1
    refine sq_next ?_
    refine sq (wpAny_mono (Q := fun fl s' => fl = .next ∧ ∃ v, Sp w ⟨sb, gp, L⟩ g5 ((("value" : Str), v) :: ("a", .ref xa) :: [(("inst" : Str), .ref m), ("handed", .ref H), ("kwargs", .ref D), ("args", .ref T), ("self", .ref x)]) ([(D2, DictO w hkv)] ++ itO its) s' ∧ (SvAt g5 v (baseV f k r) ∨ (v = .ref 70 ∧ ((r.kd = 2 ∧ f r.al = none) ∨ r.kd = 3)))) ?_ (fun fl s' hm1 => ?_) fun _ _ e => e)
    · walk_at "zz"
      refine ga S (hxa.mono S.ge) hAK.init (by k_is) (by k_is) (by k_is) (by k_is) rfl fun s S => ?_
      walk_at "zz"
      cases hin : iniB r with
      | true =>
        have hk3 : r.kd ≠ 3 := by unfold iniB at hin; exact of_decide_eq_true hin
        obtain ⟨v, hv1, hv2⟩ := hHV k r hr' hk3
        walk_at "zz"
        refine ga S (hxa.mono S.ge) hAK.alias (by k_is) (by k_is) (by k_is) (by k_is) rfl fun s S => ?_
        refine stD S (hH5.mono S.ge).1 hv1 fun s S => ?_
        walk_at "zz"
        refine ⟨rfl, v, S, ?_⟩
        unfold baseV
        rw [if_neg hk3]
        rcases hv2 with hv2 | ⟨hn2, ⟨hk1, tq, rfl⟩ | ⟨hk2, rfl⟩⟩
        · obtain ⟨sv, h1, h2⟩ := hkw.val _ _ hv2
          rw [h1]
          exact .inl (h2.mono e15)
        · rw [hkw.none _ hn2, hk1]
          exact .inl ⟨tq, rfl⟩
        · exact .inr ⟨rfl, .inl ⟨hk2, hkw.none _ hn2⟩⟩
      | false =>
        have hk3 : r.kd = 3 := by unfold iniB at hin; simpa using hin
        walk_at "zz"
        exact ⟨rfl, _, S, .inr ⟨rfl, .inr hk3⟩⟩
    obtain ⟨rfl, v, S, hvv⟩ := hm1
    refine sq_next ?_
    refine sq (wpAny_mono (Q := fun fl s' => fl = .next ∧ ∃ v g6, Ext g5 g6 ∧ Sp w ⟨sb, gp, L⟩ g6 ((("value" : Str), v) :: ("a", .ref xa) :: [(("inst" : Str), .ref m), ("handed", .ref H), ("kwargs", .ref D), ("args", .ref T), ("self", .ref x)]) ([(D2, DictO w hkv)] ++ itO its) s' ∧ SvAt g6 v (baseV f k r)) ?_ (fun fl s' hm1 => ?_) fun _ _ e => e)
    · walk_at "zz"
      rcases hvv with hvv | ⟨rfl, hvv⟩
      · refine is70v S hvv ?_
        walk_at "zz"
        refine is70v S hvv ?_
        walk_at "zz"
        exact ⟨rfl, _, g5, Ext.rfl', S, hvv⟩
      · walk_at "zz"
        refine ga S (hxa.mono S.ge) hAK.default (by k_is) (by k_is) (by k_is) (by k_is) hd'.handed fun s S => ?_
        walk_at "zz"
        have hdh := hd'.handed
        rcases hd' with ⟨z, _⟩ | ⟨z, F, ff, kvF, tq, rfl, h2, h3, h4, h5⟩ | ⟨z, tq, rfl⟩
        · rcases hvv with ⟨q, _⟩ | q <;> rw [z] at q <;> cases q
        · have hfn : f r.al = none := by
            rcases hvv with ⟨_, q⟩ | q
            · exact q
            · rw [z] at q; cases q
          refine isiX S (h2.mono S.ge) (by k_is) (by k_is) (by k_is) (by k_is) (by k_is) (by k_is) (b := true) (by kernel_rfl) fun s S => ?_
          walk_at "zz"
          refine ga S (hxa.mono S.ge) hAK.default (by k_is) (by k_is) (by k_is) (by k_is) hdh fun s S => ?_
          refine ga S (h2.mono S.ge) h4 (by k_is) (by k_is) (by k_is) (by k_is) rfl fun s S => ?_
          walk_at "zz"
          refine ga S (hxa.mono S.ge) hAK.default (by k_is) (by k_is) (by k_is) (by k_is) hdh fun s S => ?_
          refine mOwn S (h2.mono S.ge) h3 (by k_is) (by k_is) (by k_is) (by k_is) rfl fun s S => ?_
          obtain ⟨of, fd, hof, hfd⟩ := h5.1
          refine cwF0 S hof hfd ?_
          refine use S (h5.2 Ext.rfl' S.inn (by show A.depth + 1 < 950; omega)) fun v s g6 e6 hv S => ?_
          obtain ⟨a1, rfl, ha1⟩ := hv
          walk_at "zz"
          refine ⟨rfl, .ref a1, g6, e6, S.weakL (fun p hp => ?_), ?_⟩
          · simp only [List.mem_cons, List.not_mem_nil, or_false] at hp
            rcases hp with rfl | rfl | rfl | rfl | rfl | rfl | rfl <;> walk_at "lk"
          · unfold baseV
            rw [if_neg (by rw [z]; decide), hfn, if_pos z]
            exact ⟨a1, _, rfl, ha1⟩
        · have hk3 : r.kd = 3 := by
            rcases hvv with ⟨q, _⟩ | q
            · rcases z with z | z <;> rw [z] at q <;> cases q
            · exact q
          refine isi S kitx_int trivial (b := false) (by kernel_rfl) (by intro e; cases e) fun s S => ?_
          walk_at "zz"
          refine ga S (hxa.mono S.ge) hAK.default (by k_is) (by k_is) (by k_is) (by k_is) rfl fun s S => ?_
          walk_at "zz"
          refine ⟨rfl, .int (50 + k) tq, g5, Ext.rfl', S.weakL (fun p hp => ?_), ?_⟩
          · simp only [List.mem_cons, List.not_mem_nil, or_false] at hp
            rcases hp with rfl | rfl | rfl | rfl | rfl | rfl | rfl <;> walk_at "lk"
          · unfold baseV
            rw [if_pos hk3]
            exact ⟨_, rfl⟩
    obtain ⟨rfl, v, g6, e6, S, hvv⟩ := hm1
    refine sq_next ?_
    have hxa := hxa.mono e6
    refine sq (wpAny_mono (Q := fun fl s' => fl = .next ∧ ∃ v g7, Ext g6 g7 ∧ Sp w ⟨sb, gp, L⟩ g7 ((("value" : Str), v) :: ("a", .ref xa) :: [(("inst" : Str), .ref m), ("handed", .ref H), ("kwargs", .ref D), ("args", .ref T), ("self", .ref x)]) ([(D2, DictO w hkv)] ++ itO its) s' ∧ SvAt g7 v (rowV f k r)) ?_ (fun fl s' hm1 => ?_) fun _ _ e => e)
    · have hcv : handedIn (cvV r) = true := by unfold cvV; split <;> rfl
      walk_at "zz"
      refine ga S (hxa.mono S.ge) hAK.converter (by k_is) (by k_is) (by k_is) (by k_is) hcv fun s S => ?_
      unfold rowV
      unfold cvV at hAK hcv ⊢
      cases hc : r.cv with
      | false =>
        rw [hc] at hAK
        simp only [Bool.false_eq_true, if_false] at hAK ⊢
        walk_at "zz"
        refine ga S (hxa.mono S.ge) hAK.converter (by k_is) (by k_is) (by k_is) (by k_is) rfl fun s S => ?_
        walk_at "zz"
        exact ⟨rfl, _, g6, Ext.rfl', S, hvv⟩
      | true =>
        rw [hc] at hAK
        simp only [if_true] at hAK ⊢
        walk_at "zz"
        refine ga S (hxa.mono S.ge) hAK.converter (by k_is) (by k_is) (by k_is) (by k_is) rfl fun s S => ?_
        walk_at "zz"
        refine isi S kitx_fn (show KitAt 500 "function" s.heap from ?_) (b := false) (by kernel_rfl) (by intro e; cases e) fun s S => ?_
        · exact at500 S.kin
        walk_at "zz"
        refine mOwn S (hxa.mono S.ge) hAK.converter (by k_is) (by k_is) (by k_is) (by k_is) rfl fun s S => ?_
        walk_at "zz"
        refine use S (c_wrap S.inn (by show A.depth + 1 < 900; omega)) fun v2 s g7 e7 hv S => ?_
        obtain ⟨a1, tq, rfl, ha1⟩ := hv
        walk_at "zz"
        refine ⟨rfl, .ref a1, g7, e7, S.weakL (fun p hp => ?_), a1, tq, v, rfl, ha1, hvv.mono e7⟩
        simp only [List.mem_cons, List.not_mem_nil, or_false] at hp
        rcases hp with rfl | rfl | rfl | rfl | rfl | rfl | rfl <;> walk_at "lk"
    obtain ⟨rfl, v, g7, e7, S, hvv⟩ := hm1
    refine sq_next ?_
    have hxa := hxa.mono e7
    have hm7 := (hm5.mono e6).mono e7
    walk_at "zz"
    refine ga S (hm7.mono S.ge) (v := .ref D2) (by kernel_rfl) (by k_is) (by k_is) (by k_is) (by k_is) rfl fun s S => ?_
    walk_at "zz"
    refine ga S (hxa.mono S.ge) hAK.name (by k_is) (by k_is) (by k_is) (by k_is) rfl fun s S => ?_
    refine dSet (i := 0) S rfl (by rw [sizeLine_eq]; omega) fun s S => ?_
    have hnew : r.na ∉ hkv.map (·.1) := by
      intro z
      obtain ⟨p, hp, hq⟩ := List.mem_map.mp z
      obtain ⟨j, hj⟩ := List.getElem?_of_mem hp
      obtain ⟨r2, hr2, hn2, _⟩ := hIx.get' hj
      rw [List.getElem?_take] at hr2
      split at hr2
      · have h1 : (rows.map (·.na))[j]? = some r.na := by rw [List.getElem?_map, hr2, ← hq, hn2]; rfl
        have h2 : (rows.map (·.na))[k]? = some r.na := by rw [List.getElem?_map, hr']; rfl
        have := nodup_idx ok.na h1 h2
        omega
      · cases hr2
    rw [put_new _ _ _ hnew] at S
    walk_at "zz"
    refine ⟨g7, _, _, e6.trans e7, ⟨rfl, _, rfl, ?_⟩, S.weakL (fun p hp => ?_)⟩
    · rw [take_snoc hr']
      refine (hIx.imp fun i kv r h => ⟨h.1, h.2.mono (e6.trans e7)⟩).snoc ⟨rfl, ?_⟩
      rw [take_len hr']; exact hvv
    · simp only [List.mem_cons, List.not_mem_nil, or_false] at hp
      rcases hp with rfl | rfl | rfl | rfl | rfl <;> walk_at "lk"
  obtain ⟨rfl, hkv, rfl, hIx⟩ := iv
  rw [hF.1, List.take_length] at hIx
  walk_at "zz"
  have e15 := e14.trans e5
  refine ga S ((hxi.mono e15).mono S.ge) (v := .ref TA) (by kernel_rfl) (by k_is) (by k_is) (by k_is) (by k_is) rfl fun s S => ?_
  refine for_T hh S (hTA.mono e15) (fun k g' l' own' => l' = [(("inst" : Str), .ref m), ("handed", .ref H), ("kwargs", .ref D), ("args", .ref T), ("self", .ref x)] ∧ own' = [(D2, DictO w hkv)]) ⟨rfl, rfl⟩ (fun k v its g6 l' own' s hv e6 iv S => ?_) (fun g6 l' own' s e6 iv S => ?_)
  · obtain ⟨rfl, rfl⟩ := iv
    obtain ⟨r, hr', xa, kva, d, t1, t2, rfl, hxa, hd', hAK⟩ := hF.get' hv
    have hxa := hxa.mono (e15.trans e6)
    walk_at "zz"
    refine ga S (hxa.mono S.ge) hAK.validator (by k_is) (by k_is) (by k_is) (by k_is) rfl fun s S => ?_
    walk_at "zz"
    refine ⟨g6, _, _, Ext.rfl', ⟨rfl, rfl⟩, S.weakL (fun p hp => ?_)⟩
    simp only [List.mem_cons, List.not_mem_nil, or_false] at hp
    rcases hp with rfl | rfl | rfl | rfl | rfl <;> walk_at "lk"
  obtain ⟨rfl, rfl⟩ := iv
  walk_at "zz"
  obtain ⟨g7, e7, hDD, S⟩ := S.frzD
  refine S.fin h fun gq e' => ⟨m, rfl, hkn, D2, hkv, ((hm.mono e5).mono e6).mono (e7.trans e'), hDD.mono e', hIx.imp fun i kv r h => ⟨h.1, h.2.mono (e6.trans (e7.trans e'))⟩⟩
end
theorem lookup_of_mem : ∀ {kvs : List (Str × Value)} {kv : Str × Value}, (kvs.map (·.1)).Nodup → kv ∈ kvs → kvs.lookup kv.1 = some kv.2
  | (y, u) :: r, kv, hn, hm => by
    rw [List.map_cons, List.nodup_cons] at hn
    rcases List.mem_cons.mp hm with rfl | hm
    · simp
    · have : (kv.1 == y) = false := by
        have : kv.1 ≠ y := fun z => hn.1 (by show y ∈ _; rw [← z]; exact List.mem_map_of_mem hm)
        simpa using this
      rw [List.lookup_cons, this]; exact lookup_of_mem hn.2 hm
theorem mem_of_lookup : ∀ {kvs : List (Str × Value)} {x : Str} {v : Value}, kvs.lookup x = some v → (x, v) ∈ kvs
  | (y, u) :: r, x, v, h => by
    rw [List.lookup_cons] at h
    by_cases q : x = y
    · subst q; simp only [BEq.rfl] at h; cases h; exact .head _
    · have : (x == y) = false := by simpa using q
      rw [this] at h; exact .tail _ (mem_of_lookup h)
def findV (σ : Nat → Row → Sv) (x : Str) : Nat → List Row → Option Sv
  | _, [] => none
  | i, r :: rs => if r.kd ≠ 3 ∧ r.al = x then some (σ i r) else findV σ x (i + 1) rs
theorem findV_none {σ : Nat → Row → Sv} {x : Str} : ∀ {rs : List Row} {i : Nat}, (∀ r ∈ rs, r.kd ≠ 3 → r.al ≠ x) → findV σ x i rs = none
  | [], _, _ => rfl
  | r :: rs, i, h => by
    unfold findV
    rw [if_neg (fun z => h r (.head _) z.1 z.2), findV_none fun r hr => h r (.tail _ hr)]
theorem findV_some {σ : Nat → Row → Sv} : ∀ {rs : List Row} {i k : Nat} {r : Row}, (rs.map (·.al)).Nodup → rs[k]? = some r → r.kd ≠ 3 → findV σ r.al i rs = some (σ (i + k) r)
  | [], _, _, _, _, h, _ => by cases h
  | a :: rs, i, 0, r, _, h, h3 => by
    cases h
    unfold findV
    rw [if_pos ⟨h3, rfl⟩]; rfl
  | a :: rs, i, k + 1, r, hn, h, h3 => by
    rw [List.map_cons, List.nodup_cons] at hn
    have h : rs[k]? = some r := h
    unfold findV
    rw [if_neg (fun z => hn.1 (by rw [z.2]; exact List.mem_map_of_mem (List.mem_of_getElem? h)))]
    have := findV_some (σ := σ) (i := i + 1) hn.2 h h3
    rw [this]
    congr 2
    omega
def evF (f : Str → Option Sv) (σ : Nat → Row → Sv) (rows : List Row) (x : Str) : Option Sv := (f x).or (findV σ x 0 rows)
theorem evF_row {f : Str → Option Sv} {σ : Nat → Row → Sv} {rows : List Row} {k : Nat} {r : Row} (ok : RowsOK rows) (hr : rows[k]? = some r) (h3 : r.kd ≠ 3) : evF f σ rows r.al = some ((f r.al).getD (σ k r)) := by
  unfold evF
  rw [findV_some ok.al hr h3, Nat.zero_add]
  cases f r.al <;> rfl
structure HE (g : Heap) (chs : List (Str × Value)) (σ : Nat → Row → Sv) (rows : List Row) (k : Nat) (hk : List (Str × Value)) : Prop where
  up : ∀ x v, chs.lookup x = some v → hk.lookup x = some v
  row : ∀ i r, i < k → rows[i]? = some r → r.kd ≠ 3 → ∃ v, hk.lookup r.al = some v ∧ ((∃ u, chs.lookup r.al = some u) ∨ (chs.lookup r.al = none ∧ SvAt g v (σ i r)))
  no : ∀ x, chs.lookup x = none → (∀ i r, i < k → rows[i]? = some r → r.kd ≠ 3 → r.al ≠ x) → hk.lookup x = none
  len : hk.length ≤ 10 + k
  keys : ∀ kv ∈ hk, (∃ kv' ∈ chs, kv'.1 = kv.1) ∨ Kn rows kv.1
theorem HE.mono {g g' : Heap} {chs hk : List (Str × Value)} {σ : Nat → Row → Sv} {rows : List Row} {k : Nat} (H : HE g chs σ rows k hk) (e : Ext g g') : HE g' chs σ rows k hk :=
  ⟨H.up, fun i r h1 h2 h3 => let ⟨v, a, b⟩ := H.row i r h1 h2 h3; ⟨v, a, b.imp id fun z => ⟨z.1, z.2.mono e⟩⟩, H.no, H.len, H.keys⟩
theorem HE.zero {g : Heap} {chs : List (Str × Value)} {σ : Nat → Row → Sv} {rows : List Row} (h : chs.length ≤ 10) : HE g chs σ rows 0 chs := ⟨fun _ _ h => h, fun i r h => absurd h (Nat.not_lt_zero _), fun x h _ => h, h, fun kv h => .inl ⟨kv, h, rfl⟩⟩
theorem HE.skip {g : Heap} {chs hk : List (Str × Value)} {σ : Nat → Row → Sv} {rows : List Row} {k : Nat} {r : Row} (H : HE g chs σ rows k hk) (hr : rows[k]? = some r) (h3 : r.kd ≠ 3 → ∃ v, chs.lookup r.al = some v) : HE g chs σ rows (k + 1) hk := by
  refine ⟨H.up, fun i r' hi hr' hd => ?_, fun x h1 h2 => H.no x h1 fun i r' hi => h2 i r' (by omega), by have := H.len; omega, H.keys⟩
  rcases Nat.lt_or_eq_of_le (Nat.le_of_lt_succ hi) with hi | rfl
  · exact H.row i r' hi hr' hd
  · rw [hr] at hr'; cases hr'
    obtain ⟨v, hv⟩ := h3 hd
    exact ⟨v, H.up _ _ hv, .inl ⟨v, hv⟩⟩
theorem HE.put {g : Heap} {chs hk : List (Str × Value)} {σ : Nat → Row → Sv} {rows : List Row} {k : Nat} {r : Row} {v : Value} (H : HE g chs σ rows k hk) (ok : RowsOK rows) (hr : rows[k]? = some r) (h3 : r.kd ≠ 3) (hn : chs.lookup r.al = none) (hv : SvAt g v (σ k r)) : HE g chs σ rows (k + 1) (Mine.put r.al v hk) := by
  have ne : ∀ (i : Nat) (r' : Row), i < k → rows[i]? = some r' → r'.al ≠ r.al := fun i r' hi hr' e => by
    have h1 : (rows.map (·.al))[i]? = some r.al := by rw [List.getElem?_map, hr', ← e]; rfl
    have h2 : (rows.map (·.al))[k]? = some r.al := by rw [List.getElem?_map, hr]; rfl
    have := nodup_idx ok.al h1 h2
    omega
  refine ⟨fun x u h => ?_, fun i r' hi hr' hd => ?_, fun x h1 h2 => ?_, by have := H.len; have := put_len r.al v hk; omega, fun kv hkv => ?_⟩
  · rw [lookup_put]
    split
    · rename_i e; subst e; rw [hn] at h; cases h
    · exact H.up x u h
  · rcases Nat.lt_or_eq_of_le (Nat.le_of_lt_succ hi) with hi | rfl
    · obtain ⟨u, h1, h2⟩ := H.row i r' hi hr' hd
      exact ⟨u, by rw [lookup_put, if_neg (ne i r' hi hr')]; exact h1, h2⟩
    · rw [hr] at hr'; cases hr'
      exact ⟨v, by rw [lookup_put, if_pos rfl], .inr ⟨hn, hv⟩⟩
  · rw [lookup_put, if_neg (fun e => h2 k r (Nat.lt_succ_self _) hr h3 e.symm)]
    exact H.no x h1 fun i r' hi => h2 i r' (by omega)
  · have hm : kv.1 ∈ (Mine.put r.al v hk).map (·.1) := List.mem_map_of_mem hkv
    rw [put_keys] at hm
    have : kv.1 ∈ hk.map (·.1) ∨ kv.1 = r.al := by
      split at hm
      · exact .inl hm
      · simpa using hm
    rcases this with z | z
    · obtain ⟨p, hp, hq⟩ := List.mem_map.mp z
      rw [← hq]; exact H.keys p hp
    · exact .inr ⟨r, List.mem_of_getElem? hr, h3, z.symm⟩
theorem row_rep {i : Nat} {r : Row} (h : RowK i r) : (reprText r.al).length ≤ 1000 ∧ (r.al == ("self" : Str)) = false := by
  obtain ⟨hi, ha, _⟩ := h
  rw [ha]
  match i, hi with
  | 0, _ => exact ⟨Nat.le_of_ble_eq_true (by kernel_rfl), by kernel_rfl⟩
  | 1, _ => exact ⟨Nat.le_of_ble_eq_true (by kernel_rfl), by kernel_rfl⟩
  | 2, _ => exact ⟨Nat.le_of_ble_eq_true (by kernel_rfl), by kernel_rfl⟩
  | 3, _ => exact ⟨Nat.le_of_ble_eq_true (by kernel_rfl), by kernel_rfl⟩
  | 4, _ => exact ⟨Nat.le_of_ble_eq_true (by kernel_rfl), by kernel_rfl⟩
theorem HE.kw {g : Heap} {chs hk : List (Str × Value)} {σ : Nat → Row → Sv} {rows : List Row} {f : Str → Option Sv} (H : HE g chs σ rows rows.length hk) (ok : RowsOK rows) (C : KwOk g chs f) (hnd : (hk.map (·.1)).Nodup) : KwOk g hk (evF f σ rows) := by
  refine ⟨hnd, by have := H.len; have := ok.len; omega, fun kv hkv => ?_, fun kv hkv => ?_, fun x v hx => ?_, fun x hx => ?_⟩
  · rcases H.keys kv hkv with ⟨kv', h1, h2⟩ | ⟨r, h1, _, h2⟩
    · rw [← h2]; exact C.rep _ h1
    · obtain ⟨i, hi⟩ := ok.row r h1; rw [← h2]; exact (row_rep hi).1
  · rcases H.keys kv hkv with ⟨kv', h1, h2⟩ | ⟨r, h1, _, h2⟩
    · rw [← h2]; exact C.ns _ h1
    · obtain ⟨i, hi⟩ := ok.row r h1; rw [← h2]; exact (row_rep hi).2
  · cases hc : chs.lookup x with
    | some u =>
      have := H.up _ _ hc
      rw [hx] at this; cases this
      obtain ⟨sv, h1, h2⟩ := C.val _ _ hc
      exact ⟨sv, by unfold evF; rw [h1]; rfl, h2⟩
    | none =>
      by_cases hq : ∃ i r, i < rows.length ∧ rows[i]? = some r ∧ r.kd ≠ 3 ∧ r.al = x
      · obtain ⟨i, r, h1, h2, h3, rfl⟩ := hq
        obtain ⟨u, h4, h5⟩ := H.row i r h1 h2 h3
        rw [hx] at h4; cases h4
        rcases h5 with ⟨u, h5⟩ | ⟨_, h5⟩
        · rw [hc] at h5; cases h5
        · refine ⟨σ i r, ?_, h5⟩
          rw [evF_row ok h2 h3, C.none _ hc]; rfl
      · have := H.no x hc fun i r h1 h2 h3 h4 => hq ⟨i, r, h1, h2, h3, h4⟩
        rw [hx] at this; cases this
  · have hc : chs.lookup x = none := by
      cases q : chs.lookup x with
      | none => rfl
      | some u => have := H.up _ _ q; rw [hx] at this; cases this
    unfold evF
    rw [C.none _ hc, findV_none fun r hr h3 e => ?_]
    · rfl
    · obtain ⟨i, hi⟩ := List.getElem?_of_mem hr
      obtain ⟨u, h4, _⟩ := H.row i r (List.getElem?_eq_some_iff.mp hi).1 hi h3
      rw [e, hx] at h4; cases h4
section
variable {c : Cx} {g : Heap} {l : List (Str × Value)} {own : Own} {s : Shared} {A : Around} {E : Value → Shared → Prop} {w : World} {gp : Heap} {env : Env} {outer : List Env}
theorem c_evolve {sb : Shared} {m x : Nat} {chs : List (Str × Value)} {rows : List Row} {f : Str → Option Sv} {σ : Nat → Row → Sv} (I : In w gp sb) (hr : A.depth < 600) (hh : A.handled = none) (O : Out A gp sb.heap outer) (hK : KindAt w gp (.ref x) rows) (hM : MadeAt w gp m x rows σ) (ok : RowsOK rows) (hkw : KwOk gp chs f) (hcl : chs.length ≤ 10) :
    ConX w A (.ref 104) [.ref m] chs gp sb outer (fun g r => ∃ m2 : Nat, r = .ref m2 ∧ (∀ kv ∈ chs, Kn rows kv.1) ∧ MadeAt w g m2 x rows (rowV (evF f σ rows))) (∃ kv ∈ chs, ¬ Kn rows kv.1) := by
  intro Q E h hE
  obtain ⟨x', MM, TA, EQ, OR, n, avs, hx', hxi, hMM, hTA, hEQ, hF⟩ := id hK
  cases hx'
  obtain ⟨D0, hkv0, hm, hD0, hI0⟩ := hM
  refine wpAny_call (enterSc I (Nat.lt_trans hr (by decide)) (by k_is) (by k_is) rfl rfl rfl rfl (by kernel_rfl) (fun kv hkv => rfl) (Nat.le_trans hkw.len (by decide)) hkw.nd (Nat.le_of_ble_eq_true rfl) (fun T D => locs (by kernel_rfl)) (fun L T D s1 S => ?_) (by decide) rfl rfl rfl)
  have S : Sp w ⟨sb, gp, L⟩ gp _ [(D, DictO w chs), (T, TupP [.ref m])] s1 := S
  have S := S.weakL (l' := [(("changes" : Str), .ref D), ("args", .ref T)]) (fun p hp => by
    simp only [List.mem_cons, List.not_mem_nil, or_false] at hp
    rcases hp with rfl | rfl <;> kernel_rfl)
  have S := S.perm (own' := [(T, TupP [.ref m]), (D, DictO w chs)]) (fun p hp => by
    simp only [List.mem_cons, List.not_mem_nil, or_false] at hp ⊢
    exact hp.symm) (by
    have := S.nd
    simp only [List.map_cons, List.map_nil, List.nodup_cons, List.mem_cons, List.not_mem_nil, or_false, not_false_eq_true, List.nodup_nil, and_true] at this ⊢
    exact fun z => this z.symm)
  obtain ⟨g1, e1, hT, S⟩ := S.frzT
  refine sq (wpAny_Try_except ?_)
  walk_at "zz"
  refine asT S hh (hT.mono S.ge) rfl fun s S => ?_
  refine assignInOrder_cons ?_
  walk_at "zz"
  refine ga S ((hm.mono e1).mono S.ge) (v := .ref x) (by kernel_rfl) (by k_is) (by k_is) (by k_is) (by k_is) rfl fun s S => ?_
  walk_at "zz"
  refine use S (c_fields S.inn (by show A.depth + 1 < 900; omega) (hxi.mono e1) (v := .ref TA) (by kernel_rfl) rfl) fun v s g2 e2 hv S => ?_
  subst hv
  walk_at "zz"
  have e12 := e1.trans e2
  have l5 : avs.length ≤ 5 := by rw [hF.1]; exact ok.len
  refine for_T hh S (hTA.mono e12) (fun k g' l' own' => l' = [(("attrs" : Str), .ref TA), ("cls", .ref x), ("inst", .ref m), ("changes", .ref D), ("args", .ref T)] ∧ ∃ hk, own' = [(D, DictO w hk)] ∧ HE g' chs σ rows k hk) ⟨rfl, chs, rfl, .zero hcl⟩ (fun k v its g3 l' own' s hv e3 iv S => ?_) (fun g3 l' own' s e3 iv S => ?_)
  · obtain ⟨rfl, hk, rfl, hHE⟩ := iv
    obtain ⟨r, hr', xa, kva, d, t1, t2, rfl, hxa, hd', hAK⟩ := hF.get' hv
    have e13 := e12.trans e3
    have hxa := hxa.mono e13
    have back : ∀ {s : Shared} {l : List (Str × Value)} {hk : List (Str × Value)}, Sp w ⟨sb, gp, L⟩ g3 l ([(D, DictO w hk)] ++ itO its) s → (∀ p ∈ ([(("attrs" : Str), .ref TA), ("cls", .ref x), ("inst", .ref m), ("changes", .ref D), ("args", .ref T)] : List (Str × Value)), l.lookup p.1 = some p.2) → HE g3 chs σ rows (k + 1) hk → ∃ g'' l'' own'', Ext g3 g'' ∧ (l'' = [(("attrs" : Str), .ref TA), ("cls", .ref x), ("inst", .ref m), ("changes", .ref D), ("args", .ref T)] ∧ ∃ hk, own'' = [(D, DictO w hk)] ∧ HE g'' chs σ rows (k + 1) hk) ∧ Sp w ⟨sb, gp, L⟩ g'' l'' (own'' ++ itO its) s := by
      intro s l hk S h1 h2
      exact ⟨g3, _, _, Ext.rfl', ⟨rfl, hk, rfl, h2⟩, S.weakL h1⟩
    walk_at "zz"
    refine ga S (hxa.mono S.ge) hAK.init (by k_is) (by k_is) (by k_is) (by k_is) rfl fun s S => ?_
    walk_at "zz"
    cases hin : iniB r with
    | false =>
      walk_at "zz"
      refine back S (fun p hp => ?_) (hHE.skip hr' fun z => by unfold iniB at hin; rw [decide_eq_true z] at hin; cases hin)
      simp only [List.mem_cons, List.not_mem_nil, or_false] at hp
      rcases hp with rfl | rfl | rfl | rfl | rfl <;> walk_at "lk"
    | true =>
      have hk3 : r.kd ≠ 3 := by unfold iniB at hin; exact of_decide_eq_true hin
      walk_at "zz"
      refine ga S (hxa.mono S.ge) hAK.name (by k_is) (by k_is) (by k_is) (by k_is) rfl fun s S => ?_
      walk_at "zz"
      refine ga S (hxa.mono S.ge) hAK.alias (by k_is) (by k_is) (by k_is) (by k_is) rfl fun s S => ?_
      walk_at "zz"
      refine dNin S (S.isD 0 rfl) fun s S => ?_
      cases hq : chs.lookup r.al with
      | some u =>
        rw [hHE.up _ _ hq]
        walk_at "zz"
        refine back S (fun p hp => ?_) (hHE.skip hr' fun z => ⟨u, hq⟩)
        simp only [List.mem_cons, List.not_mem_nil, or_false] at hp
        rcases hp with rfl | rfl | rfl | rfl | rfl <;> walk_at "lk"
      | none =>
        have hno : hk.lookup r.al = none := hHE.no _ hq fun i r' hi hr2 _ e => by
          have h1 : (rows.map (·.al))[i]? = some r.al := by rw [List.getElem?_map, hr2, ← e]; rfl
          have h2 : (rows.map (·.al))[k]? = some r.al := by rw [List.getElem?_map, hr']; rfl
          have := nodup_idx ok.al h1 h2
          omega
        rw [hno]
        walk_at "zz"
        refine ga S ((hm.mono e13).mono S.ge) (v := .ref D0) (by kernel_rfl) (by k_is) (by k_is) (by k_is) (by k_is) rfl fun s S => ?_
        walk_at "zz"
        obtain ⟨kv, hkv, hkn, hkS⟩ := hI0.get hr'
        have hlk : hkv0.lookup r.na = some kv.2 := by
          obtain ⟨⟨_, _, _, _, _, _, hnd0⟩, _⟩ := hD0
          rw [← hkn]; exact lookup_of_mem hnd0 (List.mem_of_getElem? hkv)
        refine stD S ((hD0.mono e13).mono S.ge).1 hlk fun s S => ?_
        walk_at "zz"
        refine dSet (i := 0) S rfl (by rw [sizeLine_eq]; have := hHE.len; have := (List.getElem?_eq_some_iff.mp hv).1; omega) fun s S => ?_
        walk_at "zz"
        refine back S (fun p hp => ?_) (hHE.put ok hr' hk3 hq (hkS.mono e13))
        simp only [List.mem_cons, List.not_mem_nil, or_false] at hp
        rcases hp with rfl | rfl | rfl | rfl | rfl <;> walk_at "lk"
  obtain ⟨rfl, hk, rfl, hHE⟩ := iv
  rw [hF.1] at hHE
  have e13 := e12.trans e3
  walk_at "zz"
  obtain ⟨g4, e4, hCH, S⟩ := S.frzD
  have hnd : (hk.map (·.1)).Nodup := by obtain ⟨⟨_, _, _, _, _, _, z⟩, _⟩ := hCH; exact z
  have hHE := hHE.mono e4
  have e14 := e13.trans e4
  obtain ⟨dx, odx, hx, hdx, _⟩ := id hxi
  have leaveE : ∀ (env' : Env) e s', env'.scope.kind ≠ .module → env'.frame = some L → (∃ kv ∈ chs, ¬ Kn rows kv.1) → Flyg w ⟨sb, gp, L⟩ outer e s' → wpAny (MD w) (A.deeper env') (leaving env' (.ref e)) (fun _ s'' => E (.ref e) s'') (fun e' s'' => E e' s'') s' := fun env' e s' h1 h2 b F => leave F O h1 h2 fun s'' t => hE e s'' b t
  have hlen : hk.length ≤ 1000 := by have := hHE.len; have := ok.len; omega
  have KW : KwOk g4 hk (evF f σ rows) := hHE.kw ok (hkw.mono e14) hnd
  refine cwKS S (N := D) (kvs := hk) (fun s own Q E S q => nm S (by walk_at "lk") (q _ S)) hCH hlen (keepI (e14 _ _ hx)) fun s S => ?_
  refine useX S (c_kcall S.inn (by show A.depth + 1 < 700; omega) hh (S.out O (by intro z; cases z) rfl) (hK.mono e14) ok KW (fun r hr hz => ?_)) O rfl (fun e s' b F => leaveE _ e s' (by intro z; cases z) rfl ?_ F) fun v s g5 e5 hv S => ?_
  · obtain ⟨i, hi⟩ := List.getElem?_of_mem hr
    obtain ⟨u, h4, _⟩ := hHE.row i r (List.getElem?_eq_some_iff.mp hi).1 hi (by rw [hz]; decide)
    rw [h4]; rfl
  · obtain ⟨kv, h1, h2⟩ := b
    rcases hHE.keys kv h1 with ⟨kv', h3, h4⟩ | h3
    · exact ⟨kv', h3, by rw [h4]; exact h2⟩
    · exact absurd h3 h2
  obtain ⟨m2, rfl, hkn, hM2⟩ := hv
  walk_at "zz"
  refine S.fin h fun gq e' => ⟨m2, rfl, fun kv hkv => ?_, hM2.mono e'⟩
  have h1 := lookup_of_mem hkw.nd hkv
  exact hkn _ (mem_of_lookup (hHE.up _ _ h1))
end
section
variable {c : Cx} {g : Heap} {l : List (Str × Value)} {own : Own} {s : Shared} {A : Around} {E : Value → Shared → Prop} {w : World} {gp : Heap} {env : Env} {outer : List Env}
theorem c_called {sb : Shared} {f : Value} {V N : Nat} {vs : List Value} {kvs : List (Str × Value)} {Post : Heap → Value → Prop} {Bad : Prop} (I : In w gp sb) (hr : A.depth < 500) (hh : A.handled = none) (O : Out A gp sb.heap outer) (hV : IsL gp V vs) (hzv : vs.length ≤ 1000) (hN : IsD w gp N kvs) (hz : kvs.length ≤ 1000)
    (hk : ∀ h : Heap, (K w).In h → Ext gp h → ∃ k, (k = Keeper.frame ∨ k = Keeper.caller) ∧ Looks (MD w) h (keeperOf f) k)
    (C : ∀ {A' : Around} {s' : Shared} {outer' : List Env}, In w gp s' → A'.depth < 600 → A'.handled = none → Out A' gp s'.heap outer' → ConX w A' f vs kvs gp s' outer' Post Bad) (hP : ∀ {g g' v}, Ext g g' → Post g v → Post g' v) :
    ConX w A (.ref 459) [f, .ref V, .ref N] [] gp sb outer Post Bad := by
  intro Q E h hE
  refine enterX (binds := [(("thing" : Str), f), ("values", .ref V), ("names", .ref N)]) I (Nat.lt_trans hr (by decide)) (by k_is) (by k_is) (.of_eq (by kernel_rfl)) (locs (by kernel_rfl)) (fun L s1 S => ?_) (by decide) rfl rfl rfl
  simp only [List.reverse_cons, List.reverse_nil, List.nil_append, List.cons_append] at S
  walk_at "zz"
  refine cwSS S (V := V) (N := N) (fun s Q E S q => nm S (by walk_at "lk") (q _ S)) (fun s own Q E S q => nm S (by walk_at "lk") (q _ S)) hV hzv hN hz hk fun s S => ?_
  refine useX S (C S.inn (by show A.depth + 1 < 600; omega) hh (S.out O (by intro z; cases z) rfl)) O rfl (fun e s' b F => leave F O (by intro z; cases z) rfl fun s'' t => hE e s'' b t) fun v s g5 e5 hv S => ?_
  walk_at "zz"
  exact S.fin h fun gq e' => hP e' hv
end
section
variable {c : Cx} {g : Heap} {l : List (Str × Value)} {own : Own} {s : Shared} {A : Around} {E : Value → Shared → Prop} {w : World} {gp : Heap} {env : Env} {outer : List Env}
theorem Hnd.deep {A : Around} {h : Heap} {env : Env} (x : Hnd A h) : Hnd (A.deeper env) h := x
theorem c_wantedH (I : In w gp s) (hr : A.depth < 900) (hh : Hnd A gp) {d : Nat} (hd : IsD w gp d []) : Con w A (.ref 480) [.none, .ref d] [] gp s fun _ r => r = .none := by
  intro Q E h
  refine enter (binds := [(("wanted" : Str), .none), (("named" : Str), .ref d)]) I (Nat.lt_trans hr (by decide)) (by k_is) (by k_is) (.of_eq (by kernel_rfl)) (locs (by kernel_rfl)) (fun L s1 S => ?_) (by decide) rfl rfl rfl
  simp only [List.reverse_cons, List.reverse_nil, List.nil_append, List.cons_append] at S
  walk_at "zz"
  refine for_DH (show Hnd _ gp from hh) S hd fun s S => ?_
  walk_at "zz"
  refine mD (hd.mono S.up) PySem.F.slot_dict_get PySem.F.type_dict_get ?_
  walk_at "zz"
  refine dGetD (by assumption) (hd.mono S.up) fun s S => ?_
  walk_at "zz"
  exact S.fin h fun _ _ => rfl
theorem c_astuple {sb : Shared} {m x : Nat} {t0 : Tok} {rows : List Row} {σ : Nat → Row → Sv} (I : In w gp sb) (hr : A.depth < 700) (hh : Hnd A gp) (hK : KindAt w gp (.ref x) rows) (hM : MadeAt w gp m x rows σ) (ok : RowsOK rows) :
    Con w A (.ref 486) [.ref m] [("recurse", .bool false)] gp sb (fun g r => ∃ (T : Nat) (vs : List Value), r = .ref T ∧ IsT g T vs ∧ Ix (fun i v r => SvAt g v (σ i r)) vs rows) := by
  intro Q E h
  obtain ⟨x', MM, TA, EQ, OR, n, avs, hx', hxi, hMM, hTA, hEQ, hF⟩ := id hK
  cases hx'
  obtain ⟨D0, hkv0, hm, hD0, hI0⟩ := hM
  refine enterCD (binds := fun D => [(("inst" : Str), .ref m), ("recurse", .bool false), ("wanted", .none), ("tuple_factory", .type "tuple"), ("retain_collection_types", .bool false), ("named", .ref D)]) (lr := fun D => [(("named" : Str), .ref D), ("retain_collection_types", .bool false), ("recurse", .bool false), ("inst", .ref m)]) (co := fun L D => [(L + 3, CellP none), (L + 2, CellP (some (.type "tuple"))), (L + 1, CellP (some .none))]) I (Nat.lt_trans hr (by decide)) (by k_is) (by k_is) (bindsD_K I.gl.kin rfl (by k_is) rfl rfl (by kernel_rfl)) (fun L D x hx => ?_) (fun L => by exact (show (["retain", "tuple_factory", "wanted"] : List Str).Nodup by decide)) (fun D => by kernel_rfl) (fun L D => by kernel_rfl) (fun L D s1 S => ?_) rfl rfl rfl
  · simp only [List.mem_cons, List.not_mem_nil, or_false] at hx
    rcases hx with rfl | rfl | rfl | rfl | rfl | rfl
    · exact .inl (by kernel_rfl)
    · exact .inl (by kernel_rfl)
    · exact .inr ⟨by kernel_rfl, by kernel_rfl⟩
    · exact .inr ⟨by kernel_rfl, by kernel_rfl⟩
    · exact .inl (by kernel_rfl)
    · exact .inl (by kernel_rfl)
  obtain ⟨g1, e1, hD, S⟩ := S.frzD
  walk_at "zz"
  refine use S (c_fieldsM S.inn (by show A.depth + 1 < 800; omega) (hm.mono e1) (by kernel_rfl) (hxi.mono e1) (v := .ref TA) (by kernel_rfl) rfl) fun v s g2 e2 hv S => ?_
  subst hv
  walk_at "zz"
  refine newL S (Nat.zero_le _) fun s RV S => ?_
  walk_at "zz"
  refine nmC S (i := 3) rfl (by kernel_rfl) ?_
  walk_at "zz"
  refine use S (c_wantedH S.inn (by show A.depth + 1 < 900; omega) (hh.mono (e1.trans e2)).deep (hD.mono e2)) fun v s g3 e3 hv S => ?_
  subst hv
  refine snC S (i := 3) rfl (by kernel_rfl) fun s S => ?_
  walk_at "z"
  walk_at "z"
  walk_at "z"
  walk_at "z"
  refine snC S (i := 1) rfl (by kernel_rfl) fun s S => ?_
  walk_at "zz"
  have e13 := e1.trans (e2.trans e3)
  have l5 : avs.length ≤ 5 := by rw [hF.1]; exact ok.len
  refine for_TH (hh.mono e13).deep S (hTA.mono e13) (fun k g' l' own' => l' = [(("rv" : Str), .ref RV), ("attrs", .ref TA), ("named", .ref D), ("retain_collection_types", .bool false), ("recurse", .bool false), ("inst", .ref m)] ∧ ∃ vs, own' = [(RV, ListP vs), (L + 3, CellP (some (.bool false))), (L + 2, CellP (some (.type "tuple"))), (L + 1, CellP (some .none))] ∧ Ix (fun i v r => SvAt g' v (σ i r)) vs (rows.take k)) ⟨rfl, [], rfl, .nil⟩ (fun k v its g4 l' own' s hv e4 iv S => ?_) (fun g4 l' own' s e4 iv S => ?_)
  · obtain ⟨rfl, vs, rfl, hIx⟩ := iv
    obtain ⟨r, hr', xa, kva, d, t1, t2, rfl, hxa, hd', hAK⟩ := hF.get' hv
    have e14 := e13.trans e4
    have hxa := hxa.mono e14
    walk_at "zz"
    refine ga S ((hm.mono e14).mono S.ge) (v := .ref D0) (by kernel_rfl) (by k_is) (by k_is) (by k_is) (by k_is) rfl fun s S => ?_
    walk_at "zz"
    refine ga S (hxa.mono S.ge) hAK.name (by k_is) (by k_is) (by k_is) (by k_is) rfl fun s S => ?_
    obtain ⟨kv, hkv, hkn, hkS⟩ := hI0.get hr'
    have hlk : hkv0.lookup r.na = some kv.2 := by
      obtain ⟨⟨_, _, _, _, _, _, hnd0⟩, _⟩ := hD0
      rw [← hkn]; exact lookup_of_mem hnd0 (List.mem_of_getElem? hkv)
    refine stD S ((hD0.mono e14).mono S.ge).1 hlk fun s S => ?_
    walk_at "zz"
    refine nmC S (i := 3) rfl (by kernel_rfl) ?_
    walk_at "zz"
    obtain ⟨o, hRV, nRV, rfl⟩ := S.at 0 rfl
    refine mL ⟨nRV, hRV⟩ ?_
    walk_at "zz"
    have hvl : vs.length ≤ 5 := by rw [hIx.1, List.length_take]; have := ok.len; omega
    refine app (i := 0) S rfl (by rw [sizeLine_eq]; omega) fun s S => ?_
    walk_at "zz"
    refine ⟨g4, _, _, Ext.rfl', ⟨rfl, vs ++ [kv.2], rfl, ?_⟩, S.weakL (fun p hp => ?_)⟩
    · rw [take_snoc hr']
      refine hIx.snoc ?_
      rw [take_len hr']; exact hkS.mono e14
    · simp only [List.mem_cons, List.not_mem_nil, or_false] at hp
      rcases hp with rfl | rfl | rfl | rfl | rfl | rfl <;> walk_at "lk"
  obtain ⟨rfl, vs, rfl, hIx⟩ := iv
  rw [hF.1, List.take_length] at hIx
  walk_at "zz"
  refine nmC S (i := 2) rfl (by kernel_rfl) ?_
  walk_at "zz"
  refine nmC S (i := 2) rfl (by kernel_rfl) ?_
  walk_at "zz"
  have hvl : vs.length ≤ 5 := by rw [hIx.1]; exact ok.len
  obtain ⟨g5, e5, hRV, S⟩ := S.frzL
  refine tupL S (hRV.mono S.ge) (by omega) fun s T g6 e6 hT S => ?_
  walk_at "zz"
  exact S.fin h fun gq e' => ⟨T, vs, rfl, hT.mono e', hIx.imp fun i v r h => h.mono (e5.trans (e6.trans e'))⟩
end
section
variable {c : Cx} {g : Heap} {l : List (Str × Value)} {own : Own} {s : Shared} {A : Around} {E : Value → Shared → Prop} {w : World} {gp : Heap} {env : Env} {outer : List Env}
theorem c_eq {sb : Shared} {m1 m2 x : Nat} {rows : List Row} {σ : Nat → Row → Sv} (I : In w gp sb) (hr : A.depth < 700) (hh : A.handled = none) (hu : A.units < 8000) (hK : KindAt w gp (.ref x) rows) (h1 : MadeAt w gp m1 x rows σ) (h2 : MadeAt w gp m2 x rows σ) (ok : RowsOK rows) (hdp : ∀ i r, rows[i]? = some r → (σ i r).dep ≤ 8) :
    Con w A (.ref 182) [.ref m1, .ref m2] [] gp sb (fun g r => r = .bool true) := by
  intro Q E h
  obtain ⟨x', MM, TA, EQ, OR, n, avs, hx', hxi, hMM, hTA, hEQ, hF⟩ := id hK
  cases hx'
  obtain ⟨D1, hkv1', hm1, hD1, hI1⟩ := h1
  obtain ⟨D2, hkv2', hm2, hD2, hI2⟩ := h2
  refine enter (binds := [(("self" : Str), .ref m1), ("other", .ref m2)]) I (Nat.lt_trans hr (by decide)) (by k_is) (by k_is) (.of_eq (by kernel_rfl)) (locs (by kernel_rfl)) (fun L s1 S => ?_) (by decide) rfl rfl rfl
  simp only [List.reverse_cons, List.reverse_nil, List.nil_append, List.cons_append] at S
  walk_at "zz"
  refine use S (c_kind_of S.inn (by show A.depth + 1 < 900; omega) hm2 (v := .ref x) (by kernel_rfl) rfl) fun v s g1 e1 hv S => ?_
  subst hv
  walk_at "zz"
  refine ga S ((hm1.mono e1).mono S.ge) (v := .ref x) (by kernel_rfl) (by k_is) (by k_is) (by k_is) (by k_is) rfl fun s S => ?_
  walk_at "zz"
  have hxi1 := hxi.mono e1
  refine ga S ((hm1.mono e1).mono S.ge) (v := .ref x) (by kernel_rfl) (by k_is) (by k_is) (by k_is) (by k_is) rfl fun s S => ?_
  refine mCls S (hxi1.mono S.ge) (by kernel_rfl) (by k_is) (by k_is) (by k_is) ?_
  walk_at "zz"
  refine use S (c_eq_of S.inn (by show A.depth + 1 < 900; omega) hh hxi1 (by kernel_rfl) (hMM.mono e1) (v := .ref EQ) (by kernel_rfl) rfl rfl (by intro e; cases e)) fun v s g2 e2 hv S => ?_
  subst hv
  walk_at "zz"
  have e12 := e1.trans e2
  refine ga S ((hm1.mono e12).mono S.ge) (v := .ref x) (by kernel_rfl) (by k_is) (by k_is) (by k_is) (by k_is) rfl fun s S => ?_
  refine mCls S ((hxi.mono e12).mono S.ge) (by kernel_rfl) (by k_is) (by k_is) (by k_is) ?_
  walk_at "zz"
  refine use S (c_eq_of S.inn (by show A.depth + 1 < 900; omega) hh (hxi.mono e12) (by kernel_rfl) (hMM.mono e12) (v := .ref EQ) (by kernel_rfl) rfl rfl (by intro e; cases e)) fun v s g3 e3 hv S => ?_
  subst hv
  have e13 := e12.trans e3
  refine for_L hh S (hEQ.mono e13) (fun k g' l' own' => l' = [(("other" : Str), .ref m2), ("self", .ref m1)] ∧ own' = []) ⟨rfl, rfl⟩ (fun k v its g4 l' own' s hv e4 iv S => ?_) (fun g4 l' own' s e4 iv S => ?_)
  · obtain ⟨rfl, rfl⟩ := iv
    obtain ⟨r, hr', xa, kva, d, t1, t2, rfl, hxa, hd', hAK⟩ := hF.get' hv
    have e14 := e13.trans e4
    have hxa4 := hxa.mono e14
    obtain ⟨kv1, hkv1, hkn1, hkS1⟩ := hI1.get hr'
    obtain ⟨kv2, hkv2, hkn2, hkS2⟩ := hI2.get hr'
    have hl1 : hkv1'.lookup r.na = some kv1.2 := by
      obtain ⟨⟨_, _, _, _, _, _, hnd0⟩, _⟩ := hD1
      rw [← hkn1]; exact lookup_of_mem hnd0 (List.mem_of_getElem? hkv1)
    have hl2 : hkv2'.lookup r.na = some kv2.2 := by
      obtain ⟨⟨_, _, _, _, _, _, hnd0⟩, _⟩ := hD2
      rw [← hkn2]; exact lookup_of_mem hnd0 (List.mem_of_getElem? hkv2)
    walk_at "zz"
    refine ga S (hxa4.mono S.ge) hAK.eq_key (by k_is) (by k_is) (by k_is) (by k_is) rfl fun s S => ?_
    walk_at "zz"
    refine use S (c_keyed S.inn (by show A.depth + 1 < 900; omega) (hm1.mono e14) (by kernel_rfl) hxa4 hAK.name (hD1.mono e14) hl1) fun v s g5 e5 hv S => ?_
    subst hv
    have e15 := e14.trans e5
    have hxa5 := hxa4.mono e5
    walk_at "zz"
    refine ga S (hxa5.mono S.ge) hAK.eq_key (by k_is) (by k_is) (by k_is) (by k_is) rfl fun s S => ?_
    walk_at "zz"
    refine use S (c_keyed S.inn (by show A.depth + 1 < 900; omega) (hm2.mono e15) (by kernel_rfl) hxa5 hAK.name (hD2.mono e15) hl2) fun v s g6 e6 hv S => ?_
    subst hv
    have e16 := e15.trans e6
    refine rc_sv (by show A.units + 3 + _ < 9800; have := hdp k r hr'; omega) ((hkS1.mono e16).mono S.ge) ((hkS2.mono e16).mono S.ge) ?_
    walk_at "zz"
    refine ⟨g6, _, _, e5.trans e6, ⟨rfl, rfl⟩, S.weakL (fun p hp => ?_)⟩
    simp only [List.mem_cons, List.not_mem_nil, or_false] at hp
    rcases hp with rfl | rfl <;> walk_at "lk"
  obtain ⟨rfl, rfl⟩ := iv
  walk_at "zz"
  exact S.fin h fun gq e' => rfl
end
def valB (f : Str → Option Sv) (k : Nat) (r : Row) : Sv := (f r.al).getD (if r.kd = 2 then .one k else .i (50 + k))
def valV (f : Str → Option Sv) (k : Nat) (r : Row) : Sv := if r.cv = true then .got (valB f k r) else valB f k r
section
variable {c : Cx} {g : Heap} {l : List (Str × Value)} {own : Own} {s : Shared} {A : Around} {E : Value → Shared → Prop} {w : World} {gp : Heap} {env : Env} {outer : List Env}
theorem c_values {sb : Shared} {R H : Nat} {rvs : List Value} {rows : List Row} {hkvs : List (Str × Value)} {f : Str → Option Sv} (I : In w gp sb) (hr : A.depth < 700) (hh : A.handled = none) (hR : IsL gp R rvs) (hT : Two (RowAt gp) rvs rows) (hl5 : rows.length ≤ 5) (hH : IsD w gp H hkvs)
    (hv1 : ∀ x v, hkvs.lookup x = some v → ∃ sv, f x = some sv ∧ SvAt gp v sv) (hv2 : ∀ x, hkvs.lookup x = none → f x = none) :
    Con w A (.ref 528) [.ref R, .ref H] [] gp sb (fun g r => ∃ (a : Nat) (vs : List Value), r = .ref a ∧ IsL g a vs ∧ Ix (fun i v r => SvAt g v (valV f i r)) vs rows) := by
  intro Q E h
  refine enter (binds := [(("rows" : Str), .ref R), ("handed", .ref H)]) I (Nat.lt_trans hr (by decide)) (by k_is) (by k_is) (.of_eq (by kernel_rfl)) (locs (by kernel_rfl)) (fun L s1 S => ?_) (by decide) rfl rfl rfl
  simp only [List.reverse_cons, List.reverse_nil, List.nil_append, List.cons_append] at S
  have hl := hT.length
  walk_at "zz"
  refine newL S (Nat.zero_le _) fun s VL S => ?_
  walk_at "zz"
  refine for_E hh S hR (fun k g' l' own' => l' = [(("values" : Str), .ref VL), ("handed", .ref H), ("rows", .ref R)] ∧ ∃ vs, own' = [(VL, ListP vs)] ∧ Ix (fun i v r => SvAt g' v (valV f i r)) vs (rows.take k)) ⟨rfl, [], rfl, .nil⟩ (fun k v tq its g1 l' own' s hv e1 iv S => ?_) (fun g1 l' own' s e1 iv S => ?_)
  · obtain ⟨rfl, vs, rfl, hIx⟩ := iv
    obtain ⟨r, hr', a, t1, t2, t3, rfl, hta⟩ := hT.get' hv
    have hta1 := hta.mono e1
    have hH1 := hH.mono e1
    have hvl : vs.length ≤ 5 := by rw [hIx.1, List.length_take]; omega
    refine sq (wpAny_mono (Q := fun fl s' => fl = .next ∧ ∃ v g2, Ext g1 g2 ∧ Sp w ⟨sb, gp, L⟩ g2 ((("value" : Str), v) :: ("row", .ref a) :: ("k", .int k tq) :: [(("values" : Str), .ref VL), ("handed", .ref H), ("rows", .ref R)]) ([(VL, ListP vs)] ++ itO its) s' ∧ SvAt g2 v (valB f k r)) ?_ (fun fl s' hm1 => ?_) fun _ _ e => e)
    · walk_at "zz"
      refine stT (hta1.mono S.ge) (by decide) (by decide) rfl ?_
      walk_at "zz"
      refine dIn S (hH1.mono S.ge) fun s S => ?_
      unfold valB
      cases hq : hkvs.lookup r.al with
      | some u =>
        obtain ⟨sv, h1, h2⟩ := hv1 _ _ hq
        rw [h1]
        walk_at "zz"
        refine stT (hta1.mono S.ge) (by decide) (by decide) rfl ?_
        refine stD S (hH1.mono S.ge).1 hq fun s S => ?_
        walk_at "zz"
        exact ⟨rfl, u, g1, Ext.rfl', S, h2.mono e1⟩
      | none =>
        rw [hv2 _ hq]
        walk_at "zz"
        refine stT (hta1.mono S.ge) (by decide) (by decide) rfl ?_
        walk_at "zz"
        by_cases hk2 : r.kd = 2
        · rw [show ((r.kd : Int) == 2) = true by rw [hk2]; rfl, if_pos hk2]
          walk_at "zz"
          refine newLf S (Nat.le_of_ble_eq_true rfl) fun s a2 g2 e2 ha2 S => ?_
          walk_at "zz"
          exact ⟨rfl, .ref a2, g2, e2, S, a2, _, rfl, ha2⟩
        · rw [show ((r.kd : Int) == 2) = false by rw [beq_eq_false_iff_ne]; intro z; exact hk2 (by omega), if_neg hk2]
          walk_at "zz"
          exact ⟨rfl, _, g1, Ext.rfl', S, _, rfl⟩
    obtain ⟨rfl, v, g2, e2, S, hvv⟩ := hm1
    refine sq_next ?_
    have hta2 := hta1.mono e2
    walk_at "zz"
    obtain ⟨o, hRV, nRV, rfl⟩ := S.at 0 rfl
    refine mL ⟨nRV, hRV⟩ ?_
    walk_at "zz"
    refine stT (hta2.mono S.ge) (by decide) (by decide) rfl ?_
    walk_at "zz"
    have back : ∀ {s : Shared} {u : Value} {g3 : Heap}, Ext g2 g3 → Sp w ⟨sb, gp, L⟩ g3 ((("value" : Str), v) :: ("row", .ref a) :: ("k", .int k tq) :: [(("values" : Str), .ref VL), ("handed", .ref H), ("rows", .ref R)]) ([(VL, ListP (vs ++ [u]))] ++ itO its) s → SvAt g3 u (valV f k r) → ∃ g'' l'' own'', Ext g1 g'' ∧ (l'' = [(("values" : Str), .ref VL), ("handed", .ref H), ("rows", .ref R)] ∧ ∃ vs, own'' = [(VL, ListP vs)] ∧ Ix (fun i v r => SvAt g'' v (valV f i r)) vs (rows.take (k + 1))) ∧ Sp w ⟨sb, gp, L⟩ g'' l'' (own'' ++ itO its) s := by
      intro s u g3 e3 S hu
      refine ⟨g3, _, _, e2.trans e3, ⟨rfl, vs ++ [u], rfl, ?_⟩, S.weakL (fun p hp => ?_)⟩
      · rw [take_snoc hr']
        refine (hIx.imp fun i v r h => h.mono (e2.trans e3)).snoc ?_
        rw [take_len hr']; exact hu
      · simp only [List.mem_cons, List.not_mem_nil, or_false] at hp
        rcases hp with rfl | rfl | rfl <;> walk_at "lk"
    cases hc : r.cv with
    | false =>
      walk_at "zz"
      refine app (i := 0) S rfl (by rw [sizeLine_eq]; omega) fun s S => ?_
      walk_at "zz"
      refine back Ext.rfl' S ?_
      unfold valV; rw [hc]; exact hvv
    | true =>
      walk_at "zz"
      refine newLf S (Nat.le_of_ble_eq_true rfl) fun s a2 g3 e3 ha2 S => ?_
      walk_at "zz"
      refine app (i := 0) S rfl (by rw [sizeLine_eq]; omega) fun s S => ?_
      walk_at "zz"
      refine back e3 S ?_
      unfold valV; rw [hc]; exact ⟨a2, _, v, rfl, ha2, hvv.mono e3⟩
  obtain ⟨rfl, vs, rfl, hIx⟩ := iv
  rw [hl, List.take_length] at hIx
  walk_at "zz"
  obtain ⟨g2, e2, hVL, S⟩ := S.frzL
  exact S.fin h fun gq e' => ⟨VL, vs, rfl, hVL.mono e', hIx.imp fun i v r h => h.mono (e2.trans e')⟩
end
theorem lookup_merged {kvs : List (Str × Value)} (hn : (kvs.map (·.1)).Nodup) : ∀ {more : List (Str × Value)} (x : Str), (more.map (·.1)).Nodup → (merged kvs more).lookup x = (more.lookup x).or (kvs.lookup x) := by
  suffices H : ∀ (more kvs : List (Str × Value)) (x : Str), (kvs.map (·.1)).Nodup → (more.map (·.1)).Nodup → (merged kvs more).lookup x = (more.lookup x).or (kvs.lookup x) from fun {more} x h => H more _ x hn h
  clear hn kvs
  intro more
  induction more with
  | nil => intro kvs x _ _; rfl
  | cons p r ih =>
    intro kvs x h1 h2
    obtain ⟨y, u⟩ := p
    rw [List.map_cons, List.nodup_cons] at h2
    have e : merged kvs ((y, u) :: r) = merged (stored kvs y u) r := rfl
    rw [e, stored_put kvs y u h1, ih _ _ (put_nodup h1) h2.2, lookup_put, List.lookup_cons]
    by_cases q : x = y
    · subst q
      simp only [BEq.rfl, if_true]
      rw [lookup_nil_of h2.1]; rfl
    · have : (x == y) = false := by simpa using q
      rw [this, if_neg q]
structure HG (g : Heap) (σ : Nat → Row → Sv) (rows : List Row) (k : Nat) (gk : List (Str × Value)) : Prop where
  row : ∀ i r, i < k → rows[i]? = some r → r.kd ≠ 3 → ∃ v, gk.lookup r.al = some v ∧ SvAt g v (σ i r)
  no : ∀ x, (∀ i r, i < k → rows[i]? = some r → r.kd ≠ 3 → r.al ≠ x) → gk.lookup x = none
  len : gk.length ≤ k
theorem HG.mono {g g' : Heap} {gk : List (Str × Value)} {σ : Nat → Row → Sv} {rows : List Row} {k : Nat} (H : HG g σ rows k gk) (e : Ext g g') : HG g' σ rows k gk := ⟨fun i r h1 h2 h3 => let ⟨v, a, b⟩ := H.row i r h1 h2 h3; ⟨v, a, b.mono e⟩, H.no, H.len⟩
theorem HG.skip {g : Heap} {gk : List (Str × Value)} {σ : Nat → Row → Sv} {rows : List Row} {k : Nat} {r : Row} (H : HG g σ rows k gk) (hr : rows[k]? = some r) (h3 : r.kd = 3) : HG g σ rows (k + 1) gk := by
  refine ⟨fun i r' hi hr' hd => ?_, fun x h2 => H.no x fun i r' hi => h2 i r' (by omega), by have := H.len; omega⟩
  rcases Nat.lt_or_eq_of_le (Nat.le_of_lt_succ hi) with hi | rfl
  · exact H.row i r' hi hr' hd
  · rw [hr] at hr'; cases hr'; exact absurd h3 hd
theorem HG.put {g : Heap} {gk : List (Str × Value)} {σ : Nat → Row → Sv} {rows : List Row} {k : Nat} {r : Row} {v : Value} (H : HG g σ rows k gk) (ok : RowsOK rows) (hr : rows[k]? = some r) (h3 : r.kd ≠ 3) (hv : SvAt g v (σ k r)) : HG g σ rows (k + 1) (Mine.put r.al v gk) := by
  have ne : ∀ (i : Nat) (r' : Row), i < k → rows[i]? = some r' → r'.al ≠ r.al := fun i r' hi hr' e => by
    have h1 : (rows.map (·.al))[i]? = some r.al := by rw [List.getElem?_map, hr', ← e]; rfl
    have h2 : (rows.map (·.al))[k]? = some r.al := by rw [List.getElem?_map, hr]; rfl
    have := nodup_idx ok.al h1 h2
    omega
  refine ⟨fun i r' hi hr' hd => ?_, fun x h2 => ?_, by have := H.len; have := put_len r.al v gk; omega⟩
  · rcases Nat.lt_or_eq_of_le (Nat.le_of_lt_succ hi) with hi | rfl
    · obtain ⟨u, h1, h2⟩ := H.row i r' hi hr' hd
      exact ⟨u, by rw [lookup_put, if_neg (ne i r' hi hr')]; exact h1, h2⟩
    · rw [hr] at hr'; cases hr'
      exact ⟨v, by rw [lookup_put, if_pos rfl], hv⟩
  · rw [lookup_put, if_neg (fun e => h2 k r (Nat.lt_succ_self _) hr h3 e.symm)]
    exact H.no x fun i r' hi => h2 i r' (by omega)
theorem HG.kn {g : Heap} {gk : List (Str × Value)} {σ : Nat → Row → Sv} {rows : List Row} (H : HG g σ rows rows.length gk) (x : Str) : (gk.lookup x).isSome = true ↔ Kn rows x := by
  constructor
  · intro h
    apply Classical.byContradiction
    intro hk
    rw [H.no x fun i r hi hr h3 e => hk ⟨r, List.mem_of_getElem? hr, h3, e⟩] at h
    cases h
  · rintro ⟨r, hr, h3, rfl⟩
    obtain ⟨i, hi⟩ := List.getElem?_of_mem hr
    obtain ⟨v, hv, _⟩ := H.row i r (List.getElem?_eq_some_iff.mp hi).1 hi h3
    rw [hv]; rfl
theorem HG.val {g : Heap} {gk chs : List (Str × Value)} {σ : Nat → Row → Sv} {rows : List Row} {f : Str → Option Sv} (H : HG g σ rows rows.length gk) (ok : RowsOK rows) (C : KwOk g chs f) (hn : (gk.map (·.1)).Nodup) :
    (∀ x v, (merged gk chs).lookup x = some v → ∃ sv, evF f σ rows x = some sv ∧ SvAt g v sv) ∧ ∀ x, (merged gk chs).lookup x = none → evF f σ rows x = none := by
  refine ⟨fun x v h => ?_, fun x h => ?_⟩
  · rw [lookup_merged hn x C.nd] at h
    cases hc : chs.lookup x with
    | some u =>
      rw [hc] at h
      cases h
      obtain ⟨sv, h1, h2⟩ := C.val _ _ hc
      exact ⟨sv, by unfold evF; rw [h1]; rfl, h2⟩
    | none =>
      rw [hc] at h
      have h : gk.lookup x = some v := h
      obtain ⟨r, hr, h3, rfl⟩ := (H.kn x).mp (by rw [h]; rfl)
      obtain ⟨i, hi⟩ := List.getElem?_of_mem hr
      obtain ⟨u, hv, hs⟩ := H.row i r (List.getElem?_eq_some_iff.mp hi).1 hi h3
      rw [h] at hv; cases hv
      refine ⟨σ i r, ?_, hs⟩
      rw [evF_row ok hi h3, C.none _ hc]; rfl
  · rw [lookup_merged hn x C.nd] at h
    cases hc : chs.lookup x with
    | some u => rw [hc] at h; cases h
    | none =>
      rw [hc] at h
      have h : gk.lookup x = none := h
      unfold evF
      rw [C.none _ hc, findV_none fun r hr h3 e => ?_]
      · rfl
      · have := (H.kn x).mpr ⟨r, hr, h3, e⟩
        rw [h] at this; cases this
theorem evF_three {g : Heap} {chs : List (Str × Value)} {f : Str → Option Sv} {σ : Nat → Row → Sv} {rows : List Row} {k : Nat} {r : Row} (ok : RowsOK rows) (C : KwOk g chs f) (hk : ∀ kv ∈ chs, Kn rows kv.1) (hr : rows[k]? = some r) (h3 : r.kd = 3) : evF f σ rows r.al = none := by
  have uniq : ∀ r' ∈ rows, r'.kd ≠ 3 → r'.al ≠ r.al := fun r' hr' hd e => by
    obtain ⟨i, hi⟩ := List.getElem?_of_mem hr'
    have h1 : (rows.map (·.al))[i]? = some r.al := by rw [List.getElem?_map, hi, ← e]; rfl
    have h2 : (rows.map (·.al))[k]? = some r.al := by rw [List.getElem?_map, hr]; rfl
    have := nodup_idx ok.al h1 h2
    subst this
    rw [hi] at hr; cases hr
    exact hd h3
  unfold evF
  rw [findV_none uniq]
  have : chs.lookup r.al = none := by
    cases q : chs.lookup r.al with
    | none => rfl
    | some v =>
      obtain ⟨r', h1, h2, h4⟩ := hk _ (mem_of_lookup q)
      exact absurd h4 (uniq r' h1 h2)
  rw [C.none _ this]; rfl
theorem valV_rowV {F : Str → Option Sv} {k : Nat} {r : Row} (h : r.kd = 3 → F r.al = none) : valV F k r = rowV F k r := by
  have : valB F k r = baseV F k r := by
    unfold valB baseV
    by_cases h3 : r.kd = 3
    · rw [if_pos h3, h h3, if_neg (by rw [h3]; decide)]; rfl
    · rw [if_neg h3]
  unfold valV rowV
  rw [this]
section
variable {c : Cx} {g : Heap} {l : List (Str × Value)} {own : Own} {s : Shared} {A : Around} {E : Value → Shared → Prop} {w : World} {gp : Heap} {env : Env} {outer : List Env}
variable {x : Str} {px : Pos} {elt iter : Expr} {ifs : List Expr} {scope : Scope} {cl : List (Str × Addr)} {pos : Pos}
theorem lcBD {a : Nat} {kvs : List (Str × Value)} {RR : Value → Addr → Result → Shared → Prop} (hh : A.handled = none) (S : Sp w c g l own s) (hT : IsD w g a kvs)
    (hcell : ∀ y ∈ scope.names, y.2 ≠ .cell) (hkind : scope.kind = .function) (hx : ∀ C, (compEnvC scope cl C env).kindOf x = some .local) (hif : ifs.length ≤ 1) (hn : kvs.length ≤ sizeLine)
    (Inv : Nat → List Value → Heap → Own → Prop) (i0 : Inv 0 [] g own)
    (turn : ∀ C D k its z u t ys g' l' own' s' E', kvs[k]? = some (z, u) → ys.length ≤ k → Ext g g' → Inv k ys g' own' → Sp w ⟨c.s0, c.gp, C⟩ g' ((x, .str z t) :: l') ((c.L, NsP l) :: (D, ListP ys) :: own' ++ itO its) s' →
      turnQ (MD w) A ifs elt (compEnvC scope cl C env) (fun y s'' => ∃ g'' l'' own'', Ext g' g'' ∧ Inv (k + 1) (ys ++ [y]) g'' own'' ∧ Sp w ⟨c.s0, c.gp, C⟩ g'' l'' ((c.L, NsP l) :: (D, ListP ys) :: own'' ++ itO its) s'')
        (fun s'' => ∃ g'' l'' own'', Ext g' g'' ∧ Inv (k + 1) ys g'' own'' ∧ Sp w ⟨c.s0, c.gp, C⟩ g'' l'' ((c.L, NsP l) :: (D, ListP ys) :: own'' ++ itO its) s'') E' s')
    (fin : ∀ C lC D ys g' own' s', Ext g g' → Inv kvs.length ys g' own' → Sp w c g' l ((D, ListP ys) :: own' ++ [(C, NsP lC)]) s' → RR (.ref D) C (.ok .next) s') :
    wpAny (MD w) A (pyIter (.ref a)) (fun it s₂ => wpAny (MD w) A (newList []) (fun acc s₃ => wpAny (MD w) A (newFunctionEnv scope env.globals cl [] env.qual none .none (some env)) (fun cenv s₄ =>
      codeAny (MD w) A (.compStart (.ListComp elt [⟨.Name x px, iter, ifs, 0⟩] scope pos) 0 it acc { cenv with scope := relabel scope env }) (RR acc cenv.locals) s₄) E s₃) E s₂) E s :=
  it_D hh S hT fun I fp wr Md St its s1 T a S1 st => compBlk (env := env) T a S1 st hcell hkind (fun C => asg1 (P1 := fun k v => ∃ z u t, kvs[k]? = some (z, u) ∧ v = .str z t) rfl (hx C) (by show ((relabel scope env).kind == .class || ((relabel scope env).kind == .module && _)) = false; unfold relabel; rw [hkind]; rfl)) hif hn Inv i0
    (fun C D k its b ys g' l' own' s' E' h1 h2 h3 h4 h5 h6 => by obtain ⟨v, rfl, z, u, t, hz, rfl⟩ := h5; exact turn C D k its z u t ys g' l' own' s' E' hz h2 h3 h4 h6) fin
theorem c_again {sb : Shared} {R TL C : Nat} {rvs tvs : List Value} {rows : List Row} {chs : List (Str × Value)} {f : Str → Option Sv} {σ : Nat → Row → Sv} (I : In w gp sb) (hr : A.depth < 600) (hh : A.handled = none) (hR : IsL gp R rvs) (hT : Two (RowAt gp) rvs rows) (ok : RowsOK rows) (hTL : IsL gp TL tvs) (hTv : Ix (fun i v r => SvAt gp v (σ i r)) tvs rows) (hC : IsD w gp C chs) (hkw : KwOk gp chs f) :
    Con w A (.ref 533) [.ref R, .ref TL, .ref C] [] gp sb (fun g r => (r = .none ∧ ∃ kv ∈ chs, ¬ Kn rows kv.1) ∨ ((∀ kv ∈ chs, Kn rows kv.1) ∧ ∃ (a : Nat) (vs : List Value), r = .ref a ∧ IsL g a vs ∧ Ix (fun i v r => SvAt g v (rowV (evF f σ rows) i r)) vs rows)) := by
  intro Q E h
  have hl := hT.length
  refine enterC (binds := [(("rows" : Str), .ref R), ("told", .ref TL), ("changes", .ref C)]) (lr := [(("changes" : Str), .ref C), ("told", .ref TL), ("rows", .ref R)]) (co := fun L => [(L + 1, CellP none)]) I (Nat.lt_trans hr (by decide)) (by k_is) (by k_is) (.of_eq (by kernel_rfl)) (fun L x hx => .inl ?_) (fun L => by exact (show (["given"] : List Str).Nodup by decide)) (by kernel_rfl) (fun L => by kernel_rfl) (fun L s1 S => ?_) rfl rfl rfl
  · simp only [List.mem_cons, List.not_mem_nil, or_false] at hx
    rcases hx with rfl | rfl | rfl <;> kernel_rfl
  walk_at "z"
  walk_at "z"
  refine newD S fun s G S => ?_
  refine snC S (i := 1) rfl (by kernel_rfl) fun s S => ?_
  have S : Sp w ⟨sb, gp, L⟩ gp _ [(G, DictO w []), (L + 1, CellP (some (.ref G)))] s := S
  have S := S.perm (own' := [(L + 1, CellP (some (.ref G))), (G, DictO w [])]) (fun p hp => by
    simp only [List.mem_cons, List.not_mem_nil, or_false] at hp ⊢
    exact hp.symm) (by
    have := S.nd
    simp only [List.map_cons, List.map_nil, List.nodup_cons, List.mem_cons, List.not_mem_nil, or_false, not_false_eq_true, List.nodup_nil, and_true] at this ⊢
    exact fun z => this z.symm)
  obtain ⟨g1, oc, e1, hc, hcP, S⟩ := S.frz1
  walk_at "zz"
  refine for_E hh S (hR.mono e1) (fun k g' l' own' => l' = [(("changes" : Str), .ref C), ("told", .ref TL), ("rows", .ref R)] ∧ ∃ gk, own' = [(G, DictO w gk)] ∧ HG g' σ rows k gk) ⟨rfl, [], rfl, ⟨fun i r h => absurd h (Nat.not_lt_zero _), fun x _ => rfl, Nat.le_refl _⟩⟩ (fun k v tq its g2 l' own' s hv e2 iv S => ?_) (fun g2 l' own' s e2 iv S => ?_)
  · obtain ⟨rfl, gk, rfl, hG⟩ := iv
    obtain ⟨r, hr', a, t1, t2, t3, rfl, hta⟩ := hT.get' hv
    have e12 := e1.trans e2
    have hta2 := hta.mono e12
    have hG := hG
    walk_at "zz"
    refine stT (hta2.mono S.ge) (by decide) (by decide) rfl ?_
    walk_at "zz"
    refine iLt ?_
    obtain ⟨ki, hki⟩ := ok.row r (List.mem_of_getElem? hr')
    have hk4 := hki.2.2.2
    by_cases hk3 : r.kd = 3
    · rw [show decide ((r.kd : Int) < 3) = false by rw [hk3]; rfl]
      walk_at "zz"
      refine ⟨g2, _, _, Ext.rfl', ⟨rfl, gk, rfl, hG.skip hr' hk3⟩, S.weakL (fun p hp => ?_)⟩
      simp only [List.mem_cons, List.not_mem_nil, or_false] at hp
      rcases hp with rfl | rfl | rfl <;> walk_at "lk"
    · rw [show decide ((r.kd : Int) < 3) = true from decide_eq_true (by omega)]
      walk_at "zz"
      obtain ⟨tv, htv, hts⟩ := hTv.get hr'
      refine stL ((hTL.mono e12).mono S.ge) (Int.natCast_nonneg k) (by have := (List.getElem?_eq_some_iff.mp hv).1; have := ok.len; omega) (by rw [Int.toNat_natCast]; exact htv) ?_
      refine nmG S ⟨oc, e2 _ _ hc, hcP⟩ (by kernel_rfl) ?_
      walk_at "zz"
      refine stT (hta2.mono S.ge) (by decide) (by decide) rfl ?_
      refine dSet (i := 0) S rfl (by rw [sizeLine_eq]; have := hG.len; have := (List.getElem?_eq_some_iff.mp hv).1; have := ok.len; omega) fun s S => ?_
      walk_at "zz"
      refine ⟨g2, _, _, Ext.rfl', ⟨rfl, _, rfl, hG.put ok hr' hk3 (hts.mono e12)⟩, S.weakL (fun p hp => ?_)⟩
      simp only [List.mem_cons, List.not_mem_nil, or_false] at hp
      rcases hp with rfl | rfl | rfl <;> walk_at "lk"
  obtain ⟨rfl, gk, rfl, hG⟩ := iv
  rw [hl] at hG
  walk_at "zz"
  have e12 := e1.trans e2
  refine lcomp (cl := [("given", L + 1)]) (by kernel_rfl) rfl (by decide) ?_
  walk_at "zz"
  refine lcBD (RR := fun acc C => compPost _ _ _ _ _ acc C) hh S (hC.mono e12) (by decide) rfl (fun C => by kernel_rfl) (by decide) (by rw [sizeLine_eq]; have := hkw.len; omega)
    (fun k ys g own => own = [(G, DictO w gk)] ∧ ys.length ≤ k ∧ (ys = [] ↔ ∀ kv ∈ chs.take k, Kn rows kv.1)) ⟨rfl, Nat.le_refl _, by simp⟩ (fun C2 D5 k its z u tq ys g3 l' own' s E' hz hyk e3 iv S => ?_) (fun C2 lC D5 ys g3 own' s e3 iv S => ?_)
  · obtain ⟨rfl, hyl, hy⟩ := iv
    refine turn1 ?_
    walk_at "zz"
    refine nmG S ⟨oc, (e2.trans e3) _ _ hc, hcP⟩ (by kernel_rfl) ?_
    refine dNin S (S.isD 2 rfl) fun s S => ?_
    have hzk := hG.kn z
    cases hq : (gk.lookup z).isSome with
    | true =>
      walk_at "zz"
      refine ⟨g3, _, _, Ext.rfl', ⟨rfl, Nat.le_succ_of_le hyl, ?_⟩, S⟩
      rw [take_snoc hz, hy]
      constructor
      · intro h kv hkv
        rcases List.mem_append.mp hkv with q | q
        · exact h kv q
        · rw [List.mem_singleton.mp q]; exact hzk.mp hq
      · intro h kv hkv; exact h kv (List.mem_append_left _ hkv)
    | false =>
      walk_at "zz"
      refine ⟨g3, _, _, Ext.rfl', ⟨rfl, by simp only [List.length_append, List.length_cons, List.length_nil]; omega, ?_⟩, S⟩
      rw [take_snoc hz]
      constructor
      · intro h; simp at h
      · intro h
        have := hzk.mpr (h (z, u) (by simp))
        rw [hq] at this; cases this
  obtain ⟨rfl, hyl, hy⟩ := iv
  rw [List.take_length] at hy
  refine lpost S fun s S => ?_
  obtain ⟨g4, e4, hYL, S⟩ := S.frzL
  refine tL S (hYL.mono S.ge) (by have := hkw.len; omega) fun s S => ?_
  have e14 := e12.trans (e3.trans e4)
  by_cases hys : ys = []
  · have hkn := hy.mp hys
    rw [show (!ys.isEmpty) = false by rw [hys]; rfl]
    walk_at "zz"
    refine nmG S ⟨oc, (e2.trans (e3.trans e4)) _ _ hc, hcP⟩ (by kernel_rfl) ?_
    refine mD (S.isD 0 rfl) PySem.F.slot_dict_update PySem.F.type_dict_update ?_
    walk_at "zz"
    have hCC := (hC.mono e14)
    obtain ⟨od0, hod0, hDO0⟩ := S.at 0 rfl
    have hnd : (gk.map (·.1)).Nodup := by obtain ⟨_, _, _, _, z⟩ := hDO0; exact z
    have hGC : @Ne Nat G C := by
      have gG := (S.ow _ (List.Mem.head _)).2.1
      obtain ⟨⟨oC, hoC, _⟩, _⟩ := hCC
      intro z; subst z; rw [hoC] at gG; cases gG
    refine dUpd (i := 0) S rfl (hCC.mono S.ge) hGC (by have := hG.len; have := ok.len; have := hkw.len; omega) fun s S => ?_
    walk_at "zz"
    refine nmG S ⟨oc, (e2.trans (e3.trans e4)) _ _ hc, hcP⟩ (by kernel_rfl) ?_
    obtain ⟨g5, e5, hGG, S⟩ := S.frzD
    have e15 := e14.trans e5
    obtain ⟨hv1, hv2⟩ := (hG.mono (e3.trans (e4.trans e5))).val ok (hkw.mono e15) hnd
    walk_at "zz"
    refine use S (c_values S.inn (by show A.depth + 1 < 700; omega) hh (hR.mono e15) (hT.imp fun a b q => q.mono e15) ok.len hGG hv1 hv2) fun v s g6 e6 hv S => ?_
    obtain ⟨a, vs, rfl, ha, hvs⟩ := hv
    walk_at "zz"
    refine S.fin h fun gq e' => .inr ⟨hkn, a, vs, rfl, ha.mono e', hvs.1, fun i v r h1 h2 => ?_⟩
    have q := (hvs.2 i v r h1 h2).mono e'
    rw [valV_rowV (fun h3 => evF_three (σ := σ) ok hkw hkn h2 h3)] at q
    exact q
  · rw [show (!ys.isEmpty) = true by cases ys with | nil => exact absurd rfl hys | cons y ys => rfl]
    walk_at "zz"
    refine S.fin h fun gq e' => .inl ⟨rfl, ?_⟩
    apply Classical.byContradiction
    intro z
    exact hys (hy.mpr fun kv hkv => Classical.byContradiction fun q => z ⟨kv, hkv, q⟩)
end
def fOf (kvs : List (Str × Value)) (x : Str) : Option Sv := match kvs.lookup x with
  | some (.int n _) => some (.i n)
  | _ => none
theorem kwOk_ints {g : Heap} {kvs : List (Str × Value)} (nd : (kvs.map (·.1)).Nodup) (len : kvs.length ≤ 20) (rep : ∀ kv ∈ kvs, (reprText kv.1).length ≤ 1000) (ns : ∀ kv ∈ kvs, (kv.1 == ("self" : Str)) = false) (hi : ∀ kv ∈ kvs, ∃ n t, kv.2 = .int n t) : KwOk g kvs (fOf kvs) := by
  refine ⟨nd, len, rep, ns, fun x v h => ?_, fun x h => ?_⟩
  · obtain ⟨n, t, e⟩ := hi _ (mem_of_lookup h)
    dsimp only at e
    subst e
    exact ⟨.i n, by unfold fOf; rw [h], t, rfl⟩
  · unfold fOf; rw [h]
theorem fOf_dep {kvs : List (Str × Value)} {x : Str} {sv : Sv} (h : fOf kvs x = some sv) : sv.dep = 0 := by
  unfold fOf at h
  split at h
  · cases h; rfl
  · cases h
theorem rowV_dep {F : Str → Option Sv} {n : Nat} (h : ∀ x sv, F x = some sv → sv.dep ≤ n) (k : Nat) (r : Row) : (rowV F k r).dep ≤ n + 1 := by
  have hb : (baseV F k r).dep ≤ n := by
    unfold baseV
    split
    · exact Nat.zero_le _
    · cases q : F r.al with
      | some sv => exact h _ _ q
      | none =>
        show Sv.dep (if r.kd = 2 then .one k else .i (50 + k)) ≤ n
        split <;> exact Nat.zero_le _
  unfold rowV
  split
  · exact Nat.succ_le_succ hb
  · exact Nat.le_succ_of_le hb
theorem findV_dep {σ : Nat → Row → Sv} {n : Nat} (h : ∀ i r, (σ i r).dep ≤ n) {x : Str} : ∀ {rs : List Row} {i : Nat} {sv : Sv}, findV σ x i rs = some sv → sv.dep ≤ n
  | [], _, _, q => by cases q
  | r :: rs, i, sv, q => by
    unfold findV at q
    split at q
    · cases q; exact h i r
    · exact findV_dep h q
theorem evF_dep {f : Str → Option Sv} {σ : Nat → Row → Sv} {rows : List Row} {n : Nat} (hf : ∀ x sv, f x = some sv → sv.dep ≤ n) (h : ∀ i r, (σ i r).dep ≤ n) (x : Str) (sv : Sv) (q : evF f σ rows x = some sv) : sv.dep ≤ n := by
  unfold evF at q
  cases hq : f x with
  | some u => rw [hq] at q; cases q; exact hf _ _ hq
  | none => rw [hq] at q; exact findV_dep h q
theorem MadeAt.cong {w : World} {g : Heap} {m x : Nat} {rows : List Row} {σ σ' : Nat → Row → Sv} (h : MadeAt w g m x rows σ) (e : ∀ k r, rows[k]? = some r → σ k r = σ' k r) : MadeAt w g m x rows σ' := by
  obtain ⟨D, hkv, a, b, c⟩ := h
  exact ⟨D, hkv, a, b, c.1, fun i kv r h1 h2 => ⟨(c.2 i kv r h1 h2).1, (e i r h2) ▸ (c.2 i kv r h1 h2).2⟩⟩
theorem rowV_same {σ : Nat → Row → Sv} {rows : List Row} {f : Str → Option Sv} (ok : RowsOK rows) (hf : ∀ x, f x = none) (hc : ∀ r ∈ rows, r.cv = false) (h3 : ∀ k r, rows[k]? = some r → r.kd = 3 → σ k r = .i (50 + k)) (k : Nat) (r : Row) (hr : rows[k]? = some r) : rowV (evF f σ rows) k r = σ k r := by
  unfold rowV
  rw [if_neg (by rw [hc r (List.mem_of_getElem? hr)]; decide)]
  unfold baseV
  by_cases q : r.kd = 3
  · rw [if_pos q, h3 k r hr q]
  · rw [if_neg q, evF_row ok hr q, hf]; rfl
theorem rowV_twice {σ : Nat → Row → Sv} {rows : List Row} {na : Str} {i j : Int} {t u : Tok} (ok : RowsOK rows) (hc : ∀ r ∈ rows, r.cv = false) (k : Nat) (r : Row) (hr : rows[k]? = some r) :
    rowV (evF (fOf [(na, .int j u)]) (rowV (evF (fOf [(na, .int i t)]) σ rows)) rows) k r = rowV (evF (fOf [(na, .int j u)]) σ rows) k r := by
  have hcv := hc r (List.mem_of_getElem? hr)
  by_cases q : r.kd = 3
  · unfold rowV baseV
    rw [if_pos q, if_pos q]
  · have e1 : ∀ (F : Str → Option Sv), F r.al = none ∨ True → rowV F k r = (F r.al).getD (if r.kd = 2 then .one k else .i (50 + k)) := fun F _ => by
      unfold rowV baseV
      rw [if_neg (by rw [hcv]; decide), if_neg q]
    rw [e1 _ (.inr trivial), e1 _ (.inr trivial), evF_row ok hr q, evF_row ok hr q]
    by_cases hna : r.al = na
    · have : fOf [(na, .int j u)] r.al = some (.i j) := by unfold fOf; rw [hna]; simp
      rw [this]; rfl
    · have hb : (r.al == na) = false := by simpa using hna
      have n1 : ∀ (z : Int) (y : Tok), fOf [(na, .int z y)] r.al = none := fun z y => by unfold fOf; rw [List.lookup_cons, hb]; rfl
      rw [n1, Option.getD_none, Option.getD_none, e1 _ (.inr trivial), evF_row ok hr q, n1]; rfl
theorem letter_inj {i j : Nat} (h : letter i = letter j) : i = j := by
  unfold letter at h
  injection h with h
  have : (97 + i) = (97 + j) := by simpa using h
  omega
theorem rows_al {rows0 : List Row} (h : ∀ i r, rows0[i]? = some r → RowK i r) : (rows0.map (·.al)).Nodup := by
  rw [List.nodup_iff_pairwise_ne, List.pairwise_iff_getElem]
  intro i j hi hj hij e
  simp only [List.length_map] at hi hj
  simp only [List.getElem_map] at e
  have h1 := (h i _ (List.getElem?_eq_getElem hi)).2.1
  have h2 := (h j _ (List.getElem?_eq_getElem hj)).2.1
  rw [h1, h2] at e
  have := letter_inj e
  omega
def sorted (rows0 : List Row) : List Row := rows0.filter (fun r => decide (r.kd = 0)) ++ rows0.filter (fun r => decide (0 < r.kd))
theorem sorted_perm (rows0 : List Row) : (sorted rows0).Perm rows0 := by
  have e : (fun r : Row => decide (0 < r.kd)) = fun r => !decide (r.kd = 0) := by
    funext r
    by_cases h : r.kd = 0
    · simp [h]
    · have : 0 < r.kd := Nat.pos_of_ne_zero h
      simp [h, this]
  unfold sorted
  rw [e]
  exact List.filter_append_perm _ _
theorem sorted_ok {rows0 : List Row} (h : ∀ i r, rows0[i]? = some r → RowK i r) (hl : rows0.length ≤ 5) : RowsOK (sorted rows0) := by
  have P := sorted_perm rows0
  have hrow : ∀ r ∈ sorted rows0, ∃ i, RowK i r := fun r hr => by
    obtain ⟨i, hi⟩ := List.getElem?_of_mem (P.mem_iff.mp hr)
    exact ⟨i, h i r hi⟩
  have hal : ((sorted rows0).map (·.al)).Nodup := (P.map _).nodup_iff.mpr (rows_al h)
  refine ⟨by rw [P.length_eq]; exact hl, hrow, hal, ?_, ?_⟩
  · have e : ∀ (rs : List Row), (∀ r ∈ rs, ∃ i, RowK i r) → (rs.map (·.na)).map (fun n => Txt.lstripChars n "_") = rs.map (·.al) := by
      intro rs hrs
      rw [List.map_map]
      refine List.map_congr_left fun r hr => ?_
      obtain ⟨i, hi⟩ := hrs r hr
      exact hi.strip.1
    have := hal
    rw [← e _ hrow] at this
    exact List.Pairwise.of_map _ (fun a b h e => h (by rw [e])) this
  · intro i j ri rj hij hi hj hk
    unfold sorted at hi hj
    rw [List.getElem?_append] at hi hj
    split at hj
    · rename_i hjl
      rw [if_pos (by omega)] at hi
      have := List.mem_of_getElem? hi
      rw [List.mem_filter] at this
      exact of_decide_eq_true this.2
    · have := List.mem_of_getElem? hj
      rw [List.mem_filter] at this
      have := of_decide_eq_true this.2
      omega
structure HZ (rows : List Row) (k : Nat) (gk : List (Str × Value)) : Prop where
  row : ∀ i r, i < k → rows[i]? = some r → r.kd = 0 → (gk.lookup r.al).isSome = true
  keys : ∀ kv ∈ gk, (∃ r ∈ rows, r.kd = 0 ∧ r.al = kv.1) ∧ ∃ n t, kv.2 = .int n t
  len : gk.length ≤ k
theorem HZ.skip {gk : List (Str × Value)} {rows : List Row} {k : Nat} {r : Row} (H : HZ rows k gk) (hr : rows[k]? = some r) (h3 : r.kd ≠ 0) : HZ rows (k + 1) gk := by
  refine ⟨fun i r' hi hr' hd => ?_, H.keys, by have := H.len; omega⟩
  rcases Nat.lt_or_eq_of_le (Nat.le_of_lt_succ hi) with hi | rfl
  · exact H.row i r' hi hr' hd
  · rw [hr] at hr'; cases hr'; exact absurd hd h3
theorem put_mem {x : Str} {v : Value} : ∀ {kvs : List (Str × Value)} {kv : Str × Value}, kv ∈ put x v kvs → kv = (x, v) ∨ kv ∈ kvs
  | [], kv, h => .inl (by simpa [put] using h)
  | (y, u) :: r, kv, h => by
    unfold put at h
    split at h
    · rename_i q; subst q
      rcases List.mem_cons.mp h with h | h
      · exact .inl h
      · exact .inr (List.mem_cons_of_mem _ h)
    · rcases List.mem_cons.mp h with h | h
      · exact .inr (by rw [h]; exact List.Mem.head _)
      · rcases put_mem h with h | h
        · exact .inl h
        · exact .inr (List.mem_cons_of_mem _ h)
theorem HZ.put {gk : List (Str × Value)} {rows : List Row} {k : Nat} {r : Row} {n : Int} {t : Tok} (H : HZ rows k gk) (hr : rows[k]? = some r) (h0 : r.kd = 0) : HZ rows (k + 1) (Mine.put r.al (.int n t) gk) := by
  refine ⟨fun i r' hi hr' hd => ?_, fun kv hkv => ?_, by have := H.len; have := put_len r.al (.int n t) gk; omega⟩
  · rw [lookup_put]
    split
    · rfl
    · rcases Nat.lt_or_eq_of_le (Nat.le_of_lt_succ hi) with hi | rfl
      · exact H.row i r' hi hr' hd
      · rename_i q; rw [hr] at hr'; cases hr'; exact absurd rfl q
  · rcases put_mem hkv with h | h
    · rw [h]; exact ⟨⟨r, List.mem_of_getElem? hr, h0, rfl⟩, n, t, rfl⟩
    · exact H.keys kv h
theorem HZ.kw {g : Heap} {gk : List (Str × Value)} {rows : List Row} (H : HZ rows rows.length gk) (ok : RowsOK rows) (nd : (gk.map (·.1)).Nodup) : KwOk g gk (fOf gk) := by
  refine kwOk_ints nd (by have := H.len; have := ok.len; omega) (fun kv hkv => ?_) (fun kv hkv => ?_) fun kv hkv => (H.keys kv hkv).2
  · obtain ⟨⟨r, h1, _, h2⟩, _⟩ := H.keys kv hkv
    obtain ⟨i, hi⟩ := ok.row r h1
    rw [← h2]; exact (row_rep hi).1
  · obtain ⟨⟨r, h1, _, h2⟩, _⟩ := H.keys kv hkv
    obtain ⟨i, hi⟩ := ok.row r h1
    rw [← h2]; exact (row_rep hi).2
def lawNames : List Str := ["a", "b", "c", "d", "e", "zz", "_a"]
theorem lawNames_ok : ∀ x ∈ lawNames, (reprText x).length ≤ 1000 ∧ (x == ("self" : Str)) = false := by
  intro x hx
  simp only [lawNames, List.mem_cons, List.not_mem_nil, or_false] at hx
  rcases hx with rfl | rfl | rfl | rfl | rfl | rfl | rfl <;> exact ⟨Nat.le_of_ble_eq_true (by kernel_rfl), by kernel_rfl⟩
structure HC (k : Nat) (gk : List (Str × Value)) : Prop where
  keys : ∀ kv ∈ gk, kv.1 ∈ lawNames ∧ ∃ n t, kv.2 = .int n t
  len : gk.length ≤ k
theorem HC.put {gk : List (Str × Value)} {k : Nat} {x : Str} {n : Int} {t : Tok} (H : HC k gk) (hx : x ∈ lawNames) : HC (k + 1) (Mine.put x (.int n t) gk) := by
  refine ⟨fun kv hkv => ?_, by have := H.len; have := put_len x (.int n t) gk; omega⟩
  rcases put_mem hkv with h | h
  · rw [h]; exact ⟨hx, n, t, rfl⟩
  · exact H.keys kv h
theorem HC.kw {g : Heap} {gk : List (Str × Value)} {k : Nat} (H : HC k gk) (hk : k ≤ 10) (nd : (gk.map (·.1)).Nodup) : KwOk g gk (fOf gk) :=
  kwOk_ints nd (by have := H.len; omega) (fun kv hkv => (lawNames_ok _ (H.keys kv hkv).1).1) (fun kv hkv => (lawNames_ok _ (H.keys kv hkv).1).2) fun kv hkv => (H.keys kv hkv).2
theorem kw_one {g : Heap} {x : Str} {n : Int} {t : Tok} (hx : x ∈ lawNames) : KwOk g [(x, .int n t)] (fOf [(x, .int n t)]) :=
  kwOk_ints (by simp) (by simp) (fun kv hkv => by rw [List.mem_singleton.mp hkv]; exact (lawNames_ok _ hx).1) (fun kv hkv => by rw [List.mem_singleton.mp hkv]; exact (lawNames_ok _ hx).2) fun kv hkv => by rw [List.mem_singleton.mp hkv]; exact ⟨n, t, rfl⟩
theorem kw_nil {g : Heap} : KwOk g [] (fOf []) := kwOk_ints .nil (Nat.zero_le _) (fun _ h => nomatch h) (fun _ h => nomatch h) fun _ h => nomatch h
theorem fmod7 (n : Int) : 0 ≤ n.fmod 7 ∧ n.fmod 7 < 7 := ⟨Int.fmod_nonneg_of_pos n (by decide), Int.fmod_lt_of_pos n (by decide)⟩
theorem fmod4 (n : Int) : 0 ≤ n.fmod 4 ∧ n.fmod 4 < 4 := ⟨Int.fmod_nonneg_of_pos n (by decide), Int.fmod_lt_of_pos n (by decide)⟩
theorem fmod5 (n : Int) : 0 ≤ n.fmod 5 ∧ n.fmod 5 < 5 := ⟨Int.fmod_nonneg_of_pos n (by decide), Int.fmod_lt_of_pos n (by decide)⟩
theorem pow7 {k : Nat} (h : k < 4) : (7 : Int) ^ k ≠ 0 ∧ ((7 : Int) ^ k).natAbs < 1073741824 := by
  match k, h with
  | 0, _ => exact ⟨by decide, by decide⟩
  | 1, _ => exact ⟨by decide, by decide⟩
  | 2, _ => exact ⟨by decide, by decide⟩
  | 3, _ => exact ⟨by decide, by decide⟩
theorem get538 (w : World) : ∃ o, (K w).lookup 533 = some o := by
  have e : ((K w).lookup 533).isSome = true := by kernel_rfl
  exact Option.isSome_iff_exists.mp e
theorem law_start {w : World} {s1 : Shared} {gh h1 : Heap} {mg mb : Str → Option Value} {m : Str → Option Value} {tk : Nat} {l : List (Str × Value)} (hgh : ∀ (b : Nat) o, gh.get? b = some o → s1.heap.get? b = some o)
    (hne : ∀ (b : Nat) o, b ∉ [502, 447, 245] → s1.heap.get? b = some o → gh.get? b = some o)
    (X : (K w).In gh) (Tg : gh.Ns mainGlobals mg) (Tb : gh.Ns builtinsNs mb) (Tbb : ∀ x : Str, x ≠ "__name__" → mb x = bootBuiltins x) (bm : ∃ bm ob, mg "__builtins__" = some (.ref bm) ∧ bm ≠ builtinsNs ∧ gh.get? bm = some ob ∧ ob.cls = .type "module" ∧ ob.dict = some builtinsNs ∧ ob.data = .plain)
    (c1 : CodeHd gh 506 502) (c2 : CodeHd gh 249 245) (hT8 : ∀ P : Addr, P ∈ [502, 447, 245] → s1.heap.get? P = some (tabObj #[])) (F : Fr gh s1.heap.objs.size h1 m) (N : ∀ P : Addr, P ∈ [502, 447, 245] → h1.get? P = some (tabObj #[])) (hm : ∀ x v, l.lookup x = some v → m x = some v) :
    ∃ gp, In w gp s1 ∧ 510 < s1.heap.objs.size ∧ (∀ (b : Nat) o, s1.heap.get? b = some o → b ≠ 245 → b ≠ 502 → gp.get? b = some o) ∧ Sp w ⟨s1, gp, s1.heap.objs.size⟩ gp l [] { heap := h1, gens := s1.gens, drawn := s1.drawn, toks := tk, os := s1.os } := by
  have Xs : (K w).In s1.heap := fun a o e => hgh a o (X a o e)
  let gp := sel s1.heap fun b => b != 245 && b != 502
  have ga : ∀ (b : Nat), gp.get? b = if (b != 245 && b != 502) = true then s1.heap.get? b else none := sel_get _ _
  have g1 : ∀ (b : Nat) o, s1.heap.get? b = some o → b ≠ 245 → b ≠ 502 → gp.get? b = some o := fun b o e h1 h2 => by rw [ga]; simp [h1, h2, e]
  have g2 : ∀ (b : Nat) o, gp.get? b = some o → s1.heap.get? b = some o := fun b o e => by
    rw [ga] at e
    split at e
    · exact e
    · cases e
  have low : 510 < s1.heap.objs.size := by
    obtain ⟨o, h⟩ := get538 w
    have : (533 : Nat) < s1.heap.objs.size := Heap.lt_size (Xs _ _ h)
    omega
  have kgp : (K w).In gp := fun a o e => g1 a o (Xs a o e) (by rintro rfl; rw [k_not1] at e; cases e) (by rintro rfl; rw [k_not2] at e; cases e)
  have n1 : gp.get? 245 = none := by rw [ga]; rfl
  have n2 : gp.get? 502 = none := by rw [ga]; rfl
  have hq : nsIn (hd.heap_39 w.params) mainGlobals "__builtins__" = some (some (.ref 4)) := by k_is
  have hb4 : mg "__builtins__" = some (.ref 4) := mg_of X Tg hq
  have G : Glob w s1.heap := by
    refine ⟨Xs, ⟨mb, Tb.keeps hgh, Tbb⟩, c2.keeps hgh, c1.keeps hgh, ?_⟩
    obtain ⟨bmA, ob, h1, h2, h3, h4⟩ := bm
    rw [hb4] at h1; cases h1
    exact ⟨ob, hgh _ _ h3, h4⟩
  have I : In w gp s1 := ⟨G, ⟨⟨#[], hT8 245 (by simp), .inl rfl⟩, ⟨#[], hT8 502 (by simp), .inl rfl⟩⟩, g2, n1, n2, by omega, kgp⟩
  have hk : ∀ (b : Nat) o, s1.heap.get? b = some o → h1.get? b = some o := fun b o e => by
    by_cases hb : b ∈ [502, 447, 245]
    · have := hT8 b hb
      rw [this] at e; cases e
      exact N b hb
    · exact F.keep b o (hne b o hb e)
  exact ⟨gp, I, low, g1, start (I := I) (s1 := { heap := h1, gens := s1.gens, drawn := s1.drawn, toks := tk, os := s1.os }) F.ns hk (Nat.le_refl _) rfl rfl hm [] (fun _ hp => nomatch hp) .nil⟩
theorem ints_two {vs : List Value} {ns : List Int} (h : IntsAre vs ns) : Two IntAt vs ns := by
  induction h with
  | nil => exact .nil
  | cons n t _ ih => exact .cons ⟨t, rfl⟩ ih
theorem two_ints {vs : List Value} {ns : List Int} (h : Two IntAt vs ns) : IntsAre vs ns := by
  induction h with
  | nil => exact .nil
  | cons r _ ih => obtain ⟨t, rfl⟩ := r; exact .cons _ _ ih
theorem two_app {α β : Type} {R : α → β → Prop} {as as' : List α} {bs bs' : List β} (h : Two R as bs) (h' : Two R as' bs') : Two R (as ++ as') (bs ++ bs') := by
  induction h with
  | nil => exact h'
  | cons r _ ih => exact .cons r ih
section
variable {c : Cx} {g : Heap} {l : List (Str × Value)} {own : Own} {s : Shared} {A : Around} {E : Value → Shared → Prop} {w : World} {gp : Heap} {env : Env} {outer : List Env}
theorem evFn (w : World) : ∃ o fd, (hd.heap_39 w.params).lookup 104 = some o ∧ o.data = .func fd := by
  refine ⟨⟨_, _, .func (fnOf _ _ _ _ _ _ _ _ _ _ _ _), _⟩, _, by k_is, rfl⟩
theorem c_calledE {sb : Shared} {m x V N : Nat} {chs : List (Str × Value)} {rows : List Row} {f : Str → Option Sv} {σ : Nat → Row → Sv} (I : In w gp sb) (hr : A.depth < 500) (hh : A.handled = none) (O : Out A gp sb.heap outer) (hK : KindAt w gp (.ref x) rows) (hM : MadeAt w gp m x rows σ) (ok : RowsOK rows) (hV : IsL gp V [.ref m]) (hN : IsD w gp N chs) (hkw : KwOk gp chs f) (hcl : chs.length ≤ 10) :
    ConX w A (.ref 459) [.ref 104, .ref V, .ref N] [] gp sb outer (fun g r => ∃ m2 : Nat, r = .ref m2 ∧ (∀ kv ∈ chs, Kn rows kv.1) ∧ MadeAt w g m2 x rows (rowV (evF f σ rows))) (∃ kv ∈ chs, ¬ Kn rows kv.1) := by
  obtain ⟨o, fd, h1, h2⟩ := evFn w
  exact c_called I hr hh O hV (by simp) hN (by omega) (keepF (I.kg _ _ h1) h2) (fun I hr hh O' => c_evolve I hr hh O' hK hM ok hkw hcl) (fun {g g' v} e h => by obtain ⟨m, rfl, h1, h2⟩ := h; exact ⟨m, rfl, h1, h2.mono e⟩)
theorem eqM {m1 m2 x : Nat} {rows : List Row} {σ : Nat → Row → Sv} {Q : Value → Shared → Prop} (S : Sp w c g l own s) (hr : A.depth < 700) (hh : A.handled = none) (hu : A.units < 8000) (hK : KindAt w g (.ref x) rows) (h1 : MadeAt w g m1 x rows σ) (h2 : MadeAt w g m2 x rows σ) (ok : RowsOK rows) (hdp : ∀ i r, rows[i]? = some r → (σ i r).dep ≤ 8)
    (h : ∀ s' g', Ext g g' → Sp w c g' l own s' → Q (.bool true) s') : wpAny (MD w) A (compareOp .Eq (.ref m1) (.ref m2)) Q E s := by
  obtain ⟨D1, k1, i1, _⟩ := id h1
  obtain ⟨D2, k2, i2, _⟩ := id h2
  refine eqI S (by omega) (i1.mono S.ge) (i2.mono S.ge) (f := 182) (by k_is) (by k_is) ?_
  refine use S (c_eq S.inn hr hh hu hK h1 h2 ok hdp) fun v s' g' e hv S' => ?_
  subst hv
  exact h _ _ e S'
end
set_option maxHeartbeats 0
theorem lawH : PySem.Challenge.rw_vc0011_01.Holds := by
  refine Mine.hd ?_
  k_go0
  rename_i w s0 s1 mg mb G Y fa o pm cd doc kV ho hcd hg X V T B TE TW ns hs hlay hLa hra hl2 wA wB wC wD wE hL ra w1 r0 hI hr hc1 hc2 hD h1 X' T' K' F' ch1 ch2 N' l0
  obtain ⟨gp, In0, low, hgp, S0⟩ := law_start (w := w) (s1 := s1) (gh := ghostOf s1.heap [(506, 502), (451, 447), (249, 245)]) (h1 := h1) (l := [(("script" : Str), .ref wC)]) (tk := s1.toks + 1) (fun b o e => of_hideAll _ e) (fun b o hb e => ghost_ne (tabs := [(506, 502), (451, 447), (249, 245)]) e hb) X' T'.g T'.b T'.builtins T'.bmain ch1 codeHd hT8 F' (fun P hP => by
    simp only [List.mem_cons, List.not_mem_nil, or_false] at hP
    rcases hP with rfl | rfl | rfl
    · exact (N' (502, tabObj #[]) (by simp)).1
    · exact (N' (447, tabObj #[]) (by simp)).1
    · exact (N' (245, tabObj #[]) (by simp)).1) (fun x v e => e)
  have hSc : gp.IsList wC wD.toArray := hL.at fun o e => hgp _ o e (fun z => by subst z; rw [hT8 245 (by simp)] at e; cases e; obtain ⟨o, q1, q2, _⟩ := hL; rw [hT8 245 (by simp)] at q1; cases q1; cases q2) (fun z => by subst z; rw [hT8 502 (by simp)] at e; cases e; obtain ⟨o, q1, q2, _⟩ := hL; rw [hT8 502 (by simp)] at q1; cases q1; cases q2)
  have hlen : ns.length ≤ 63 := by omega
  refine wpAny_mono (Q := retQ fun v s' => v = .bool true ∧ ∃ g l own, Sp w ⟨s1, gp, s1.heap.objs.size⟩ g l own s') (E := fun _ _ => False) ?_ (fun f s' hq => ?_) (fun e s' he => he.elim)
  · have O : Out callerA gp s1.heap [] := ⟨rfl, (fun _ h => nomatch h), low⟩
    clear X' T' K' F' ch1 ch2 N' l0 hD hr r0 w1 ra hlay hLa hra hl2 hT9 TW TE B T V X hcd ho G Y hs lifted codeHd hT8 hg hc1 hc2 hL hgp In0
    show wpAny (MD w) _ _ _ _ _
    dsimp only
    have hwl : wD.length ≤ 63 := by rw [hI.length]; exact hlen
    generalize hL0 : s1.heap.objs.size = L at *
    refine sq (wpAny_mono (Q := fun fl s' => fl = .next ∧ ∃ (g : Heap) (NB : Nat) (nvs : List Value) (nums : List Int), Sp w ⟨s1, gp, L⟩ g [(("numbers" : Str), .ref NB)] [] s' ∧ IsL g NB nvs ∧ Two IntAt nvs nums ∧ 5 ≤ nums.length ∧ nums.length ≤ 8) ?_ (fun fl s' hm => ?_) fun _ _ e => e)
    · have S := S0
      clear S0
      walk_at "zz"
      refine slc ?_
      refine wpAny_evalPart_none ?_
      refine wpAny_evalPart_some ?_
      walk_at "zz"
      refine ⟨_, _, _, _, S, fun s sl S hsl => ?_⟩
      refine stLs' S (hSc.at fun o e => S.ge _ o (S.gp _ o e)) hsl .none (.int _ _) (by omega) fun s b1 S => ?_
      have hI1 : IntsAre (slicePick wD.toArray none (some 8) none).toList (ns.take 8) := kmk_upto hI (by decide)
      generalize (slicePick wD.toArray none (some 8) none).toList = v1 at *
      obtain ⟨g1, e1, hb1, S⟩ := S.frzL
      walk_at "zz"
      refine newLf S (Nat.le_of_ble_eq_true rfl) fun s b2 g2 e2 hb2 S => ?_
      obtain ⟨v2, hb2, hI2⟩ : ∃ v2, IsL g2 b2 v2 ∧ IntsAre v2 [1, 5, 13, 26, 39] := ⟨_, hb2, .cons 1 _ (.cons 5 _ (.cons 13 _ (.cons 26 _ (.cons 39 _ .nil))))⟩
      have hl2 : v2.length = 5 := hI2.length
      refine slc ?_
      refine wpAny_evalPart_some ?_
      walk_at "zz"
      refine lenL' S (hSc.at fun o e => S.ge _ o (S.gp _ o e)) (by omega) fun s t S => ?_
      refine wpAny_evalPart_none ?_
      refine ⟨_, _, _, _, S, fun s sl S hsl => ?_⟩
      refine stLs' S ((hb2.mono S.ge).list) hsl (.int _ _) .none (by omega) fun s b3 S => ?_
      have hI3 := kmk_from (x := (wD.length : Int)) hI2 (Int.natCast_nonneg _)
      rw [Int.toNat_natCast, hI.length] at hI3
      rw [hI.length] at S
      generalize (slicePick v2.toArray (some (ns.length : Int)) none none).toList = v3 at *
      obtain ⟨g3, e3, hb3, S⟩ := S.frzL
      have hN := two_app (ints_two hI1) (ints_two hI3)
      generalize hnums : ns.take 8 ++ [1, 5, 13, 26, 39].drop ns.length = nums at *
      have hn5 : 5 ≤ nums.length ∧ nums.length ≤ 8 := by
        rw [← hnums, List.length_append, List.length_take, List.length_drop]
        simp only [List.length_cons, List.length_nil]
        omega
      have hvl := hN.length
      rw [List.length_append] at hvl
      refine addL S ((hb1.mono (e2.trans e3)).mono S.ge) (hb3.mono S.ge) (by omega) fun s NB S => ?_
      generalize v1 ++ v3 = nvs at *
      obtain ⟨g4, e4, hNB, S⟩ := S.frzL
      walk_at "z"
      exact ⟨rfl, g4, NB, nvs, nums, S.weakL (fun p hp => by
        simp only [List.mem_cons, List.not_mem_nil, or_false] at hp
        rcases hp with rfl; walk_at "lk"), hNB, hN, hn5⟩
    clear S0 hSc hI hlen hwl
    obtain ⟨rfl, g1, NB, nvs, nums, S0, hNB, hN, hn5⟩ := hm
    refine sq_next ?_
    refine sq (wpAny_mono (Q := fun fl s' => fl = .next ∧ ∃ (g : Heap) (R0 : Nat) (rv0 : List Value) (rows0 : List Row), Ext g1 g ∧ Sp w ⟨s1, gp, L⟩ g [(("rows" : Str), .ref R0), (("numbers" : Str), .ref NB)] [] s' ∧ IsL g R0 rv0 ∧ Two (RowAt g) rv0 rows0 ∧ rows0.length ≤ 5 ∧ ∀ i r, rows0[i]? = some r → RowK i r) ?_ (fun fl s' hm => ?_) fun _ _ e => e)
    · have S := S0
      clear S0
      walk_at "zz"
      walk_at "lc"
      walk_at "zz"
      refine slc ?_
      refine wpAny_evalPart_some ?_
      walk_at "zz"
      refine wpAny_evalPart_some ?_
      walk_at "zz"
      obtain ⟨n0, hn0⟩ : ∃ n, nums[0]? = some n := ⟨nums[0], List.getElem?_eq_getElem (by omega)⟩
      obtain ⟨_, hv0, t0, rfl⟩ := hN.get hn0
      refine stL (hNB.mono S.ge) (by decide) (by decide) hv0 ?_
      walk_at "zz"
      refine ⟨_, _, _, _, S, fun s sl S hsl => ?_⟩
      refine stLs S (hNB.mono S.ge) hsl (.int _ _) (.int _ _) (by rw [hN.length]; omega) fun s b5 S => ?_
      have f5 := fmod5 n0
      have hI5 := kmk_run (x := 2) (y := 3 + n0.fmod 5) (two_ints hN) (by decide) (by omega)
      generalize (slicePick nvs.toArray (some 2) (some (3 + n0.fmod 5)) none).toList = v5 at *
      have hd5 : ((nums.drop (2 : Int).toNat).take (min (3 + n0.fmod 5).toNat nums.length - (2 : Int).toNat)).length ≤ 5 := by
        rw [List.length_take]
        have : (2 : Int).toNat = 2 := rfl
        omega
      generalize ((nums.drop (2 : Int).toNat).take (min (3 + n0.fmod 5).toNat nums.length - (2 : Int).toNat)) = ds0 at *
      obtain ⟨g5, e5, hb5, S⟩ := S.frzL
      have hN5 := ints_two hI5
      have hl5 := hN5.length
      refine lcB (fun Q => it_L rfl S hb5) (by decide) rfl (fun C => by kernel_rfl) (by decide) (by rw [sizeLine_eq]; omega) (fun k ys g own => own = [] ∧ Two IntAt ys ((ds0.take k).map (fun d => d.fmod 72))) ⟨rfl, .nil⟩ (fun C D5 k its v ys g6 l' own' s E' hv hyk e6 iv S => ?_) (fun C lC D5 ys g6 own' s e6 iv S => ?_)
      · obtain ⟨rfl, hy⟩ := iv
        obtain ⟨d, hd, tq, rfl⟩ := hN5.get' hv
        refine turn0 ?_
        walk_at "zz"
        refine ⟨g6, _, _, Ext.rfl', ⟨rfl, ?_⟩, S⟩
        rw [take_snoc hd, List.map_append]
        exact hy.snoc ⟨_, rfl⟩
      obtain ⟨rfl, hy⟩ := iv
      rw [hl5, List.take_length] at hy
      refine lpost S fun s S => ?_
      obtain ⟨g7, e7, hDL, S⟩ := S.frzL
      walk_at "zz"
      refine use S (c_rows S.inn (by show callerA.depth + 1 < 900; decide) rfl hDL hy (by rw [List.length_map]; exact hd5)) fun v s g8 e8 hv S => ?_
      obtain ⟨R0, rv0, rows0, rfl, hR0, hT0, hrl, hRK⟩ := hv
      rw [List.length_map] at hrl
      walk_at "z"
      exact ⟨rfl, g8, R0, rv0, rows0, e5.trans (e6.trans (e7.trans e8)), S, hR0, hT0, by omega, hRK⟩
    clear S0
    obtain ⟨rfl, g8, R0, rv0, rows0, e18, S0, hR0, hT0, hrl5, hRK⟩ := hm
    have hNB := hNB.mono e18
    clear e18
    refine sq_next ?_
    refine sq (wpAny_mono (Q := fun fl s' => fl = .next ∧ ∃ (g : Heap) (R : Nat) (rvs : List Value) (rows : List Row), Ext g8 g ∧ Sp w ⟨s1, gp, L⟩ g [(("rows" : Str), .ref R), (("numbers" : Str), .ref NB)] [] s' ∧ IsL g R rvs ∧ Two (RowAt g) rvs rows ∧ RowsOK rows) ?_ (fun fl s' hm => ?_) fun _ _ e => e)
    · have S := S0
      clear S0
      have hrvl := hT0.length
      walk_at "zz"
      walk_at "lc"
      walk_at "zz"
      refine lcB (fun Q => it_L rfl S hR0) (by decide) rfl (fun C => by kernel_rfl) (by decide) (by rw [sizeLine_eq]; omega) (fun k ys g own => own = [] ∧ Two (RowAt g8) ys ((rows0.take k).filter (fun r => decide (r.kd = 0)))) ⟨rfl, .nil⟩ (fun C D5 k its v ys g9 l' own' s E' hv hyk e9 iv S => ?_) (fun C lC D5 ys1 g9 own' s e9 iv S => ?_)
      · obtain ⟨rfl, hy⟩ := iv
        obtain ⟨r, hr', a, u1, u2, u3, rfl, hta⟩ := hT0.get' hv
        refine turn1 ?_
        walk_at "zz"
        refine stT ((hta.mono e9).mono S.ge) (by decide) (by decide) rfl ?_
        walk_at "zz"
        by_cases hk0 : r.kd = 0
        · rw [show ((r.kd : Int) == 0) = true by rw [hk0]; rfl]
          walk_at "zz"
          refine ⟨g9, _, _, Ext.rfl', ⟨rfl, ?_⟩, S⟩
          rw [take_snoc hr', List.filter_append]
          have : [r].filter (fun r => decide (r.kd = 0)) = [r] := by simp [hk0]
          rw [this]
          exact hy.snoc ⟨a, u1, u2, u3, rfl, hta⟩
        · rw [show ((r.kd : Int) == 0) = false by rw [beq_eq_false_iff_ne]; intro z; exact hk0 (by omega)]
          walk_at "zz"
          refine ⟨g9, _, _, Ext.rfl', ⟨rfl, ?_⟩, S⟩
          rw [take_snoc hr', List.filter_append]
          have : [r].filter (fun r => decide (r.kd = 0)) = [] := by simp [hk0]
          rw [this, List.append_nil]
          exact hy
      obtain ⟨rfl, hy1⟩ := iv
      rw [hrvl, List.take_length] at hy1
      refine lpost S fun s S => ?_
      obtain ⟨g10, e10, hY1, S⟩ := S.frzL
      walk_at "lc"
      walk_at "zz"
      have e810 := e9.trans e10
      refine lcB (fun Q => it_L rfl S (hR0.mono e810)) (by decide) rfl (fun C => by kernel_rfl) (by decide) (by rw [sizeLine_eq]; omega) (fun k ys g own => own = [] ∧ Two (RowAt g8) ys ((rows0.take k).filter (fun r => decide (0 < r.kd)))) ⟨rfl, .nil⟩ (fun C D5 k its v ys g11 l' own' s E' hv hyk e11 iv S => ?_) (fun C lC D5b ys2 g11 own' s e11 iv S => ?_)
      · obtain ⟨rfl, hy⟩ := iv
        obtain ⟨r, hr', a, u1, u2, u3, rfl, hta⟩ := hT0.get' hv
        refine turn1 ?_
        walk_at "zz"
        refine stT (((hta.mono e810).mono e11).mono S.ge) (by decide) (by decide) rfl ?_
        walk_at "zz"
        by_cases hk0 : 0 < r.kd
        · rw [show decide ((0 : Int) < (r.kd : Int)) = true from decide_eq_true (by omega)]
          walk_at "zz"
          refine ⟨g11, _, _, Ext.rfl', ⟨rfl, ?_⟩, S⟩
          rw [take_snoc hr', List.filter_append]
          have : [r].filter (fun r => decide (0 < r.kd)) = [r] := by simp [hk0]
          rw [this]
          exact hy.snoc ⟨a, u1, u2, u3, rfl, hta⟩
        · rw [show decide ((0 : Int) < (r.kd : Int)) = false from decide_eq_false (by omega)]
          walk_at "zz"
          refine ⟨g11, _, _, Ext.rfl', ⟨rfl, ?_⟩, S⟩
          rw [take_snoc hr', List.filter_append]
          have : [r].filter (fun r => decide (0 < r.kd)) = [] := by simp [hk0]
          rw [this, List.append_nil]
          exact hy
      obtain ⟨rfl, hy2⟩ := iv
      rw [hrvl, List.take_length] at hy2
      refine lpost S fun s S => ?_
      obtain ⟨g12, e12, hY2, S⟩ := S.frzL
      have e1012 := e11.trans e12
      have ok : RowsOK (sorted rows0) := sorted_ok hRK hrl5
      have hTR : Two (RowAt g8) (ys1 ++ ys2) (sorted rows0) := two_app hy1 hy2
      generalize sorted rows0 = rows at *
      have hyl := hTR.length
      have hr5 := ok.len
      have hyl2 := hyl
      rw [List.length_append] at hyl2
      refine addL S ((hY1.mono e1012).mono S.ge) (hY2.mono S.ge) (by omega) fun s R S => ?_
      generalize ys1 ++ ys2 = rvs at *
      obtain ⟨g13, e13, hR, S⟩ := S.frzL
      walk_at "z"
      refine ⟨rfl, g13, R, rvs, rows, (e810.trans e1012).trans e13, S.weakL (fun p hp => ?_), hR, hTR.imp fun a b q => q.mono ((e810.trans e1012).trans e13), ok⟩
      simp only [List.mem_cons, List.not_mem_nil, or_false] at hp
      rcases hp with rfl | rfl <;> walk_at "lk"
    clear S0 hRK hT0 hR0 hrl5
    obtain ⟨rfl, g13, R, rvs, rows, e13, S0, hR, hT, ok⟩ := hm
    have hNB := hNB.mono e13
    clear e13 rows0 rv0
    have hyl := hT.length
    have hr5 := ok.len
    refine sq_next ?_
    refine sq (wpAny_mono (Q := fun fl s' => fl = .next ∧ ∃ (g : Heap) (x : Nat), Ext g13 g ∧ Sp w ⟨s1, gp, L⟩ g [(("made" : Str), .ref x), ("rows", .ref R), ("numbers", .ref NB)] [] s' ∧ KindAt w g (.ref x) rows) ?_ (fun fl s' hm => ?_) fun _ _ e => e)
    · have S := S0
      clear S0
      walk_at "zz"
      refine use S (c_lmade S.inn (by show callerA.depth + 1 < 400; decide) rfl hR hT ok (fun I hr hh hD hK => c_mkcls I hr hh hD hK ok)) fun v s g14 e14 hv S => ?_
      obtain ⟨x, M, T, EQ, OR, n, avs, hxi, hrest⟩ := id hv
      obtain ⟨rfl, hxi⟩ : v = .ref x ∧ True := by first | exact ⟨hxi, trivial⟩ | exact ⟨hxi.1, trivial⟩
      walk_at "z"
      refine ⟨rfl, g14, x, e14, S.weakL (fun p hp => ?_), hv⟩
      simp only [List.mem_cons, List.not_mem_nil, or_false] at hp
      rcases hp with rfl | rfl | rfl <;> walk_at "lk"
    clear S0
    obtain ⟨rfl, g14, x, e14, S0, hKk⟩ := hm
    replace hNB := hNB.mono e14
    replace hR := hR.mono e14
    replace hT : Two (RowAt g14) rvs rows := hT.imp fun a b q => RowAt.mono q e14
    clear e14
    refine sq_next ?_
    refine sq (wpAny_mono (Q := fun fl s' => fl = .next ∧ ∃ (g : Heap) (G : Nat) (own : Own), Ext g14 g ∧ own = [(G, DictO w [])] ∧ Sp w ⟨s1, gp, L⟩ g [(("given" : Str), .ref G), (("made" : Str), .ref x), ("rows", .ref R), ("numbers", .ref NB)] own s') ?_ (fun fl s' hm => ?_) fun _ _ e => e)
    · have S := S0
      clear S0
      walk_at "zz"
      refine newD S fun s G S => ?_
      walk_at "z"
      exact ⟨rfl, g14, G, _, Ext.rfl', rfl, S⟩
    clear S0
    obtain ⟨rfl, g15, G, _, e15, rfl, S0⟩ := hm
    refine sq_next ?_
    refine sq (wpAny_mono (Q := fun fl s' => fl = .next ∧ ∃ (g : Heap) (gk : List (Str × Value)), Ext g14 g ∧ Sp w ⟨s1, gp, L⟩ g [(("given" : Str), .ref G), (("made" : Str), .ref x), ("rows", .ref R), ("numbers", .ref NB)] [] s' ∧ IsD w g G gk ∧ HZ rows rows.length gk) ?_ (fun fl s' hm => ?_) fun _ _ e => e)
    · have S := S0
      clear S0
      walk_at "zz"
      refine for_E rfl S (hR.mono e15) (fun k g' l' own' => l' = [(("given" : Str), .ref G), ("made", .ref x), ("rows", .ref R), ("numbers", .ref NB)] ∧ ∃ gk, own' = [(G, DictO w gk)] ∧ HZ rows k gk) ⟨rfl, [], rfl, ⟨fun i r h => absurd h (Nat.not_lt_zero _), (fun _ h => nomatch h), Nat.le_refl _⟩⟩ (fun k v tq its g16 l' own' s hv e16 iv S => ?_) (fun g16 l' own' s e16 iv S => ?_)
      · obtain ⟨rfl, gk, rfl, hZ⟩ := iv
        obtain ⟨r, hr', a, u1, u2, u3, rfl, hta⟩ := hT.get' hv
        have hta := hta.mono (e15.trans e16)
        walk_at "zz"
        refine stT (hta.mono S.ge) (by decide) (by decide) rfl ?_
        walk_at "zz"
        by_cases hk0 : r.kd = 0
        · rw [show ((r.kd : Int) == 0) = true by rw [hk0]; rfl]
          walk_at "zz"
          refine stT (hta.mono S.ge) (by decide) (by decide) rfl ?_
          refine dSet (i := 0) S rfl (by rw [sizeLine_eq]; have := hZ.len; have := (List.getElem?_eq_some_iff.mp hv).1; omega) fun s S => ?_
          walk_at "zz"
          refine ⟨g16, _, _, Ext.rfl', ⟨rfl, _, rfl, hZ.put hr' hk0⟩, S.weakL (fun p hp => ?_)⟩
          simp only [List.mem_cons, List.not_mem_nil, or_false] at hp
          rcases hp with rfl | rfl | rfl | rfl <;> walk_at "lk"
        · rw [show ((r.kd : Int) == 0) = false by rw [beq_eq_false_iff_ne]; intro z; exact hk0 (by omega)]
          walk_at "zz"
          refine ⟨g16, _, _, Ext.rfl', ⟨rfl, gk, rfl, hZ.skip hr' hk0⟩, S.weakL (fun p hp => ?_)⟩
          simp only [List.mem_cons, List.not_mem_nil, or_false] at hp
          rcases hp with rfl | rfl | rfl | rfl <;> walk_at "lk"
      obtain ⟨rfl, gk, rfl, hZ⟩ := iv
      rw [hyl] at hZ
      obtain ⟨g17, e17, hGG, S⟩ := S.frzD
      walk_at "z"
      exact ⟨rfl, g17, gk, e15.trans (e16.trans e17), S, hGG, hZ⟩
    clear S0
    obtain ⟨rfl, g17, gk, e17, S0, hGG, hZ⟩ := hm
    have hnd : (gk.map (·.1)).Nodup := by obtain ⟨⟨_, _, _, _, _, _, z⟩, _⟩ := hGG; exact z
    replace hNB := hNB.mono e17
    replace hR := hR.mono e17
    replace hT : Two (RowAt g17) rvs rows := hT.imp fun a b q => RowAt.mono q e17
    replace hKk := hKk.mono e17
    clear e17 e15 g15
    refine sq_next ?_
    refine sq (wpAny_mono (Q := fun fl s' => fl = .next ∧ ∃ (g : Heap) (m : Nat) (σ : Nat → Row → Sv), Ext g17 g ∧ Sp w ⟨s1, gp, L⟩ g [(("one" : Str), .ref m), ("made", .ref x), ("rows", .ref R), ("numbers", .ref NB)] [] s' ∧ MadeAt w g m x rows σ ∧ (∀ k r, (σ k r).dep ≤ 1) ∧ ∀ k r, rows[k]? = some r → r.kd = 3 → r.cv = false → σ k r = .i (50 + k)) ?_ (fun fl s' hm => ?_) fun _ _ e => e)
    · have S := S0
      clear S0
      walk_at "zz"
      refine newLf S (Nat.zero_le _) fun s V0 g18 e18 hV0 S => ?_
      walk_at "zz"
      have KW0 : KwOk g18 gk (fOf gk) := hZ.kw ok hnd
      have hKk18 := hKk.mono e18
      obtain ⟨x', M, T, EQ, OR, n, avs, hxe, hxi, _⟩ := id hKk18
      cases hxe
      obtain ⟨dx, odx, hx, hdx, _⟩ := id hxi
      refine useX S (c_called S.inn (by show callerA.depth + 1 < 500; decide) rfl (S.out O (by intro z; cases z) rfl) hV0 (Nat.zero_le _) (hGG.mono e18) (by have := KW0.len; omega) (keepI hx) (fun I hr hh O' => c_kcall I (by omega) hh O' hKk18 ok KW0 (fun r hr hz => ?_)) (fun {g g' v} e h => by obtain ⟨m, rfl, h1, h2⟩ := h; exact ⟨m, rfl, h1, h2.mono e⟩)) O rfl (fun e s' b F => ?_) fun v s g19 e19 hv S => ?_
      · obtain ⟨i, hi⟩ := List.getElem?_of_mem hr
        exact hZ.row i r (List.getElem?_eq_some_iff.mp hi).1 hi hz
      · obtain ⟨kv, h1, h2⟩ := b
        obtain ⟨⟨r, h3, h4, h5⟩, _⟩ := hZ.keys kv h1
        exact absurd ⟨r, h3, by rw [h4]; decide, h5⟩ h2
      obtain ⟨m, rfl, _, hM⟩ := hv
      walk_at "z"
      refine ⟨rfl, g19, m, _, e18.trans e19, S.weakL (fun p hp => ?_), hM, fun k r => rowV_dep (fun x sv h => Nat.le_of_eq (fOf_dep h)) k r, fun k r hr h3 hc => ?_⟩
      · simp only [List.mem_cons, List.not_mem_nil, or_false] at hp
        rcases hp with rfl | rfl | rfl | rfl <;> walk_at "lk"
      · unfold rowV baseV
        rw [if_neg (by rw [hc]; decide), if_pos h3]
    clear S0 hZ hnd hGG
    obtain ⟨rfl, g19, m, σ, e19, S0, hM, hσ, hσ3⟩ := hm
    replace hNB := hNB.mono e19
    replace hR := hR.mono e19
    replace hT : Two (RowAt g19) rvs rows := hT.imp fun a b q => RowAt.mono q e19
    replace hKk := hKk.mono e19
    clear e19 gk G
    refine sq_next ?_
    refine sq (wpAny_mono (Q := fun fl s' => fl = .next ∧ ∃ (g : Heap) (TL : Nat) (tvs : List Value), Ext g19 g ∧ Sp w ⟨s1, gp, L⟩ g [(("told" : Str), .ref TL), (("one" : Str), .ref m), ("made", .ref x), ("rows", .ref R), ("numbers", .ref NB)] [] s' ∧ IsL g TL tvs ∧ Ix (fun i v r => SvAt g v (σ i r)) tvs rows) ?_ (fun fl s' hm => ?_) fun _ _ e => e)
    · have S := S0
      clear S0
      walk_at "zz"
      refine use S (c_astuple (t0 := 0) S.inn (by show callerA.depth + 1 < 700; decide) (.inl rfl) hKk hM ok) fun v s g20 e20 hv S => ?_
      obtain ⟨T, vs, rfl, hT1, hvs⟩ := hv
      walk_at "zz"
      refine listT S (hT1.mono S.ge) (by rw [hvs.1]; omega) fun s TL g21 e21 hTL S => ?_
      walk_at "z"
      exact ⟨rfl, g21, TL, vs, e20.trans e21, S, hTL, hvs.imp fun i v r h => h.mono e21⟩
    clear S0
    obtain ⟨rfl, g21, TL, tvs, e21, S0, hTL, hTv⟩ := hm
    replace hNB := hNB.mono e21
    replace hR := hR.mono e21
    replace hT : Two (RowAt g21) rvs rows := hT.imp fun a b q => RowAt.mono q e21
    replace hKk := hKk.mono e21
    replace hM := hM.mono e21
    clear e21
    refine sq_next ?_
    refine sq (wpAny_mono (Q := fun fl s' => fl = .next ∧ ∃ (g : Heap) (NM : Nat) (nmv : List Value), Ext g21 g ∧ Sp w ⟨s1, gp, L⟩ g [(("names" : Str), .ref NM), (("told" : Str), .ref TL), (("one" : Str), .ref m), ("made", .ref x), ("rows", .ref R), ("numbers", .ref NB)] [] s' ∧ IsL g NM nmv ∧ Two (fun v (n : Str) => ∃ t, v = .str n t) nmv lawNames) ?_ (fun fl s' hm => ?_) fun _ _ e => e)
    · have S := S0
      clear S0
      walk_at "zz"
      refine newLf S (Nat.le_of_ble_eq_true rfl) fun s NM g22 e22 hNM S => ?_
      walk_at "z"
      exact ⟨rfl, g22, NM, _, e22, S, hNM, .cons ⟨_, rfl⟩ (.cons ⟨_, rfl⟩ (.cons ⟨_, rfl⟩ (.cons ⟨_, rfl⟩ (.cons ⟨_, rfl⟩ (.cons ⟨_, rfl⟩ (.cons ⟨_, rfl⟩ .nil))))))⟩
    clear S0
    obtain ⟨rfl, g22, NM, nmv, e22, S0, hNM, hnm⟩ := hm
    replace hNB := hNB.mono e22
    replace hR := hR.mono e22
    replace hT : Two (RowAt g22) rvs rows := hT.imp fun a b q => RowAt.mono q e22
    replace hKk := hKk.mono e22
    replace hM := hM.mono e22
    replace hTL := hTL.mono e22
    replace hTv := hTv.imp fun i v r h => SvAt.mono e22 h
    clear e22
    refine sq_next ?_
    refine sq (wpAny_mono (Q := fun fl s' => fl = .next ∧ ∃ (g : Heap) (C : Nat) (own : Own), Ext g22 g ∧ own = [(C, DictO w [])] ∧ Sp w ⟨s1, gp, L⟩ g [(("changes" : Str), .ref C), (("names" : Str), .ref NM), (("told" : Str), .ref TL), (("one" : Str), .ref m), ("made", .ref x), ("rows", .ref R), ("numbers", .ref NB)] own s') ?_ (fun fl s' hm => ?_) fun _ _ e => e)
    · have S := S0
      clear S0
      walk_at "zz"
      refine newD S fun s C S => ?_
      walk_at "z"
      exact ⟨rfl, g22, C, _, Ext.rfl', rfl, S⟩
    clear S0
    obtain ⟨rfl, g23, C, _, e23, rfl, S0⟩ := hm
    refine sq_next ?_
    refine sq (wpAny_mono (Q := fun fl s' => fl = .next ∧ ∃ (g : Heap) (chs : List (Str × Value)), Ext g22 g ∧ Sp w ⟨s1, gp, L⟩ g [(("changes" : Str), .ref C), (("told" : Str), .ref TL), (("one" : Str), .ref m), ("rows", .ref R)] [] s' ∧ IsD w g C chs ∧ HC 3 chs) ?_ (fun fl s' hm => ?_) fun _ _ e => e)
    · have S := S0
      clear S0
      walk_at "zz"
      obtain ⟨n1, hn1⟩ : ∃ n, nums[1]? = some n := ⟨nums[1], List.getElem?_eq_getElem (by omega)⟩
      obtain ⟨_, hv1, t1, rfl⟩ := hN.get hn1
      refine stL ((hNB.mono e23).mono S.ge) (by decide) (by decide) hv1 ?_
      walk_at "zz"
      have f4 := fmod4 n1
      obtain ⟨q, hq⟩ : ∃ q : Nat, n1.fmod 4 = q := ⟨_, (Int.toNat_of_nonneg f4.1).symm⟩
      rw [hq] at f4 ⊢
      have hNB := hNB.mono e23
      have hNM := hNM.mono e23
      refine for_R (by omega) rfl S (fun k g' l' own' => l' = [(("changes" : Str), .ref C), (("names" : Str), .ref NM), (("told" : Str), .ref TL), (("one" : Str), .ref m), ("made", .ref x), ("rows", .ref R), ("numbers", .ref NB)] ∧ ∃ chs, own' = [(C, DictO w chs)] ∧ HC k chs) ⟨rfl, [], rfl, ⟨(fun _ h => nomatch h), Nat.le_refl _⟩⟩ (fun k t its g24 l' own' s hk e24 iv S => ?_) (fun g24 l' own' s e24 iv S => ?_)
      · obtain ⟨rfl, chs, rfl, hC⟩ := iv
        walk_at "zz"
        refine stL ((hNB.mono e24).mono S.ge) (by decide) (by decide) hv1 ?_
        walk_at "zz"
        refine iPow S (by omega) (by omega) (by decide) fun s t S => ?_
        rw [Int.toNat_natCast]
        obtain ⟨p1, p2⟩ := pow7 (k := k) (by omega)
        refine iDiv S p1 p2 fun s t S => ?_
        walk_at "zz"
        have f7 := fmod7 ((n1.fdiv 4).fdiv (7 ^ k))
        generalize ((n1.fdiv 4).fdiv (7 ^ k)).fmod 7 = j at *
        obtain ⟨y, hy⟩ : ∃ y, lawNames[j.toNat]? = some y := ⟨_, List.getElem?_eq_getElem (by show j.toNat < 7; omega)⟩
        obtain ⟨_, hv2, t2, rfl⟩ := hnm.get hy
        refine stL ((hNM.mono e24).mono S.ge) f7.1 (by omega) hv2 ?_
        refine dSet (i := 0) S rfl (by rw [sizeLine_eq]; have := hC.len; omega) fun s S => ?_
        walk_at "zz"
        refine ⟨g24, _, _, Ext.rfl', ⟨rfl, _, rfl, hC.put (List.mem_of_getElem? hy)⟩, S.weakL (fun p hp => ?_)⟩
        simp only [List.mem_cons, List.not_mem_nil, or_false] at hp
        rcases hp with rfl | rfl | rfl | rfl | rfl | rfl | rfl <;> walk_at "lk"
      obtain ⟨rfl, chs, rfl, hC⟩ := iv
      obtain ⟨g25, e25, hCC, S⟩ := S.frzD
      walk_at "z"
      refine ⟨rfl, g25, chs, e23.trans (e24.trans e25), S.weakL (fun p hp => ?_), hCC, ⟨hC.keys, by have := hC.len; omega⟩⟩
      simp only [List.mem_cons, List.not_mem_nil, or_false] at hp
      rcases hp with rfl | rfl | rfl | rfl <;> walk_at "lk"
    clear S0
    obtain ⟨rfl, g25, chs, e25, S0, hCC, hC3⟩ := hm
    have hnd : (chs.map (·.1)).Nodup := by obtain ⟨⟨_, _, _, _, _, _, z⟩, _⟩ := hCC; exact z
    replace hR := hR.mono e25
    replace hT : Two (RowAt g25) rvs rows := hT.imp fun a b q => RowAt.mono q e25
    replace hKk := hKk.mono e25
    replace hM := hM.mono e25
    replace hTL := hTL.mono e25
    replace hTv := hTv.imp fun i v r h => SvAt.mono e25 h
    have KWC : KwOk g25 chs (fOf chs) := hC3.kw (by decide) hnd
    clear e25 e23 g23 hNM hnm hNB hN hn5
    refine sq_next ?_
    refine sq (wpAny_mono (Q := fun fl s' => fl = .next ∧ ∃ (g : Heap) (dv : Value), Ext g25 g ∧ Sp w ⟨s1, gp, L⟩ g [(("due" : Str), dv), (("changes" : Str), .ref C), (("told" : Str), .ref TL), (("one" : Str), .ref m), ("rows", .ref R)] [] s' ∧ ((dv = .none ∧ ∃ kv ∈ chs, ¬ Kn rows kv.1) ∨ ((∀ kv ∈ chs, Kn rows kv.1) ∧ ∃ (a : Nat) (vs : List Value), dv = .ref a ∧ IsL g a vs ∧ Ix (fun i v r => SvAt g v (rowV (evF (fOf chs) σ rows) i r)) vs rows))) ?_ (fun fl s' hm => ?_) fun _ _ e => e)
    · have S := S0
      clear S0
      walk_at "zz"
      refine use S (c_again S.inn (by show callerA.depth + 1 < 600; decide) rfl hR hT ok hTL hTv hCC KWC) fun v s g26 e26 hv S => ?_
      walk_at "z"
      exact ⟨rfl, g26, v, e26, S, hv⟩
    clear S0
    obtain ⟨rfl, g26, dv, e26, S0, hdue⟩ := hm
    replace hR := hR.mono e26
    replace hT : Two (RowAt g26) rvs rows := hT.imp fun a b q => RowAt.mono q e26
    replace hKk := hKk.mono e26
    replace hM := hM.mono e26
    replace hTL := hTL.mono e26
    replace hTv := hTv.imp fun i v r h => SvAt.mono e26 h
    replace hCC := hCC.mono e26
    replace KWC := KWC.mono e26
    clear e26
    refine sq_next ?_
    refine sq (wpAny_mono (Q := fun fl s' => (fl = .next ∧ (∀ kv ∈ chs, Kn rows kv.1) ∧ ∃ (g : Heap) (m2 : Nat), Ext g26 g ∧ Sp w ⟨s1, gp, L⟩ g [(("other" : Str), .ref m2), (("due" : Str), dv), (("changes" : Str), .ref C), (("told" : Str), .ref TL), (("one" : Str), .ref m), ("rows", .ref R)] [] s' ∧ MadeAt w g m2 x rows (rowV (evF (fOf chs) σ rows))) ∨ (fl = .ret (.bool true) ∧ ∃ g l own, Sp w ⟨s1, gp, L⟩ g l own s')) ?_ (fun fl s' hm => ?_) fun _ _ e => e)
    · have S := S0
      refine wpAny_Try_except ?_
      clear S0
      walk_at "zz"
      refine newLf S (Nat.le_of_ble_eq_true rfl) fun s V1 g27 e27 hV1 S => ?_
      walk_at "zz"
      refine useXK S (c_calledE S.inn (by show callerA.depth + 1 < 500; decide) rfl (S.out O (by intro z; cases z) rfl) (hKk.mono e27) (hM.mono e27) ok hV1 (hCC.mono e27) (KWC.mono e27) (by have := hC3.len; omega)) O rfl (fun e s' c' g' T b z e28 S' => ?_) fun v s g28 e28 hv S => ?_
      · have S' := S.back0 S' z
        refine note1 S' O (Around.frames_deeper O.fr) (by intro z; cases z) rfl fun c2 T2 s2 z2 S2 => ?_
        have S2 := S'.back0 S2 z2
        refine flight S2 fun s3 S3 => ?_
        refine wpAny_handleBy_builtin (prog := P0) (X := "TypeError") (T := "TypeError") (b := true) PySem.F.isExc_TypeError PySem.F.notTuple_TypeError (by kernel_rfl) ?_
        have S := S3
        clear S' S2 S3
        walk_at "zz"
        obtain ⟨oe, he, h1', vs', h2', _⟩ := S.at 1 rfl
        refine ⟨rfl, ⟨oe, he, h1'⟩, ?_⟩
        rw [if_pos rfl]
        refine flight S fun s4 S => ?_
        obtain ⟨g29, e29, S, hH⟩ := S.hold
        have e2 := e27.trans (e28.trans e29)
        walk_at "zz"
        refine BoolOp_and ?_
        rcases hdue with ⟨rfl, _⟩ | ⟨hkn, _⟩
        rotate_left
        · obtain ⟨kv, h1, h2⟩ := b
          exact absurd (hkn kv h1) h2
        walk_at "zz"
        refine use S (c_astuple (t0 := 0) S.inn (by show callerA.depth + 1 < 700; decide) (hH rfl) (hKk.mono e2) (hM.mono e2) ok) fun v s g30 e30 hv S => ?_
        obtain ⟨T3, vs3, rfl, hT3, hvs3⟩ := hv
        walk_at "zz"
        refine listT S (hT3.mono S.ge) (by rw [hvs3.1]; omega) fun s TL3 g31 e31 hTL3 S => ?_
        walk_at "zz"
        have e4 := e2.trans (e30.trans e31)
        refine eqLs (σ := σ) (hTL3.mono S.ge) ((hTL.mono e4).mono S.ge) (fun i r _ => by have := hσ i r; omega) (by show callerA.units + 3 < 9000; decide) (hvs3.imp fun i v r h => (h.mono e31).mono S.ge) (hTv.imp fun i v r h => (SvAt.mono e4 h).mono S.ge) ?_
        walk_at "zz"
        exact .inr ⟨rfl, _, _, _, S⟩
      obtain ⟨m2, rfl, hkn, hM2⟩ := hv
      walk_at "zz"
      exact .inl ⟨rfl, hkn, g28, m2, e27.trans e28, S, hM2⟩
    clear S0
    rcases hm with ⟨rfl, hkn, g28, m2, e28, S0, hM2⟩ | ⟨rfl, g28, l28, own28, S0⟩
    rotate_left
    · exact sq_ret ⟨rfl, g28, l28, own28, S0⟩
    have hd2 : ∃ (a : Nat) (vs : List Value), dv = .ref a ∧ IsL g26 a vs ∧ Ix (fun i v r => SvAt g26 v (rowV (evF (fOf chs) σ rows) i r)) vs rows := by
      rcases hdue with ⟨_, kv, h1, h2⟩ | ⟨_, h⟩
      · exact absurd (hkn kv h1) h2
      · exact h
    clear hdue
    obtain ⟨DU, dus, rfl, hDU, hDv⟩ := hd2
    replace hR := hR.mono e28
    replace hT : Two (RowAt g28) rvs rows := hT.imp fun a b q => RowAt.mono q e28
    replace hKk := hKk.mono e28
    replace hM := hM.mono e28
    replace hTL := hTL.mono e28
    replace hTv := hTv.imp fun i v r h => SvAt.mono e28 h
    replace hCC := hCC.mono e28
    replace KWC := KWC.mono e28
    replace hDU := hDU.mono e28
    replace hDv := hDv.imp fun i v r h => SvAt.mono e28 h
    clear e28
    refine sq_next ?_
    refine sq (wpAny_mono (Q := fun fl s' => fl = .next ∧ ∃ (g : Heap), Ext g28 g ∧ Sp w ⟨s1, gp, L⟩ g [(("other" : Str), .ref m2), (("due" : Str), .ref DU), (("changes" : Str), .ref C), (("told" : Str), .ref TL), (("one" : Str), .ref m), ("rows", .ref R)] [] s') ?_ (fun fl s' hm => ?_) fun _ _ e => e)
    · have S := S0
      clear S0
      walk_at "zz"
      refine use S (c_astuple (t0 := 0) S.inn (by show callerA.depth + 1 < 700; decide) (.inl rfl) hKk hM2 ok) fun v s g29 e29 hv S => ?_
      obtain ⟨T3, vs3, rfl, hT3, hvs3⟩ := hv
      walk_at "zz"
      refine listT S (hT3.mono S.ge) (by rw [hvs3.1]; omega) fun s TL3 g30 e30 hTL3 S => ?_
      walk_at "zz"
      have e4 := e29.trans e30
      have d2 : ∀ (i : Nat) (r : Row), (rowV (evF (fOf chs) σ rows) i r).dep ≤ 2 := rowV_dep (evF_dep (fun x sv h => by have := fOf_dep h; omega) hσ)
      refine neLs (hTL3.mono S.ge) ((hDU.mono e4).mono S.ge) (fun i r _ => by have := d2 i r; omega) (by show callerA.units + 3 < 9000; decide) (hvs3.imp fun i v r h => (h.mono e30).mono S.ge) (hDv.imp fun i v r h => (SvAt.mono e4 h).mono S.ge) ?_
      walk_at "zz"
      refine use S (c_astuple (t0 := 0) S.inn (by show callerA.depth + 1 < 700; decide) (.inl rfl) (hKk.mono e4) (hM.mono e4) ok) fun v s g31 e31 hv S => ?_
      obtain ⟨T4, vs4, rfl, hT4, hvs4⟩ := hv
      walk_at "zz"
      refine listT S (hT4.mono S.ge) (by rw [hvs4.1]; omega) fun s TL4 g32 e32 hTL4 S => ?_
      walk_at "zz"
      have e5 := e4.trans (e31.trans e32)
      refine neLs (hTL4.mono S.ge) ((hTL.mono e5).mono S.ge) (fun i r _ => by have := hσ i r; omega) (by show callerA.units + 3 < 9000; decide) (hvs4.imp fun i v r h => (h.mono e32).mono S.ge) (hTv.imp fun i v r h => (SvAt.mono e5 h).mono S.ge) ?_
      walk_at "zz"
      exact ⟨rfl, g32, e5, S⟩
    clear S0
    obtain ⟨rfl, g32, e32, S0⟩ := hm
    replace hR := hR.mono e32
    replace hT : Two (RowAt g32) rvs rows := hT.imp fun a b q => RowAt.mono q e32
    replace hKk := hKk.mono e32
    replace hM := hM.mono e32
    replace hCC := hCC.mono e32
    replace KWC := KWC.mono e32
    clear e32 hTL hTv hDU hDv hM2
    refine sq_next ?_
    refine sq (wpAny_mono (Q := fun fl s' => (fl = .next ∧ (∀ r ∈ rows, r.cv = false) ∧ ∃ (g : Heap), Ext g32 g ∧ Sp w ⟨s1, gp, L⟩ g [(("changes" : Str), .ref C), (("one" : Str), .ref m)] [] s') ∨ (fl = .ret (.bool true) ∧ ∃ g l own, Sp w ⟨s1, gp, L⟩ g l own s')) ?_ (fun fl s' hm => ?_) fun _ _ e => e)
    · have S := S0
      clear S0
      walk_at "zz"
      walk_at "lc"
      walk_at "zz"
      refine lcB (fun Q => it_L rfl S hR) (by decide) rfl (fun C => by kernel_rfl) (by decide) (by rw [sizeLine_eq]; omega) (fun k ys g own => own = [] ∧ (ys = [] ↔ ∀ r ∈ rows.take k, r.cv = false)) ⟨rfl, by simp⟩ (fun C D5 k its v ys g33 l' own' s E' hv hyk e33 iv S => ?_) (fun C lC D5 ys g33 own' s e33 iv S => ?_)
      · obtain ⟨rfl, hy⟩ := iv
        obtain ⟨r, hr', a, u1, u2, u3, rfl, hta⟩ := hT.get' hv
        refine turn1 ?_
        walk_at "zz"
        refine stT ((hta.mono e33).mono S.ge) (by decide) (by decide) rfl ?_
        walk_at "zz"
        cases hcv : r.cv with
        | true =>
          walk_at "zz"
          refine ⟨g33, _, _, Ext.rfl', ⟨rfl, ?_⟩, S⟩
          rw [take_snoc hr']
          constructor
          · intro h; simp at h
          · intro h; have := h r (by simp); rw [hcv] at this; cases this
        | false =>
          walk_at "zz"
          refine ⟨g33, _, _, Ext.rfl', ⟨rfl, ?_⟩, S⟩
          rw [take_snoc hr', hy]
          constructor
          · intro h r' hr2
            rcases List.mem_append.mp hr2 with q | q
            · exact h r' q
            · rw [List.mem_singleton.mp q]; exact hcv
          · intro h r' hr2; exact h r' (List.mem_append_left _ hr2)
      obtain ⟨rfl, hy⟩ := iv
      rw [hyl, List.take_length] at hy
      refine lpost S fun s S => ?_
      obtain ⟨g34, e34, hYL, S⟩ := S.frzL
      walk_at "zz"
      refine newLf S (Nat.zero_le _) fun s b5 g35 e35 hb5 S => ?_
      refine neNil ((hYL.mono e35).mono S.ge) (hb5.mono S.ge) (by show callerA.units + 3 < 9000; decide) ?_
      by_cases hys : ys = []
      · rw [show (!ys.isEmpty) = false by rw [hys]; rfl]
        walk_at "zz"
        refine .inl ⟨rfl, hy.mp hys, g35, e33.trans (e34.trans e35), S.weakL (fun p hp => ?_)⟩
        simp only [List.mem_cons, List.not_mem_nil, or_false] at hp
        rcases hp with rfl | rfl <;> walk_at "lk"
      · rw [show (!ys.isEmpty) = true by cases ys with | nil => exact absurd rfl hys | cons y ys => rfl]
        walk_at "zz"
        exact .inr ⟨rfl, _, _, _, S⟩
    clear S0
    rcases hm with ⟨rfl, hcv, g35, e35, S0⟩ | ⟨rfl, g28, l28, own28, S0⟩
    rotate_left
    · exact sq_ret ⟨rfl, g28, l28, own28, S0⟩
    replace hKk := hKk.mono e35
    replace hM := hM.mono e35
    replace hCC := hCC.mono e35
    replace KWC := KWC.mono e35
    clear e35 hR hT
    refine sq_next ?_
    have same : ∀ {g : Heap} {m' : Nat}, MadeAt w g m' x rows (rowV (evF (fOf []) σ rows)) → MadeAt w g m' x rows σ := fun h => h.cong fun k r hr => rowV_same ok (fun _ => rfl) hcv (fun k r hr h => hσ3 k r hr h (hcv r (List.mem_of_getElem? hr))) k r hr
    refine sq (wpAny_mono (Q := fun fl s' => fl = .next ∧ ∃ (g : Heap), Ext g35 g ∧ Sp w ⟨s1, gp, L⟩ g [(("changes" : Str), .ref C), (("one" : Str), .ref m)] [] s') ?_ (fun fl s' hm => ?_) fun _ _ e => e)
    · have S := S0
      clear S0
      walk_at "zz"
      refine useX S (c_evolve S.inn (by show callerA.depth + 1 < 600; decide) rfl (S.out O (by intro z; cases z) rfl) hKk hM ok kw_nil (Nat.zero_le _)) O rfl (fun e s' b F => by obtain ⟨_, z, _⟩ := b; cases z) fun v s g36 e36 hv S => ?_
      obtain ⟨m3, rfl, _, hM3⟩ := hv
      replace hM3 := same hM3
      walk_at "zz"
      refine eqM S (by show callerA.depth + 1 < 700; decide) rfl (by show callerA.units + 3 < 8000; decide) (hKk.mono e36) hM3 (hM.mono e36) ok (fun i r _ => by have := hσ i r; omega) fun s g37 e37 S => ?_
      walk_at "zz"
      have e2 := e36.trans e37
      refine useX S (c_evolve S.inn (by show callerA.depth + 1 < 600; decide) rfl (S.out O (by intro z; cases z) rfl) (hKk.mono e2) (hM.mono e2) ok kw_nil (Nat.zero_le _)) O rfl (fun e s' b F => by obtain ⟨_, z, _⟩ := b; cases z) fun v s g38 e38 hv S => ?_
      obtain ⟨m4, rfl, _, hM4⟩ := hv
      replace hM4 := same hM4
      walk_at "zz"
      have e3 := e2.trans e38
      refine useX S (c_evolve S.inn (by show callerA.depth + 1 < 600; decide) rfl (S.out O (by intro z; cases z) rfl) (hKk.mono e3) hM4 ok kw_nil (Nat.zero_le _)) O rfl (fun e s' b F => by obtain ⟨_, z, _⟩ := b; cases z) fun v s g39 e39 hv S => ?_
      obtain ⟨m5, rfl, _, hM5⟩ := hv
      replace hM5 := same hM5
      walk_at "zz"
      have e4 := e3.trans e39
      refine eqM S (by show callerA.depth + 1 < 700; decide) rfl (by show callerA.units + 3 < 8000; decide) (hKk.mono e4) hM5 (hM.mono e4) ok (fun i r _ => by have := hσ i r; omega) fun s g40 e40 S => ?_
      walk_at "zz"
      exact ⟨rfl, g40, e4.trans e40, S⟩
    clear S0 same
    obtain ⟨rfl, g40, e40, S0⟩ := hm
    replace hKk := hKk.mono e40
    replace hM := hM.mono e40
    replace hCC := hCC.mono e40
    clear e40 KWC
    refine sq_next ?_
    refine sq (wpAny_mono (Q := fun fl s' => fl = .next ∧ ∃ (g : Heap) (l : List (Str × Value)) (own : Own), Sp w ⟨s1, gp, L⟩ g l own s') ?_ (fun fl s' hm => ?_) fun _ _ e => e)
    · have S := S0
      clear S0
      walk_at "zz"
      refine for_D rfl S hCC (fun k g' l' own' => l' = [(("changes" : Str), .ref C), (("one" : Str), .ref m)] ∧ own' = []) ⟨rfl, rfl⟩ (fun k z u t its g41 l' own' s hk e41 iv S => ?_) (fun g41 l' own' s e41 iv S => ?_)
      · obtain ⟨rfl, rfl⟩ := iv
        have hz' := (hC3.keys _ (List.mem_of_getElem? hk)).1
        have hkz : Kn rows z := hkn _ (List.mem_of_getElem? hk)
        have bad : ∀ {i : Int} {t : Tok} {P : Prop}, (∃ kv ∈ [(z, Value.int i t)], ¬ Kn rows kv.1) → P := fun b => by
          obtain ⟨kv, h1, h2⟩ := b
          rw [List.mem_singleton.mp h1] at h2
          exact absurd hkz h2
        have fe : ∀ (u u' : Tok), fOf [(z, Value.int 8 u)] = fOf [(z, Value.int 8 u')] := fun u u' => by
          funext y
          unfold fOf
          rw [List.lookup_cons, List.lookup_cons]
          cases (y == z) <;> rfl
        have hKk := hKk.mono e41
        have hM := hM.mono e41
        walk_at "zz"
        refine newLf S (Nat.le_of_ble_eq_true rfl) fun s V1 g42 e42 hV1 S => ?_
        walk_at "zz"
        refine newD1 S (x := z) (i := 7) (fun s own Q E S q => nm S (by walk_at "lk") (q _ _ S)) (fun s own Q E S q => c_int S fun s t S => q _ _ S) fun s D1 t7 S => ?_
        obtain ⟨g43, e43, hD1, S⟩ := S.frzD
        walk_at "zz"
        have e3 := e42.trans e43
        refine useX S (c_calledE S.inn (by show callerA.depth + 1 < 500; decide) rfl (S.out O (by intro z; cases z) rfl) (hKk.mono e3) (hM.mono e3) ok (hV1.mono e43) hD1 (kw_one hz') (Nat.le_of_ble_eq_true rfl)) O rfl (fun e s' b F => bad b) fun v s g44 e44 hv S => ?_
        obtain ⟨m3, rfl, _, hM3⟩ := hv
        walk_at "zz"
        refine newLf S (Nat.le_of_ble_eq_true rfl) fun s V2 g45 e45 hV2 S => ?_
        walk_at "zz"
        refine newD1 S (x := z) (i := 8) (fun s own Q E S q => nm S (by walk_at "lk") (q _ _ S)) (fun s own Q E S q => c_int S fun s t S => q _ _ S) fun s D2 t8 S => ?_
        obtain ⟨g46, e46, hD2, S⟩ := S.frzD
        walk_at "zz"
        have e4 := e3.trans (e44.trans (e45.trans e46))
        refine useX S (c_calledE S.inn (by show callerA.depth + 1 < 500; decide) rfl (S.out O (by intro z; cases z) rfl) (hKk.mono e4) (hM3.mono (e45.trans e46)) ok (hV2.mono e46) hD2 (kw_one hz') (Nat.le_of_ble_eq_true rfl)) O rfl (fun e s' b F => bad b) fun v s g47 e47 hv S => ?_
        obtain ⟨m4, rfl, _, hM4⟩ := hv
        walk_at "zz"
        refine newLf S (Nat.le_of_ble_eq_true rfl) fun s V3 g48 e48 hV3 S => ?_
        walk_at "zz"
        refine newD1 S (x := z) (i := 8) (fun s own Q E S q => nm S (by walk_at "lk") (q _ _ S)) (fun s own Q E S q => c_int S fun s t S => q _ _ S) fun s D3 t9 S => ?_
        obtain ⟨g49, e49, hD3, S⟩ := S.frzD
        walk_at "zz"
        have e5 := e4.trans (e47.trans (e48.trans e49))
        refine useX S (c_calledE S.inn (by show callerA.depth + 1 < 500; decide) rfl (S.out O (by intro z; cases z) rfl) (hKk.mono e5) (hM.mono e5) ok (hV3.mono e49) hD3 (kw_one hz') (Nat.le_of_ble_eq_true rfl)) O rfl (fun e s' b F => bad b) fun v s g50 e50 hv S => ?_
        obtain ⟨m5, rfl, _, hM5⟩ := hv
        have hM4 := hM4.cong fun k r hr => rowV_twice ok hcv k r hr
        rw [fe t8 t9] at hM4
        have d2 : ∀ (i : Nat) (r : Row), (rowV (evF (fOf [(z, Value.int 8 t9)]) σ rows) i r).dep ≤ 2 := rowV_dep (evF_dep (fun x sv h => by have := fOf_dep h; omega) hσ)
        refine eqM S (by show callerA.depth + 1 < 700; decide) rfl (by show callerA.units + 3 < 8000; decide) (hKk.mono (e5.trans e50)) (hM4.mono (e48.trans (e49.trans e50))) hM5 ok (fun i r _ => by have := d2 i r; omega) fun s g51 e51 S => ?_
        walk_at "zz"
        refine ⟨g51, _, _, (e5.trans e50).trans e51, ⟨rfl, rfl⟩, S.weakL (fun p hp => ?_)⟩
        simp only [List.mem_cons, List.not_mem_nil, or_false] at hp
        rcases hp with rfl | rfl <;> walk_at "lk"
      obtain ⟨rfl, rfl⟩ := iv
      walk_at "z"
      exact ⟨rfl, _, _, _, S⟩
    clear S0
    obtain ⟨rfl, g51, l51, own51, S⟩ := hm
    refine sq_next ?_
    walk_at "zz"
    exact ⟨rfl, _, _, _, S⟩
  · have fin : ∀ v, v = .bool true → (∃ g l own, Sp w ⟨s1, gp, s1.heap.objs.size⟩ g l own s') → GoodW Challenge.rw_vc0011_01.row.claim (classAt s0.heap) (ExcName.means s0.heap) [ofPy (PyData.list (List.map PyData.int ns))] { heap := ghostOf s1.heap [(506, 502), (451, 447), (249, 245)], gens := s1.gens, drawn := s1.drawn, toks := s1.toks, os := s1.os } (.ok (.ret v)) s' ∧ GrownAll [(506, 502), (451, 447), (249, 245)] s'.heap := by
      rintro v rfl ⟨g, l, own, S⟩
      have n3 : ∀ b : Nat, b ∈ [502, 447, 245] → (ghostOf s1.heap [(506, 502), (451, 447), (249, 245)]).get? b = none := fun b hb => hideAll_none _ (by simpa using hb)
      refine ⟨⟨.inl ⟨.bool true, .bool true, [], rfl, raisesW_false (by wrow_none_raised), .bool true, by wrow_post, unshared_nil⟩, fun b o e => ?_, S.os, S.gens.trans hg⟩, ?_⟩
      · refine S.old b o (of_hideAll _ e) (fun z => ?_) fun z => ?_
        · subst z; rw [n3 245 (by simp)] at e; cases e
        · subst z; rw [n3 502 (by simp)] at e; cases e
      · obtain ⟨⟨p1, t1, _⟩, ⟨p2, t2, _⟩⟩ := S.tabs
        exact ⟨⟨p2, t2⟩, ⟨#[], S.old _ _ (hT8 447 (by simp)) (by decide) (by decide)⟩, ⟨p1, t1⟩, trivial⟩
    cases f with
    | ret v => exact fin v hq.1 hq.2
    | next => cases hq.1
    | brk => cases hq.1
    | cont => cases hq.1
end Mine
end
theorem PySem.Challenge.cw_vc0011_01_holds : PySem.Challenge.rw_vc0011_01.Holds := by
  exact Mine.lawH
