import PyProof.Rows.All
import Wide.All
import OpenK.AllK
import Wide.FinOn
import KE.KItemsList
import KE.KUnpack
import PySem.Challenge.RW_dz0130_02
open PySem PySem.W PyProof.Rows
set_option Elab.async false
set_option linter.unusedVariables false
set_option linter.unusedSimpArgs false

section
set_option maxRecDepth 100000

namespace Mine

/-- what is fixed for the whole run: the program, the world, the written part, the globals, the heap at the law's call -/
structure Wd where
  prog : Program
  w : World
  K : Frag
  p : Program
  loose : List Str
  mg : Str → Option Value
  mb : Str → Option Value
  base : Heap

structure Wd.Ok (B : Wd) : Prop where
  inK : B.K.In B.base
  top : TopRead B.p B.loose B.mg B.mb B.base
  big : ∃ b o, sysModules < b ∧ B.base.get? b = some o

noncomputable abbrev Wd.M (B : Wd) : Model := model B.prog B.w

mutual
/-- value v reads as datum d in heap h, every address satisfying P -/
inductive Rd (B : Wd) (P : Addr → Prop) (h : Heap) : Value → PyData → Prop
  | none : Rd B P h .none .none
  | bool (b) : Rd B P h (.bool b) (.bool b)
  | int (i t) : Rd B P h (.int i t) (.int i)
  | str (x t) : Rd B P h (.str x t) (.str x)
  | list {a vs xs} : P a → h.IsList a vs → Rds B P h vs.toList xs → Rd B P h (.ref a) (.list xs)
  | tuple {a vs xs} : P a → h.IsTuple a vs → Rds B P h vs.toList xs → Rd B P h (.ref a) (.tuple xs)
  | dict {a kvs ds} : P a → h.DictOf (strKind B.prog B.w) a kvs → (a == sysModules) = false → Rds B P h (kvs.map (·.2)) ds →
      Rd B P h (.ref a) (.dict ((kvs.map fun kv => PyData.str kv.1).zip ds))
inductive Rds (B : Wd) (P : Addr → Prop) (h : Heap) : List Value → List PyData → Prop
  | nil : Rds B P h [] []
  | cons {v vs d ds} : Rd B P h v d → Rds B P h vs ds → Rds B P h (v :: vs) (d :: ds)
end

theorem isList_keep {h h' : Heap} {a : Addr} {vs : Array Value} (x : h.IsList a vs) (k : ∀ o, h.get? a = some o → h'.get? a = some o) : h'.IsList a vs :=
  let ⟨o, e, r⟩ := x; ⟨o, k o e, r⟩
theorem plainList_keep {h h' : Heap} {a : Addr} {vs : Array Value} (x : h.PlainList a vs) (k : ∀ o, h.get? a = some o → h'.get? a = some o) : h'.PlainList a vs :=
  let ⟨n, e⟩ := x; ⟨n, k _ e⟩
theorem isTuple_keep {h h' : Heap} {a : Addr} {vs : Array Value} (x : h.IsTuple a vs) (k : ∀ o, h.get? a = some o → h'.get? a = some o) : h'.IsTuple a vs :=
  let ⟨o, e, r⟩ := x; ⟨o, k o e, r⟩
theorem dictOf_keep {B : Wd} {h h' : Heap} {a : Addr} {kvs} (x : h.DictOf (strKind B.prog B.w) a kvs) (k : ∀ o, h.get? a = some o → h'.get? a = some o) : h'.DictOf (strKind B.prog B.w) a kvs := by
  obtain ⟨o, e, r⟩ := Heap.dictOf_iff.mp x
  exact Heap.dictOf_iff.mpr ⟨o, k o e, r⟩

noncomputable def NoFields (o : Obj) : Prop := ∀ vs, o.data ≠ .fields vs
theorem isList_nf {h : Heap} {a : Addr} {vs : Array Value} (x : h.IsList a vs) : ∀ o, h.get? a = some o → NoFields o := fun o e us q => by
  obtain ⟨o', e', _, n, d⟩ := x
  rw [e] at e'; cases e'; rw [q] at d; cases d
theorem isTuple_nf {h : Heap} {a : Addr} {vs : Array Value} (x : h.IsTuple a vs) : ∀ o, h.get? a = some o → NoFields o := fun o e us q => by
  obtain ⟨o', e', _, n, d⟩ := x
  rw [e] at e'; cases e'; rw [q] at d; cases d
theorem dictOf_nf {B : Wd} {h : Heap} {a : Addr} {kvs} (x : h.DictOf (strKind B.prog B.w) a kvs) : ∀ o, h.get? a = some o → NoFields o := fun o e us q => by
  obtain ⟨o', e', es, ep, _, d, _⟩ := Heap.dictOf_iff.mp x
  rw [e] at e'; cases e'; rw [q] at d; cases d
mutual
theorem Rd.upN {B : Wd} {P P' : Addr → Prop} {h h' : Heap} (k : ∀ b o, P b → h.get? b = some o → NoFields o → h'.get? b = some o) (p : ∀ b o, P b → h.get? b = some o → NoFields o → P' b) :
    ∀ {v : Value} {d : PyData}, Rd B P h v d → Rd B P' h' v d
  | _, _, .none => .none
  | _, _, .bool b => .bool b
  | _, _, .int i t => .int i t
  | _, _, .str x t => .str x t
  | _, _, .list pa l r => .list (let ⟨_, e, _⟩ := l; p _ _ pa e (isList_nf l _ e)) (isList_keep l fun o e => k _ o pa e (isList_nf l o e)) (Rds.upN k p r)
  | _, _, .tuple pa l r => .tuple (let ⟨_, e, _⟩ := l; p _ _ pa e (isTuple_nf l _ e)) (isTuple_keep l fun o e => k _ o pa e (isTuple_nf l o e)) (Rds.upN k p r)
  | _, _, .dict pa l n r => .dict (let ⟨_, e, _⟩ := Heap.dictOf_iff.mp l; p _ _ pa e (dictOf_nf l _ e)) (dictOf_keep l fun o e => k _ o pa e (dictOf_nf l o e)) n (Rds.upN k p r)
theorem Rds.upN {B : Wd} {P P' : Addr → Prop} {h h' : Heap} (k : ∀ b o, P b → h.get? b = some o → NoFields o → h'.get? b = some o) (p : ∀ b o, P b → h.get? b = some o → NoFields o → P' b) :
    ∀ {vs : List Value} {ds : List PyData}, Rds B P h vs ds → Rds B P' h' vs ds
  | _, _, .nil => .nil
  | _, _, .cons a r => .cons (Rd.upN k p a) (Rds.upN k p r)
end
theorem Rd.up {B : Wd} {P P' : Addr → Prop} {h h' : Heap} (k : ∀ b o, P b → h.get? b = some o → h'.get? b = some o) (p : ∀ b o, P b → h.get? b = some o → P' b) {v : Value} {d : PyData} (r : Rd B P h v d) : Rd B P' h' v d :=
  r.upN (fun b o x e _ => k b o x e) fun b o x e _ => p b o x e
theorem Rds.up {B : Wd} {P P' : Addr → Prop} {h h' : Heap} (k : ∀ b o, P b → h.get? b = some o → h'.get? b = some o) (p : ∀ b o, P b → h.get? b = some o → P' b) {vs : List Value} {ds : List PyData} (r : Rds B P h vs ds) : Rds B P' h' vs ds :=
  r.upN (fun b o x e _ => k b o x e) fun b o x e _ => p b o x e

theorem Rds.length {B : Wd} {P : Addr → Prop} {h : Heap} : ∀ {vs : List Value} {ds : List PyData}, Rds B P h vs ds → vs.length = ds.length
  | _, _, .nil => rfl
  | _, _, .cons _ r => by simp [r.length]
theorem Rds.get {B : Wd} {P : Addr → Prop} {h : Heap} : ∀ {vs : List Value} {ds : List PyData}, Rds B P h vs ds → ∀ {i : Nat} {v : Value}, vs[i]? = some v → ∃ d, ds[i]? = some d ∧ Rd B P h v d
  | _, _, .nil, i, v, e => by simp at e
  | _, _, .cons a r, 0, v, e => by simp at e; subst e; exact ⟨_, rfl, a⟩
  | _, _, .cons a r, i + 1, v, e => by simp at e; simpa using r.get e
theorem Rds.get' {B : Wd} {P : Addr → Prop} {h : Heap} : ∀ {vs : List Value} {ds : List PyData}, Rds B P h vs ds → ∀ {i : Nat} {d : PyData}, ds[i]? = some d → ∃ v, vs[i]? = some v ∧ Rd B P h v d
  | _, _, .nil, i, v, e => by simp at e
  | _, _, .cons a r, 0, v, e => by simp at e; subst e; exact ⟨_, rfl, a⟩
  | _, _, .cons a r, i + 1, v, e => by simp at e; simpa using r.get' e
theorem Rds.append {B : Wd} {P : Addr → Prop} {h : Heap} : ∀ {vs ws : List Value} {ds es : List PyData}, Rds B P h vs ds → Rds B P h ws es → Rds B P h (vs ++ ws) (ds ++ es)
  | _, _, _, _, .nil, r => r
  | _, _, _, _, .cons a q, r => .cons a (q.append r)
theorem Rds.snoc {B : Wd} {P : Addr → Prop} {h : Heap} {vs : List Value} {ds : List PyData} {v : Value} {d : PyData} (r : Rds B P h vs ds) (a : Rd B P h v d) : Rds B P h (vs ++ [v]) (ds ++ [d]) :=
  r.append (.cons a .nil)

/-- a shape of things of one's own: the addresses, what is so of them, that it stays -/
structure Raw where
  as : List Addr
  φ : Wd → (Addr → Prop) → Heap → Value → Prop
  up : ∀ {B : Wd} {P P' : Addr → Prop} {h h' : Heap} {v : Value}, φ B P h v → (∀ b o, P b ∨ b ∈ as → h.get? b = some o → NoFields o → h'.get? b = some o) → (∀ b o, P b → h.get? b = some o → NoFields o → P' b) → φ B P' h' v
/-- what a name stands for -/
inductive LV where
  | raw (R : Raw)
  | dat (d : PyData)
  | lst (xs : List PyData)
  | dct (kvs : List (Str × PyData))
noncomputable abbrev Loc := Str → Option LV
noncomputable def put (x : Str) (lv : LV) (ρ : Loc) : Loc := fun y => if y = x then some lv else ρ y
theorem put_eq (x : Str) (lv : LV) (ρ : Loc) : put x lv ρ x = some lv := if_pos rfl
theorem put_ne {x y : Str} (lv : LV) (ρ : Loc) (h : y ≠ x) : put x lv ρ y = ρ y := if_neg h

noncomputable def adr (fs : List Env) : List Addr := fs.filterMap (·.frame)

/-- what stays: all but own; of the frames, all but the slots -/
structure Stay (fr own : List Addr) (h h' : Heap) : Prop where
  keep : ∀ b o, b ∉ fr → b ∉ own → h.get? b = some o → h'.get? b = some o
  slot : ∀ b o, b ∉ own → h.get? b = some o → ∃ sl, h'.get? b = some { o with slots := sl }
  live : ∀ b o, h.get? b = some o → ∃ o', h'.get? b = some o'

theorem Stay.refl (fr own : List Addr) (h : Heap) : Stay fr own h h := ⟨fun _ _ _ _ e => e, fun _ o _ e => ⟨o.slots, e⟩, fun _ o e => ⟨o, e⟩⟩
theorem Stay.of_all {fr own : List Addr} {h h' : Heap} (k : ∀ b o, h.get? b = some o → h'.get? b = some o) : Stay fr own h h' :=
  ⟨fun b o _ _ e => k b o e, fun b o _ e => ⟨o.slots, k b o e⟩, fun b o e => ⟨o, k b o e⟩⟩
theorem Stay.push (fr own : List Addr) (h : Heap) (o : Obj) : Stay fr own h (h.push o) := .of_all fun _ _ e => Heap.get?_push_of_some o e
theorem Stay.mono {fr own own' : List Addr} {h h' : Heap} (x : Stay fr own h h') (s : ∀ b ∈ own, b ∈ own') : Stay fr own' h h' :=
  ⟨fun b o f w e => x.keep b o f (fun q => w (s b q)) e, fun b o w e => x.slot b o (fun q => w (s b q)) e, x.live⟩
theorem Stay.trans {fr own own' : List Addr} {h h' h'' : Heap} (x : Stay fr own h h') (y : Stay fr own' h' h'') (n : ∀ a ∈ own', a ∈ own ∨ h.get? a = none) : Stay fr own h h'' := by
  have no : ∀ b o, b ∉ own → h.get? b = some o → b ∉ own' := fun b o w e q => by
    rcases n b q with r | r
    · exact w r
    · rw [r] at e; cases e
  refine ⟨fun b o f w e => y.keep b o f (no b o w e) (x.keep b o f w e), fun b o w e => ?_, fun b o e => let ⟨o', e'⟩ := x.live b o e; y.live b o' e'⟩
  obtain ⟨sl, e'⟩ := x.slot b o w e
  obtain ⟨sl', e''⟩ := y.slot b _ (no b o w e) e'
  exact ⟨sl', e''⟩
theorem Stay.tr {fr : List Addr} {h h' h'' : Heap} (x : Stay fr [] h h') (y : Stay fr [] h' h'') : Stay fr [] h h'' := x.trans y fun _ q => nomatch q

/-- the modes of a reading -/
inductive Md where | O | C | F | N
noncomputable def Md.P (md : Md) (h₀ : Heap) (fs : List Env) (L : Addr) (own : List Addr) (b : Addr) : Prop :=
  b ∉ adr fs ∧ match md with
    | .O => True
    | .C => b ≠ L ∧ b ∉ own
    | .F => h₀.get? b = none
    | .N => (b ≠ L ∧ b ∉ own) ∧ h₀.get? b = none

noncomputable def VarIs (env : Env) (m : Str → Option Value) (h : Heap) (x : Str) (v : Value) : Prop :=
  (env.kindOf x = some .local ∧ m x = some v) ∨ ((env.kindOf x = some .cell ∨ env.kindOf x = some .free) ∧ x ≠ "__classdict__" ∧ ∃ c, env.cells.lookup x = some c ∧ h.IsCell c (some v))

noncomputable def VarAt (B : Wd) (h₀ : Heap) (fs : List Env) (env : Env) (own : List Addr) (oa : Str → Option Addr) (m : Str → Option Value) (h : Heap) (x : Str) : LV → Prop
  | .dat d => ∃ v, VarIs env m h x v ∧ Rd B (Md.C.P h₀ fs env.locals own) h v d
  | .lst xs => ∃ a vs, oa x = some a ∧ VarIs env m h x (.ref a) ∧ h.PlainList a vs ∧ Rds B (Md.N.P h₀ fs env.locals own) h vs.toList xs
  | .raw R => ∃ v, VarIs env m h x v ∧ (∀ a ∈ R.as, a ∈ own ∧ (∀ y, oa y ≠ some a) ∧ ∀ p ∈ env.cells, p.2 ≠ a) ∧ R.φ B (Md.N.P h₀ fs env.locals own) h v
  | .dct kvs => ∃ a ws, oa x = some a ∧ VarIs env m h x (.ref a) ∧ h.DictOf (strKind B.prog B.w) a ((kvs.map (·.1)).zip ws) ∧ (a == sysModules) = false ∧ Rds B (Md.N.P h₀ fs env.locals own) h ws (kvs.map (·.2))

structure SR (B : Wd) (h₀ : Heap) (fs : List Env) (env : Env) (own : List Addr) (ρ : Loc) (h : Heap) : Prop where
  stays : B.base.StaysIn h
  frames : h.FunFrames B.base fs
  kept : Stay (adr fs) [] h₀ h
  owns : ∀ a ∈ own, (∃ o, h.get? a = some o) ∧ B.base.get? a = none ∧ h₀.get? a = none ∧ a ≠ env.locals ∧ a ∉ adr fs
  loc : B.base.get? env.locals = none ∧ h₀.get? env.locals = none
  cells : ∀ p ∈ env.cells, p.2 ∈ own
  cellish : (∀ p ∈ env.cells, ∃ v, h.IsCell p.2 v) ∧ ∀ p ∈ env.cells, ∀ q ∈ env.cells, p.2 = q.2 → p.1 = q.1
  vars : ∃ m oa, h.Ns env.locals m ∧ (∀ x y a, oa x = some a → oa y = some a → x = y) ∧ (∀ x a, oa x = some a → a ∈ own) ∧ ∀ x lv, ρ x = some lv → VarAt B h₀ fs env own oa m h x lv

structure Sit (nm : List (Str × NameKind)) (n : Nat) (A : Around) (fs : List Env) (env : Env) : Prop where
  kind : env.scope.kind = .function
  names : env.scope.names = nm
  globals : env.globals = mainGlobals
  builtins : env.builtins = builtinsNs
  handled : A.handled = none
  frames : A.frames = some fs
  depth : A.depth + n ≤ 990
  units : A.units + 8 * n ≤ 9000
  top : nm.lookup (".0" : Str) = none → (∃ outer, fs = env :: outer) ∧ env.frame = some env.locals
  cells : nm.lookup (".0" : Str) = none → ∀ x, nm.lookup x = some .cell → ∃ c, env.cells.lookup x = some c

structure Sta (B : Wd) (nm : List (Str × NameKind)) (n : Nat) (A : Around) (fs : List Env) (env : Env) (h₀ : Heap) (own : List Addr) (ρ : Loc) (s : Shared) : Prop where
  ok : B.Ok
  sit : Sit nm n A fs env
  sr : SR B h₀ fs env own ρ s.heap
  tok : 1 ≤ s.toks

section
variable {B : Wd} {h₀ : Heap} {fs : List Env} {env : Env} {own : List Addr} {ρ : Loc} {h h' : Heap}

theorem SR.ns (S : SR B h₀ fs env own ρ h) : ∃ m, h.Ns env.locals m := let ⟨m, _, n, _⟩ := S.vars; ⟨m, n⟩
theorem SR.loc_live (S : SR B h₀ fs env own ρ h) : ∃ o, h.get? env.locals = some o := let ⟨_, o, _, _, e, _⟩ := S.ns; ⟨o, e⟩
theorem adr_live {h base : Heap} {fs : List Env} (F : h.FunFrames base fs) {b : Addr} (hb : b ∈ adr fs) : base.get? b = none ∧ ∃ o, h.get? b = some o :=
  let ⟨n, o, e, _⟩ := F.mem hb; ⟨n, o, e⟩
theorem fresh_ne {h : Heap} {b : Addr} {o : Obj} (e : h.get? b = some o) : h.objs.size ≠ b := fun q => absurd (Heap.lt_size e) (q ▸ Nat.lt_irrefl _)

/-- a new address is good in every mode -/
theorem SR.fresh (S : SR B h₀ fs env own ρ h) (md : Md) {b : Addr} (hb : h.get? b = none) : md.P h₀ fs env.locals own b := by
  have ne : ∀ {c : Addr} {o : Obj}, h.get? c = some o → b ≠ c := fun e q => by rw [q, e] at hb; cases hb
  have h1 : b ∉ adr fs := fun q => by obtain ⟨_, o, e⟩ := adr_live S.frames q; exact ne e rfl
  have h2 : b ≠ env.locals := let ⟨_, e⟩ := S.loc_live; ne e
  have h3 : b ∉ own := fun q => by obtain ⟨⟨o, e⟩, _⟩ := S.owns b q; exact ne e rfl
  have h4 : h₀.get? b = none := by
    cases e : h₀.get? b with
    | none => rfl
    | some o => obtain ⟨o', e'⟩ := S.kept.live b o e; exact (ne e' rfl).elim
  cases md
  · exact ⟨h1, trivial⟩
  · exact ⟨h1, h2, h3⟩
  · exact ⟨h1, h4⟩
  · exact ⟨h1, ⟨h2, h3⟩, h4⟩
theorem get_size (h : Heap) : h.get? h.objs.size = none := by
  cases e : h.get? h.objs.size with
  | none => rfl
  | some o => exact absurd (Heap.lt_size e) (Nat.lt_irrefl _)

theorem ns_slot {h h' : Heap} {L : Addr} {m : Str → Option Value} (n : h.Ns L m) (k : ∀ o, h.get? L = some o → ∃ sl, h'.get? L = some { o with slots := sl }) : h'.Ns L m := by
  obtain ⟨o, es, ep, e, d, r⟩ := n
  obtain ⟨sl, e'⟩ := k o e
  exact ⟨_, es, ep, e', d, r⟩

theorem VarIs.stay {m : Str → Option Value} {x : Str} {v : Value} (X : VarIs env m h x v) (k : ∀ c o, x ≠ "__classdict__" → env.cells.lookup x = some c → h.get? c = some o → h'.get? c = some o) : VarIs env m h' x v := by
  rcases X with q | ⟨q, nc, c, e, o, ho, hd⟩
  · exact .inl q
  · exact .inr ⟨q, nc, c, e, o, k c o nc e ho, hd⟩

theorem mem_lookup {cells : List (Str × Addr)} {x : Str} {c : Addr} (e : cells.lookup x = some c) : ∃ y, (y, c) ∈ cells := by
  induction cells with
  | nil => cases e
  | cons p r ih =>
    obtain ⟨y, d⟩ := p
    rw [List.lookup_cons] at e
    cases q : x == y with
    | true => rw [q] at e; cases e; exact ⟨y, .head _⟩
    | false => rw [q] at e; obtain ⟨z, hz⟩ := ih e; exact ⟨z, .tail _ hz⟩

/-- growing alone keeps the state -/
theorem SR.grow (S : SR B h₀ fs env own ρ h) (k : Stay (adr fs) [] h h') : SR B h₀ fs env own ρ h' := by
  obtain ⟨m, oa, n, inj, sub, vs⟩ := S.vars
  have kb : ∀ b o, b ∉ adr fs → h.get? b = some o → h'.get? b = some o := fun b o f e => k.keep b o f (fun q => nomatch q) e
  have kc : ∀ {x : Str} {v : Value}, VarIs env m h x v → VarIs env m h' x v := fun X => X.stay fun c o _ e ho => by
    obtain ⟨y, hy⟩ := mem_lookup e
    exact kb c o (S.owns _ (S.cells _ hy)).2.2.2.2 ho
  refine ⟨fun b o e => kb b o (fun q => ?_) (S.stays b o e), S.frames.of_keeps fun b o e _ => let ⟨sl, e'⟩ := k.slot b o (fun q => nomatch q) e; ⟨_, e', rfl⟩,
    S.kept.tr k, fun a ha => let ⟨⟨o, e⟩, r⟩ := S.owns a ha; ⟨k.live a o e, r⟩, S.loc, S.cells,
    ⟨fun p hp => let ⟨v, o, e, d⟩ := S.cellish.1 p hp; ⟨v, o, kb _ o (S.owns _ (S.cells p hp)).2.2.2.2 e, d⟩, S.cellish.2⟩, m, oa, ns_slot n fun o e => k.slot _ o (fun q => nomatch q) e, inj, sub, fun x lv e => ?_⟩
  · have := (adr_live S.frames q).1; rw [e] at this; cases this
  · have V := vs x lv e
    cases lv with
    | dat d => obtain ⟨v, X, r⟩ := V; exact ⟨v, kc X, r.up (fun b o p => kb b o p.1) fun _ _ p _ => p⟩
    | raw R => obtain ⟨v, X, ho, r⟩ := V; exact ⟨v, kc X, ho, R.up r (fun b o p e _ => kb b o (p.elim (fun p => p.1) fun p => (S.owns b (ho b p).1).2.2.2.2) e) fun _ _ p _ _ => p⟩
    | lst xs =>
      obtain ⟨a, ws, ea, X, l, r⟩ := V
      exact ⟨a, ws, ea, kc X, plainList_keep l fun o => kb a o (S.owns a (sub x a ea)).2.2.2.2, r.up (fun b o p => kb b o p.1) fun _ _ p _ => p⟩
    | dct kvs =>
      obtain ⟨a, ws, ea, X, l, na, r⟩ := V
      exact ⟨a, ws, ea, kc X, dictOf_keep l fun o => kb a o (S.owns a (sub x a ea)).2.2.2.2, na, r.up (fun b o p => kb b o p.1) fun _ _ p _ => p⟩
end

theorem Sta.grow {B : Wd} {nm : List (Str × NameKind)} {n : Nat} {A : Around} {fs : List Env} {env : Env} {h₀ : Heap} {own : List Addr} {ρ : Loc} {s : Shared} {h' : Heap} {tk : Nat}
    (S : Sta B nm n A fs env h₀ own ρ s) (k : Stay (adr fs) [] s.heap h') (t : s.toks ≤ tk) : Sta B nm n A fs env h₀ own ρ { s with heap := h', toks := tk } :=
  ⟨S.ok, S.sit, S.sr.grow k, Nat.le_trans S.tok t⟩

/-- an expression gives a datum; the heap only grows -/
noncomputable def Gives (B : Wd) (md : Md) (A : Around) (fs : List Env) (env : Env) (h₀ : Heap) (own : List Addr) (s : Shared) (t : Sem Value) (d : PyData) : Prop :=
  wpAny B.M A t (fun v s' => ∃ h' tk, s' = { s with heap := h', toks := tk } ∧ Stay (adr fs) [] s.heap h' ∧ Rd B (md.P h₀ fs env.locals own) h' v d) (fun _ _ => False) s
noncomputable def Ev (B : Wd) (nm : List (Str × NameKind)) (n : Nat) (md : Md) (ρ : Loc) (e : Expr) (d : PyData) : Prop :=
  ∀ A fs env h₀ own s, Sta B nm n A fs env h₀ own ρ s → Gives B md A fs env h₀ own s (eval e env) d
noncomputable def Tr (B : Wd) (nm : List (Str × NameKind)) (n : Nat) (ρ : Loc) (e : Expr) (b : Bool) : Prop :=
  ∀ A fs env h₀ own s, Sta B nm n A fs env h₀ own ρ s → wpAny B.M A (isTrue e env (eval e env)) (fun r s' => r = b ∧ ∃ h' tk, s' = { s with heap := h', toks := tk } ∧ Stay (adr fs) [] s.heap h') (fun _ _ => False) s

section
variable {B : Wd} {nm : List (Str × NameKind)} {n : Nat} {md : Md} {A : Around} {fs : List Env} {env : Env} {h₀ : Heap} {own : List Addr} {ρ : Loc} {s : Shared} {e : Expr} {d : PyData}

theorem Gives.then {t : Sem Value} {Q : Value → Shared → Prop} (g : Gives B md A fs env h₀ own s t d) (S : Sta B nm n A fs env h₀ own ρ s)
    (k : ∀ v h' tk, Stay (adr fs) [] s.heap h' → Sta B nm n A fs env h₀ own ρ { s with heap := h', toks := tk } → Rd B (md.P h₀ fs env.locals own) h' v d → Q v { s with heap := h', toks := tk }) :
    wpAny B.M A t Q (fun _ _ => False) s :=
  wpAny_mono (wpAny_toks_of (n := s.toks) (Nat.le_refl _) g) (fun v s' ⟨ht, h', tk, es, st, r⟩ => by subst es; exact k v h' tk st (S.grow st ht) r) fun _ _ x => x.2

theorem Ev.then {Q : Value → Shared → Prop} (he : Ev B nm n md ρ e d) (S : Sta B nm n A fs env h₀ own ρ s)
    (k : ∀ v h' tk, Stay (adr fs) [] s.heap h' → Sta B nm n A fs env h₀ own ρ { s with heap := h', toks := tk } → Rd B (md.P h₀ fs env.locals own) h' v d → Q v { s with heap := h', toks := tk }) :
    wpAny B.M A (eval e env) Q (fun _ _ => False) s := (he A fs env h₀ own s S).then S k

theorem Tr.then {b : Bool} {Q : Bool → Shared → Prop} (he : Tr B nm n ρ e b) (S : Sta B nm n A fs env h₀ own ρ s)
    (k : ∀ h' tk, Stay (adr fs) [] s.heap h' → Sta B nm n A fs env h₀ own ρ { s with heap := h', toks := tk } → Q b { s with heap := h', toks := tk }) :
    wpAny B.M A (isTrue e env (eval e env)) Q (fun _ _ => False) s :=
  wpAny_mono (wpAny_toks_of (n := s.toks) (Nat.le_refl _) (he A fs env h₀ own s S)) (fun v s' ⟨ht, hb, h', tk, es, st⟩ => by subst es; subst hb; exact k h' tk st (S.grow st ht)) fun _ _ x => x.2

/-- a reading survives growth -/
theorem Rd.grow {h h' : Heap} {L : Addr} {v : Value} (k : Stay (adr fs) [] h h') (r : Rd B (md.P h₀ fs L own) h v d) : Rd B (md.P h₀ fs L own) h' v d :=
  r.up (fun b o p e => k.keep b o p.1 (fun q => nomatch q) e) fun _ _ p _ => p
theorem Rds.grow {h h' : Heap} {L : Addr} {vs : List Value} {ds : List PyData} (k : Stay (adr fs) [] h h') (r : Rds B (md.P h₀ fs L own) h vs ds) : Rds B (md.P h₀ fs L own) h' vs ds :=
  r.up (fun b o p e => k.keep b o p.1 (fun q => nomatch q) e) fun _ _ p _ => p
end
end Mine
end

section
set_option maxRecDepth 100000
namespace Mine
noncomputable abbrev tx (l : List Nat) : PyData := .str ⟨l.toArray⟩

section inv
variable {B : Wd} {P : Addr → Prop} {h : Heap} {v : Value}
theorem Rd.str_inv {x : Str} (r : Rd B P h v (.str x)) : ∃ t, v = .str x t := by cases r; exact ⟨_, rfl⟩
theorem Rd.int_inv {i : Int} (r : Rd B P h v (.int i)) : ∃ t, v = .int i t := by cases r; exact ⟨_, rfl⟩
theorem Rd.bool_inv {b : Bool} (r : Rd B P h v (.bool b)) : v = .bool b := by cases r; rfl
theorem Rd.list_inv {xs : List PyData} (r : Rd B P h v (.list xs)) : ∃ a vs, v = .ref a ∧ P a ∧ h.IsList a vs ∧ Rds B P h vs.toList xs := by cases r with | list p l q => exact ⟨_, _, rfl, p, l, q⟩
theorem Rd.tuple_inv {xs : List PyData} (r : Rd B P h v (.tuple xs)) : ∃ a vs, v = .ref a ∧ P a ∧ h.IsTuple a vs ∧ Rds B P h vs.toList xs := by cases r with | tuple p l q => exact ⟨_, _, rfl, p, l, q⟩
theorem Rds.cons_inv {vs : List Value} {d : PyData} {ds : List PyData} (r : Rds B P h vs (d :: ds)) : ∃ v ws, vs = v :: ws ∧ Rd B P h v d ∧ Rds B P h ws ds := by cases r with | cons a q => exact ⟨_, _, rfl, a, q⟩
theorem Rds.nil_inv {vs : List Value} (r : Rds B P h vs []) : vs = [] := by cases r; rfl
end inv

/-- a datum without addresses -/
noncomputable def flat : PyData → Bool
  | .none | .bool _ | .int _ | .str _ => true
  | _ => false
theorem Rd.flat {B : Wd} {P P' : Addr → Prop} {h h' : Heap} {v : Value} {d : PyData} (r : Rd B P h v d) (f : flat d = true) : Rd B P' h' v d := by
  cases r with
  | none => exact .none
  | bool b => exact .bool b
  | int i t => exact .int i t
  | str x t => exact .str x t
  | list => cases f
  | tuple => cases f
  | dict => cases f

section
variable {B : Wd} {nm : List (Str × NameKind)} {n : Nat} {md : Md} {ρ : Loc} {e : Expr} {d : PyData} {k : Nat} {pos : Pos}

/-- a weaker mode -/
noncomputable def Md.le : Md → Md → Bool
  | _, .O => true
  | .C, .C | .F, .F | .N, .N | .N, .C | .N, .F => true
  | _, _ => false
theorem Md.P.le {md md' : Md} (hm : md.le md' = true) {h₀ : Heap} {fs : List Env} {L : Addr} {own : List Addr} {b : Addr} (p : md.P h₀ fs L own b) : md'.P h₀ fs L own b := by
  obtain ⟨p1, p2⟩ := p
  cases md <;> cases md' <;> first | exact ⟨p1, trivial⟩ | exact ⟨p1, p2⟩ | exact ⟨p1, p2.1⟩ | exact ⟨p1, p2.2⟩ | cases hm
theorem Ev.le {md' : Md} (h : Ev B nm n md ρ e d) (hm : md.le md' = true) : Ev B nm n md' ρ e d := fun A fs env h₀ own s S =>
  wpAny_mono (h A fs env h₀ own s S) (fun _ _ ⟨h', tk, e, st, r⟩ => ⟨h', tk, e, st, r.up (fun _ _ _ e => e) fun _ _ p _ => p.le hm⟩) fun _ _ x => x
theorem Ev.O (h : Ev B nm n md ρ e d) : Ev B nm n .O ρ e d := h.le (by cases md <;> rfl)
theorem Ev.fl {md' : Md} (h : Ev B nm n md ρ e d) (f : flat d = true) : Ev B nm n md' ρ e d := fun A fs env h₀ own s S =>
  wpAny_mono (h A fs env h₀ own s S) (fun _ _ ⟨h', tk, e, st, r⟩ => ⟨h', tk, e, st, r.flat f⟩) fun _ _ x => x

theorem ev_int {i : Int} : Ev B nm n md ρ (.Constant (.int i) k pos) (.int i) := fun _ _ _ _ _ s _ => wpAny_Constant_int ⟨s.heap, _, rfl, .refl _ _ _, .int _ _⟩
theorem ev_str {x : Str} : Ev B nm n md ρ (.Constant (.str x) k pos) (.str x) := fun _ _ _ _ _ s _ => wpAny_Constant_str ⟨s.heap, _, rfl, .refl _ _ _, .str _ _⟩
theorem ev_bool {b : Bool} : Ev B nm n md ρ (.Constant (.bool b) k pos) (.bool b) := fun _ _ _ _ _ s _ => wpAny_Constant_bool ⟨s.heap, s.toks, rfl, .refl _ _ _, .bool _⟩

theorem load_var {A : Around} {fs : List Env} {env : Env} {h₀ : Heap} {own : List Addr} {s : Shared} {m : Str → Option Value} {x : Str} {v : Value} {Q : Value → Shared → Prop} {E : Value → Shared → Prop}
    (S : Sta B nm n A fs env h₀ own ρ s) (hn : s.heap.Ns env.locals m) (X : VarIs env m s.heap x v) (h : Q v s) : wpAny B.M A (loadName env x) Q E s := by
  rcases X with ⟨hk, hv⟩ | ⟨hk | hk, nc, c, hc, hv⟩
  · exact wpAny_loadName_local S.sit.kind hk hn hv h
  · exact wpAny_loadName_cell S.sit.kind hk hc hv h
  · exact wpAny_loadName_free S.sit.kind hk hc hv h (by simpa using nc)

theorem ev_name {x : Str} (hx : ρ x = some (.dat d)) (hm : md = .O ∨ md = .C ∨ flat d = true) (hd : (x == ("__debug__" : Str)) = false := by decide) : Ev B nm n md ρ (.Name x pos) d := fun A fs env h₀ own s S => by
  obtain ⟨m, oa, hn, _, _, vs⟩ := S.sr.vars
  obtain ⟨v, X, r⟩ := vs x _ hx
  refine wpAny_Name (load_var S hn X ⟨s.heap, s.toks, rfl, .refl _ _ _, ?_⟩) hd
  rcases hm with rfl | rfl | f
  · exact r.up (fun _ _ _ e => e) fun _ _ p _ => ⟨p.1, trivial⟩
  · exact r
  · exact r.flat f
/-- an owned list read or handed out -/
theorem ev_own {x : Str} {xs : List PyData} (hx : ρ x = some (.lst xs)) (hm : md = .O ∨ md = .F) (hd : (x == ("__debug__" : Str)) = false := by decide) : Ev B nm n md ρ (.Name x pos) (.list xs) := fun A fs env h₀ own s S => by
  obtain ⟨m, oa, hn, _, sub, vs⟩ := S.sr.vars
  obtain ⟨a, ws, ea, X, l, r⟩ := vs x _ hx
  obtain ⟨⟨o, e⟩, b1, b2, b3, b4⟩ := S.sr.owns a (sub x a ea)
  refine wpAny_Name (load_var S hn X ⟨s.heap, s.toks, rfl, .refl _ _ _, ?_⟩) hd
  rcases hm with rfl | rfl
  · exact .list ⟨b4, trivial⟩ l.isList (r.up (fun _ _ _ e => e) fun _ _ p _ => ⟨p.1, trivial⟩)
  · exact .list ⟨b4, b2⟩ l.isList (r.up (fun _ _ _ e => e) fun _ _ p _ => ⟨p.1, p.2.2⟩)
theorem ev_ownD {x : Str} {kvs : List (Str × PyData)} (hx : ρ x = some (.dct kvs)) (hm : md = .O ∨ md = .F) (hd : (x == ("__debug__" : Str)) = false := by decide) : Ev B nm n md ρ (.Name x pos) (.dict (kvs.map fun kv => (PyData.str kv.1, kv.2))) := fun A fs env h₀ own s S => by
  obtain ⟨m, oa, hn, _, sub, vs⟩ := S.sr.vars
  obtain ⟨a, ws, ea, X, l, na, r⟩ := vs x _ hx
  obtain ⟨⟨o, e⟩, b1, b2, b3, b4⟩ := S.sr.owns a (sub x a ea)
  have hl : ws.length = kvs.length := by simpa using r.length
  have e1 : ((kvs.map (·.1)).zip ws).map (·.2) = ws := by
    rw [List.map_snd_zip]; simp [hl]
  have e2 : ((kvs.map (·.1)).zip ws).map (fun kv => PyData.str kv.1) = kvs.map fun kv => PyData.str kv.1 := by
    rw [show (fun kv : Str × Value => PyData.str kv.1) = PyData.str ∘ Prod.fst from rfl, ← List.map_map, List.map_fst_zip]
    · rw [List.map_map]; rfl
    · simp [hl]
  have e3 : (kvs.map fun kv => PyData.str kv.1).zip (kvs.map (·.2)) = kvs.map fun kv => (PyData.str kv.1, kv.2) := by
    rw [List.zip_map']
  refine wpAny_Name (load_var S hn X ⟨s.heap, s.toks, rfl, .refl _ _ _, ?_⟩) hd
  rw [← e3, ← e2]
  rcases hm with rfl | rfl
  · exact .dict ⟨b4, trivial⟩ l na (by rw [e1]; exact r.up (fun _ _ _ e => e) fun _ _ p _ => ⟨p.1, trivial⟩)
  · exact .dict ⟨b4, b2⟩ l na (by rw [e1]; exact r.up (fun _ _ _ e => e) fun _ _ p _ => ⟨p.1, p.2.2⟩)

/-- two operands, one after the other -/
theorem two {A : Around} {fs : List Env} {env : Env} {h₀ : Heap} {own : List Addr} {s : Shared} {a b : Expr} {da db : PyData} {md' : Md} (ha : Ev B nm n md ρ a da) (hb : Ev B nm n md' ρ b db) (S : Sta B nm n A fs env h₀ own ρ s) {Q : Value → Value → Shared → Prop}
    (h : ∀ va vb h' tk, Stay (adr fs) [] s.heap h' → Sta B nm n A fs env h₀ own ρ { s with heap := h', toks := tk } → Rd B (md.P h₀ fs env.locals own) h' va da → Rd B (md'.P h₀ fs env.locals own) h' vb db → Q va vb { s with heap := h', toks := tk }) :
    wpAny B.M A (eval a env) (fun va s₁ => wpAny B.M A (eval b env) (fun vb s₂ => Q va vb s₂) (fun _ _ => False) s₁) (fun _ _ => False) s :=
  ha.then S fun va h₁ tk₁ st₁ S₁ ra => hb.then S₁ fun vb h₂ tk₂ st₂ S₂ rb => h va vb h₂ tk₂ (st₁.tr st₂) S₂ (ra.grow st₂) rb

theorem ev_bin {a b : Expr} {op : Operator} {da db : PyData} (ha : Ev B nm n .O ρ a da) (hb : Ev B nm n .O ρ b db)
    (h : ∀ (A : Around) (s : Shared) (va vb : Value) (P : Addr → Prop), Rd B P s.heap va da → Rd B P s.heap vb db → wpAny B.M A (binaryOp op va vb) (fun v s' => (∃ tk, s' = { s with toks := tk }) ∧ ∀ P, Rd B P s.heap v d) (fun _ _ => False) s) :
    Ev B nm n md ρ (.BinOp a op b pos) d := fun A fs env h₀ own s S => by
  refine wpAny_BinOp (two ha hb S fun va vb h' tk st S' ra rb => ?_)
  exact wpAny_mono (h A _ va vb _ ra rb) (fun v s' ⟨⟨tk', e⟩, r⟩ => ⟨h', tk', e, st, r _⟩) fun _ _ x => x

theorem tx_append (l r : List Nat) : ((⟨l.toArray⟩ : Str) ++ (⟨r.toArray⟩ : Str)) = ⟨(l ++ r).toArray⟩ := by
  show Str.append _ _ = _; simp [Str.append]
theorem tx_len (l : List Nat) : (⟨l.toArray⟩ : Str).length = l.length := by simp [Str.length]

theorem ev_cat {a b : Expr} {x y : List Nat} (ha : Ev B nm n .O ρ a (tx x)) (hb : Ev B nm n .O ρ b (tx y)) (hz : x.length + y.length ≤ 16777216) : Ev B nm n md ρ (.BinOp a .Add b pos) (tx (x ++ y)) :=
  ev_bin ha hb fun A s va vb P ra rb => by
    obtain ⟨t, rfl⟩ := ra.str_inv
    obtain ⟨u, rfl⟩ := rb.str_inv
    exact add_str (fun t' tk => ⟨⟨tk, rfl⟩, fun P => by rw [tx_append]; exact .str _ _⟩) (by rw [tx_len, tx_len, sizeLine_eq]; exact hz)
theorem ev_add {a b : Expr} {x y : Int} (ha : Ev B nm n .O ρ a (.int x)) (hb : Ev B nm n .O ρ b (.int y)) : Ev B nm n md ρ (.BinOp a .Add b pos) (.int (x + y)) :=
  ev_bin ha hb fun A s va vb P ra rb => by
    obtain ⟨t, rfl⟩ := ra.int_inv
    obtain ⟨u, rfl⟩ := rb.int_inv
    exact wpAny_add_int ⟨⟨_, rfl⟩, fun P => .int _ _⟩
theorem ev_mod {a b : Expr} {x y : Int} (ha : Ev B nm n .O ρ a (.int x)) (hb : Ev B nm n .O ρ b (.int y)) (hy : y ≠ 0) : Ev B nm n md ρ (.BinOp a .Mod b pos) (.int (x.fmod y)) :=
  ev_bin ha hb fun A s va vb P ra rb => by
    obtain ⟨t, rfl⟩ := ra.int_inv
    obtain ⟨u, rfl⟩ := rb.int_inv
    exact mod_int hy ⟨⟨_, rfl⟩, fun P => .int _ _⟩
theorem small_div (x : Int) {y : Int} (h : y.natAbs < 2 ^ 64) : Builtin.divisionGoesByPylong x y = false := by
  unfold Builtin.divisionGoesByPylong
  have : ¬ (if (y == 0) = true then 0 else y.natAbs.log2 / 30 + 1) > 300 := by
    split
    · omega
    · rename_i hy
      have h1 : y.natAbs ≠ 0 := by simpa using hy
      have h2 : y.natAbs.log2 < 64 := (Nat.log2_lt h1).mpr h
      omega
  simp only [decide_eq_false this, Bool.false_and]
theorem ev_div {a b : Expr} {x y : Int} (ha : Ev B nm n .O ρ a (.int x)) (hb : Ev B nm n .O ρ b (.int y)) (hy : y ≠ 0) (hs : y.natAbs < 2 ^ 64) : Ev B nm n md ρ (.BinOp a .FloorDiv b pos) (.int (x.fdiv y)) :=
  ev_bin ha hb fun A s va vb P ra rb => by
    obtain ⟨t, rfl⟩ := ra.int_inv
    obtain ⟨u, rfl⟩ := rb.int_inv
    exact floordiv_int hy ⟨⟨_, rfl⟩, fun P => .int _ _⟩ (.inl (small_div x hs))
theorem ev_sub {a b : Expr} {x y : Int} (ha : Ev B nm n .O ρ a (.int x)) (hb : Ev B nm n .O ρ b (.int y)) : Ev B nm n md ρ (.BinOp a .Sub b pos) (.int (x - y)) :=
  ev_bin ha hb fun A s va vb P ra rb => by
    obtain ⟨t, rfl⟩ := ra.int_inv
    obtain ⟨u, rfl⟩ := rb.int_inv
    exact sub_int ⟨⟨_, rfl⟩, fun P => .int _ _⟩
theorem ev_pow {a b : Expr} {x y : Int} (ha : Ev B nm n .O ρ a (.int x)) (hb : Ev B nm n .O ρ b (.int y)) (h0 : 0 ≤ y) (hz : (Builtin.Int.intBits x : Int) * y ≤ 2 ^ 27) : Ev B nm n md ρ (.BinOp a .Pow b pos) (.int (x ^ y.toNat)) :=
  ev_bin ha hb fun A s va vb P ra rb => by
    obtain ⟨t, rfl⟩ := ra.int_inv
    obtain ⟨u, rfl⟩ := rb.int_inv
    exact pow_int h0 hz ⟨⟨_, rfl⟩, fun P => .int _ _⟩
end
end Mine
end

section
set_option maxRecDepth 100000
namespace Mine
open PySem.SeqAt PySem.MeetsSeq

mutual
/-- no dict within, and how deep -/
noncomputable def nd : PyData → Bool
  | .none | .bool _ | .int _ | .str _ => true
  | .list xs | .tuple xs => nds xs
  | .dict _ => false
noncomputable def nds : List PyData → Bool
  | [] => true
  | x :: xs => nd x && nds xs
end
theorem nds_mem : ∀ {xs : List PyData}, nds xs = true → ∀ x ∈ xs, nd x = true
  | y :: ys, h, x, hx => by
    simp only [nds, Bool.and_eq_true] at h
    rcases List.mem_cons.mp hx with rfl | hx
    · exact h.1
    · exact nds_mem h.2 x hx
theorem depth_mem : ∀ {xs : List PyData} {x : PyData}, x ∈ xs → x.depth ≤ PyData.depthAll xs
  | y :: ys, x, hx => by
    simp only [PyData.depthAll]
    rcases List.mem_cons.mp hx with rfl | hx
    · exact Nat.le_max_left _ _
    · exact Nat.le_trans (depth_mem hx) (Nat.le_max_right _ _)

section
variable {B : Wd} {P : Addr → Prop}

mutual
theorem Rd.unique {h : Heap} {P P' : Addr → Prop} : ∀ (d d' : PyData) (v : Value), nd d = true → Rd B P h v d → Rd B P' h v d' → d = d'
  | .none, _, _, _, r, r' => by cases r; cases r'; rfl
  | .bool _, _, _, _, r, r' => by cases r; cases r'; rfl
  | .int _, _, _, _, r, r' => by cases r; cases r'; rfl
  | .str _, _, _, _, r, r' => by cases r; cases r'; rfl
  | .list xs, d', _, hn, r, r' => by
    cases r with
    | list p l q =>
      obtain ⟨o, e, c, k, dd⟩ := l
      cases r' with
      | list p' l' q' =>
        obtain ⟨o', e', c', k', dd'⟩ := l'
        rw [e] at e'; cases e'; rw [dd] at dd'; cases dd'
        rw [Rds.unique xs _ _ hn q q']
      | tuple p' l' q' =>
        obtain ⟨o', e', c', k', dd'⟩ := l'
        rw [e] at e'; cases e'; rw [c] at c'; exact absurd c' (by simp)
      | dict p' l' n' q' =>
        obtain ⟨o', e', dd'⟩ := Heap.dictOf_iff.mp l'
        obtain ⟨es, ep, hx, hd2, _⟩ := dd'
        rw [e] at e'; cases e'; rw [dd] at hd2; cases hd2
  | .tuple xs, d', _, hn, r, r' => by
    cases r with
    | tuple p l q =>
      obtain ⟨o, e, c, k, dd⟩ := l
      cases r' with
      | tuple p' l' q' =>
        obtain ⟨o', e', c', k', dd'⟩ := l'
        rw [e] at e'; cases e'; rw [dd] at dd'; cases dd'
        rw [Rds.unique xs _ _ hn q q']
      | list p' l' q' =>
        obtain ⟨o', e', c', k', dd'⟩ := l'
        rw [e] at e'; cases e'; rw [c] at c'; exact absurd c' (by simp)
      | dict p' l' n' q' =>
        obtain ⟨o', e', dd'⟩ := Heap.dictOf_iff.mp l'
        obtain ⟨es, ep, hx, hd2, _⟩ := dd'
        rw [e] at e'; cases e'; rw [dd] at hd2; cases hd2
  | .dict _, _, _, h, _, _ => nomatch h
theorem Rds.unique {h : Heap} {P P' : Addr → Prop} : ∀ (xs ys : List PyData) (vs : List Value), nds xs = true → Rds B P h vs xs → Rds B P' h vs ys → xs = ys
  | [], _, _, _, r, r' => by cases r; cases r'; rfl
  | x :: xs, _, _, hn, r, r' => by
    simp only [nds, Bool.and_eq_true] at hn
    cases r with
    | cons a q => cases r' with
      | cons a' q' => rw [Rd.unique x _ _ hn.1 a a', Rds.unique xs _ _ hn.2 q q']
end
mutual
theorem eqv_self : ∀ d : PyData, nd d = true → PyData.eqv d d = true
  | .none, _ => rfl
  | .bool b, _ => by simp [PyData.eqv]
  | .int i, _ => by simp [PyData.eqv]
  | .str x, _ => by simp [PyData.eqv]
  | .list xs, h => by rw [PyData.eqv]; exact eqvs_self xs h
  | .tuple xs, h => by rw [PyData.eqv]; exact eqvs_self xs h
  | .dict _, h => nomatch h
theorem eqvs_self : ∀ xs : List PyData, nds xs = true → PyData.eqvAll xs xs = true
  | [], _ => rfl
  | x :: xs, h => by
    simp only [nds, Bool.and_eq_true] at h
    rw [PyData.eqvAll, eqv_self x h.1, eqvs_self xs h.2]; rfl
end

theorem item_pair {h : Heap} {P : Addr → Prop} {vs : Array Value} {xs : List PyData} (r : Rds B P h vs.toList xs) {j : Nat} (j1 : j < vs.size) : Rd B P h vs[j] (xs.getD j .none) ∧ xs.getD j .none ∈ xs := by
  obtain ⟨d, e, rd⟩ := r.get (i := j) (v := vs[j]) (by simp [j1])
  rw [List.getD_eq_getElem?_getD, e]
  exact ⟨rd, List.mem_of_getElem? e⟩

/-- what == says of two data, at any depth -/
theorem eq_at {s : Shared} : ∀ (k : Nat) (da db : PyData) (A : Around) (a b : Value) (P P' : Addr → Prop), sizeOf da ≤ k → Rd B P s.heap a da → Rd B P' s.heap b db → nd da = true → nd db = true → A.units + min da.depth db.depth < cLine →
    EqAt A s a b (PyData.eqv da db)
  | 0, da, _, _, _, _, _, _, hk, _, _, _, _, _ => by cases da <;> simp at hk
  | k + 1, da, db, A, a, b, P, P', hk, ra, rb, na, nb, hu => by
    have h0 : A.units < cLine := Nat.lt_of_le_of_lt (Nat.le_add_right _ _) hu
    cases ra with
    | none => cases rb with
      | none => exact EqAt.same _
      | bool y => exact EqAt.none_bool y
      | int y u => exact EqAt.none_int y u
      | str y u => exact EqAt.none_str y u
      | list p l q => exact EqAt.none_list l h0
      | tuple p l q => exact EqAt.none_tuple l h0
      | dict => exact nomatch nb
    | bool x => cases rb with
      | none => exact EqAt.bool_none x
      | bool y => exact EqAt.bool_bool x y
      | int y u => exact EqAt.bool_int x y u
      | str y u => exact EqAt.bool_str x y u
      | list p l q => exact EqAt.bool_list x l h0
      | tuple p l q => exact EqAt.bool_tuple x l h0
      | dict => exact nomatch nb
    | int x t => cases rb with
      | none => exact EqAt.int_none x t
      | bool y => exact EqAt.int_bool x t y
      | int y u => exact EqAt.int_int x t y u
      | str y u => exact EqAt.int_str x t y u
      | list p l q => exact EqAt.int_list x t l h0
      | tuple p l q => exact EqAt.int_tuple x t l h0
      | dict => exact nomatch nb
    | str x t => cases rb with
      | none => exact EqAt.str_none x t
      | bool y => exact EqAt.str_bool x t y
      | int y u => exact EqAt.str_int x t y u
      | str y u => exact EqAt.str_str x t y u
      | list p l q => exact EqAt.str_list x t l h0
      | tuple p l q => exact EqAt.str_tuple x t l h0
      | dict => exact nomatch nb
    | @list l vs xs p hl q => cases rb with
      | none => exact EqAt.list_none hl h0
      | bool y => exact EqAt.list_bool y hl h0
      | int y u => exact EqAt.list_int y u hl h0
      | str y u => exact EqAt.list_str y u hl h0
      | tuple p' l' q' => exact EqAt.list_tuple hl l' h0
      | dict => exact nomatch nb
      | @list l' vs' ys p' hl' q' =>
        have n1 : vs.size = xs.length := by simpa using q.length
        have n2 : vs'.size = ys.length := by simpa using q'.length
        show EqAt A s (.ref l) (.ref l') (PyData.eqvAll xs ys)
        by_cases hll : l = l'
        · subst hll
          have e : PyData.list xs = PyData.list ys := Rd.unique _ _ _ na (.list p hl q) (.list p' hl' q')
          injection e with e; subst e
          rw [eqvs_self xs na]; exact EqAt.same _
        · by_cases hsz : vs.size = vs'.size
          · rw [← eqvAll_same_length (by omega : xs.length = ys.length), ← n1]
            refine EqAt.of_refs hll (RcAt.lists hl hl' hsz h0 fun j j1 j2 => ?_)
            obtain ⟨r1, m1⟩ := item_pair q j1
            obtain ⟨r2, m2⟩ := item_pair q' j2
            have z1 : sizeOf (xs.getD j .none) < sizeOf xs := List.sizeOf_lt_of_mem m1
            have hu' : A.units + min (PyData.depthAll xs + 1) (PyData.depthAll ys + 1) < cLine := hu
            refine eq_at k _ _ A.in1 _ _ _ _ (by simp at hk; omega) r1 r2 (nds_mem na _ m1) (nds_mem nb _ m2) ?_
            have d1 := depth_mem m1
            have d2 := depth_mem m2
            show A.units + 1 + _ < cLine
            omega
          · rw [eqvAll_other_length (by omega : xs.length ≠ ys.length)]
            exact EqAt.of_refs hll (RcAt.lists_lengths hl hl' (by simpa using hsz) h0)
    | @tuple l vs xs p hl q => cases rb with
      | none => exact EqAt.tuple_none hl h0
      | bool y => exact EqAt.tuple_bool y hl h0
      | int y u => exact EqAt.tuple_int y u hl h0
      | str y u => exact EqAt.tuple_str y u hl h0
      | list p' l' q' => exact EqAt.tuple_list hl l' h0
      | dict => exact nomatch nb
      | @tuple l' vs' ys p' hl' q' =>
        have n1 : vs.size = xs.length := by simpa using q.length
        have n2 : vs'.size = ys.length := by simpa using q'.length
        show EqAt A s (.ref l) (.ref l') (PyData.eqvAll xs ys)
        by_cases hll : l = l'
        · subst hll
          have e : PyData.tuple xs = PyData.tuple ys := Rd.unique _ _ _ na (.tuple p hl q) (.tuple p' hl' q')
          injection e with e; subst e
          rw [eqvs_self xs na]; exact EqAt.same _
        · rw [← eqvAll_eq xs ys, ← n1, ← n2]
          refine EqAt.of_refs hll (RcAt.tuples hl hl' h0 fun j j1 j2 => ?_)
          obtain ⟨r1, m1⟩ := item_pair q j1
          obtain ⟨r2, m2⟩ := item_pair q' j2
          have z1 : sizeOf (xs.getD j .none) < sizeOf xs := List.sizeOf_lt_of_mem m1
          have hu' : A.units + min (PyData.depthAll xs + 1) (PyData.depthAll ys + 1) < cLine := hu
          refine eq_at k _ _ A.in1 _ _ _ _ (by simp at hk; omega) r1 r2 (nds_mem na _ m1) (nds_mem nb _ m2) ?_
          have d1 := depth_mem m1
          have d2 := depth_mem m2
          show A.units + 1 + _ < cLine
          omega
    | dict => exact nomatch na
end
end Mine
end

section
set_option maxRecDepth 100000
namespace Mine
open PySem.SeqAt PySem.MeetsSeq

/-- the kinds that the texts compare by == and != -/
noncomputable def isl : PyData → Bool
  | .int _ | .str _ | .list _ => true
  | _ => false

section
variable {B : Wd}
theorem items_eq {s : Shared} {A : Around} {P P' : Addr → Prop} {vs vs' : Array Value} {xs ys : List PyData} (q : Rds B P s.heap vs.toList xs) (q' : Rds B P' s.heap vs'.toList ys) (na : nds xs = true) (nb : nds ys = true)
    (hu : A.units + min (PyData.depthAll xs + 1) (PyData.depthAll ys + 1) < cLine) : ∀ j (j1 : j < vs.size) (j2 : j < vs'.size), EqAt A.in1 s vs[j] vs'[j] (pairEq xs ys j) := fun j j1 j2 => by
  obtain ⟨r1, m1⟩ := item_pair q j1
  obtain ⟨r2, m2⟩ := item_pair q' j2
  refine eq_at (sizeOf (xs.getD j .none)) _ _ A.in1 _ _ _ _ (Nat.le_refl _) r1 r2 (nds_mem na _ m1) (nds_mem nb _ m2) ?_
  have d1 := depth_mem m1
  have d2 := depth_mem m2
  show A.units + 1 + _ < cLine
  omega
theorem rc_at {s : Shared} {A : Around} {da db : PyData} {a b : Value} {P P' : Addr → Prop} (ra : Rd B P s.heap a da) (rb : Rd B P' s.heap b db) (ia : isl da = true) (ib : isl db = true) (na : nd da = true) (nb : nd db = true)
    (hu : A.units + min da.depth db.depth < cLine) : RcAt A s a b (PyData.eqv da db) := by
  have h0 : A.units < cLine := Nat.lt_of_le_of_lt (Nat.le_add_right _ _) hu
  cases ra with
  | none => cases ia
  | bool x => cases ia
  | tuple => cases ia
  | dict => cases ia
  | int x t => cases rb with
    | none => cases ib
    | bool => cases ib
    | tuple => cases ib
    | dict => cases ib
    | int y u => exact RcAt.int_int x t y u
    | str y u => exact RcAt.int_str x t y u
    | list p l q => exact RcAt.int_list x t l h0
  | str x t => cases rb with
    | none => cases ib
    | bool => cases ib
    | tuple => cases ib
    | dict => cases ib
    | int y u => exact RcAt.str_int x t y u
    | str y u => exact RcAt.str_str x t y u
    | list p l q => exact RcAt.str_list x t l h0
  | @list l vs xs p hl q => cases rb with
    | none => cases ib
    | bool => cases ib
    | tuple => cases ib
    | dict => cases ib
    | int y u => exact RcAt.list_int y u hl h0
    | str y u => exact RcAt.list_str y u hl h0
    | @list l' vs' ys p' hl' q' =>
      have n1 : vs.size = xs.length := by simpa using q.length
      have n2 : vs'.size = ys.length := by simpa using q'.length
      show RcAt A s (.ref l) (.ref l') (PyData.eqvAll xs ys)
      by_cases hsz : vs.size = vs'.size
      · rw [← eqvAll_same_length (by omega : xs.length = ys.length), ← n1]
        exact RcAt.lists hl hl' hsz h0 (items_eq q q' na nb hu)
      · rw [eqvAll_other_length (by omega : xs.length ≠ ys.length)]
        exact RcAt.lists_lengths hl hl' (by simpa using hsz) h0
theorem rcne_at {s : Shared} {A : Around} {da db : PyData} {a b : Value} {P P' : Addr → Prop} (ra : Rd B P s.heap a da) (rb : Rd B P' s.heap b db) (ia : isl da = true) (ib : isl db = true) (na : nd da = true) (nb : nd db = true)
    (hu : A.units + min da.depth db.depth < cLine) : RcNeAt A s a b (!PyData.eqv da db) := by
  have h0 : A.units < cLine := Nat.lt_of_le_of_lt (Nat.le_add_right _ _) hu
  cases ra with
  | none => cases ia
  | bool x => cases ia
  | tuple => cases ia
  | dict => cases ia
  | int x t => cases rb with
    | none => cases ib
    | bool => cases ib
    | tuple => cases ib
    | dict => cases ib
    | int y u => exact RcNeAt.int_int x t y u
    | str y u => exact RcNeAt.int_str x t y u
    | list p l q => exact RcNeAt.int_list x t l h0
  | str x t => cases rb with
    | none => cases ib
    | bool => cases ib
    | tuple => cases ib
    | dict => cases ib
    | int y u => exact RcNeAt.str_int x t y u
    | str y u => exact RcNeAt.str_str x t y u
    | list p l q => exact RcNeAt.str_list x t l h0
  | @list l vs xs p hl q => cases rb with
    | none => cases ib
    | bool => cases ib
    | tuple => cases ib
    | dict => cases ib
    | int y u => exact RcNeAt.list_int y u hl h0
    | str y u => exact RcNeAt.list_str y u hl h0
    | @list l' vs' ys p' hl' q' =>
      have n1 : vs.size = xs.length := by simpa using q.length
      have n2 : vs'.size = ys.length := by simpa using q'.length
      show RcNeAt A s (.ref l) (.ref l') (!PyData.eqvAll xs ys)
      by_cases hsz : vs.size = vs'.size
      · rw [← eqvAll_same_length (by omega : xs.length = ys.length), ← n1]
        exact RcNeAt.lists hl hl' hsz h0 (items_eq q q' na nb hu)
      · rw [eqvAll_other_length (by omega : xs.length ≠ ys.length)]
        exact RcNeAt.lists_lengths hl hl' (by simpa using hsz) h0
end

/-- a comparison's answer -/
noncomputable def Cm (B : Wd) (nm : List (Str × NameKind)) (n : Nat) (ρ : Loc) (l : Expr) (op : CmpOp) (r : Expr) (b : Bool) : Prop :=
  ∀ A fs env h₀ own s, Sta B nm n A fs env h₀ own ρ s → wpAny B.M A (eval l env) (fun a s₁ => wpAny B.M A (eval r env) (fun c s₂ => wpAny B.M A (compareOp op a c) (fun v s₃ => v = .bool b ∧ ∃ h' tk, s₃ = { s with heap := h', toks := tk } ∧ Stay (adr fs) [] s.heap h') (fun _ _ => False) s₂) (fun _ _ => False) s₁) (fun _ _ => False) s

section
variable {B : Wd} {nm : List (Str × NameKind)} {n : Nat} {md : Md} {ρ : Loc} {e l r x y : Expr} {d : PyData} {pos : Pos} {b : Bool} {op : CmpOp}

theorem Cm.mk {da db : PyData} (hl : Ev B nm n .O ρ l da) (hr : Ev B nm n .O ρ r db)
    (h : ∀ (A : Around) (s : Shared) (va vb : Value) (P : Addr → Prop), A.units ≤ 9000 → Rd B P s.heap va da → Rd B P s.heap vb db → wpAny B.M A (compareOp op va vb) (fun v s' => v = .bool b ∧ ∃ tk, s' = { s with toks := tk }) (fun _ _ => False) s) : Cm B nm n ρ l op r b := fun A fs env h₀ own s S =>
  two hl hr S fun va vb h' tk st S' ra rb => wpAny_mono (h A _ va vb _ (by have := S.sit.units; omega) ra rb) (fun v s' ⟨e, tk', es⟩ => ⟨e, h', tk', es, st⟩) fun _ _ x => x
theorem ev_cmp (h : Cm B nm n ρ l op r b) (hm : behindInMarks op r = false := by with_unfolding_all rfl) : Ev B nm n md ρ (.Compare l [op] [r] pos) (.bool b) := fun A fs env h₀ own s S =>
  wpAny_Compare1 (wpAny_mono (h A fs env h₀ own s S) (fun a s₁ h₁ => wpAny_mono h₁ (fun c s₂ h₂ => wpAny_mono h₂ (fun v s₃ ⟨e, h', tk, es, st⟩ => ⟨h', tk, es, st, e ▸ .bool _⟩) fun _ _ x => x) fun _ _ x => x) fun _ _ x => x) hm
theorem tr_cmp (h : Cm B nm n ρ l op r b) (hm : behindInMarks op r = false := by with_unfolding_all rfl) : Tr B nm n ρ (.Compare l [op] [r] pos) b := fun A fs env h₀ own s S =>
  wpAny_isTrue_Compare1 (wpAny_mono (h A fs env h₀ own s S) (fun a s₁ h₁ => wpAny_mono h₁ (fun c s₂ h₂ => wpAny_mono h₂ (fun v s₃ ⟨e, h', tk, es, st⟩ => by subst e; exact wpAny_truthy_bool ⟨rfl, h', tk, es, st⟩) fun _ _ x => x) fun _ _ x => x) fun _ _ x => x) hm

theorem cm_eq {da db : PyData} (hl : Ev B nm n .O ρ l da) (hr : Ev B nm n .O ρ r db) (ia : isl da = true) (ib : isl db = true) (na : nd da = true) (nb : nd db = true) (hd : min da.depth db.depth ≤ 64) : Cm B nm n ρ l .Eq r (PyData.eqv da db) :=
  .mk hl hr fun A s va vb P hA ra rb => rc_at ra rb ia ib na nb (by unfold cLine; omega) _ _ _ _ ⟨rfl, s.toks, rfl⟩
theorem cm_ne {da db : PyData} (hl : Ev B nm n .O ρ l da) (hr : Ev B nm n .O ρ r db) (ia : isl da = true) (ib : isl db = true) (na : nd da = true) (nb : nd db = true) (hd : min da.depth db.depth ≤ 64) : Cm B nm n ρ l .NotEq r (!PyData.eqv da db) :=
  .mk hl hr fun A s va vb P hA ra rb => rcne_at ra rb ia ib na nb (by unfold cLine; omega) _ _ _ _ ⟨rfl, s.toks, rfl⟩
theorem tx_eqv (a b : List Nat) : PyData.eqv (tx a) (tx b) = (a == b) := by
  show ((⟨a.toArray⟩ : Str) == ⟨b.toArray⟩) = (a == b)
  rw [Bool.eq_iff_iff]; simp
theorem cm_eqs {a b : List Nat} (hl : Ev B nm n .O ρ l (tx a)) (hr : Ev B nm n .O ρ r (tx b)) : Cm B nm n ρ l .Eq r (a == b) := by
  have := cm_eq hl hr rfl rfl rfl rfl (by simp [PyData.depth])
  rwa [tx_eqv] at this
theorem cm_nes {a b : List Nat} (hl : Ev B nm n .O ρ l (tx a)) (hr : Ev B nm n .O ρ r (tx b)) : Cm B nm n ρ l .NotEq r (a != b) := by
  have := cm_ne hl hr rfl rfl rfl rfl (by simp [PyData.depth])
  rwa [tx_eqv] at this
theorem cm_eqi {a b : Int} (hl : Ev B nm n .O ρ l (.int a)) (hr : Ev B nm n .O ρ r (.int b)) : Cm B nm n ρ l .Eq r (a == b) := cm_eq hl hr rfl rfl rfl rfl (by simp [PyData.depth])
theorem cm_lt {a b : Int} (hl : Ev B nm n .O ρ l (.int a)) (hr : Ev B nm n .O ρ r (.int b)) : Cm B nm n ρ l .Lt r (decide (a < b)) :=
  .mk hl hr fun A s va vb P hA ra rb => by
    obtain ⟨t, rfl⟩ := ra.int_inv
    obtain ⟨u, rfl⟩ := rb.int_inv
    exact lt_int ⟨rfl, s.toks, rfl⟩
theorem cm_gt {a b : Int} (hl : Ev B nm n .O ρ l (.int a)) (hr : Ev B nm n .O ρ r (.int b)) : Cm B nm n ρ l .Gt r (decide (b < a)) :=
  .mk hl hr fun A s va vb P hA ra rb => by
    obtain ⟨t, rfl⟩ := ra.int_inv
    obtain ⟨u, rfl⟩ := rb.int_inv
    exact gt_int ⟨rfl, s.toks, rfl⟩
theorem any_rds {h : Heap} {P : Addr → Prop} {vs : List Value} {xs : List PyData} {f : Value → Bool} {g : PyData → Bool} (q : Rds B P h vs xs) (hf : ∀ (i : Nat) (v : Value) (d : PyData), vs[i]? = some v → xs[i]? = some d → f v = g d) : vs.any f = xs.any g := by
  match q with
  | .nil => rfl
  | .cons a r => rw [List.any_cons, List.any_cons, hf 0 _ _ rfl rfl, any_rds r fun i v d e1 e2 => hf (i + 1) v d (by simpa using e1) (by simpa using e2)]

/-- one of a list of data without dicts; the datum a value reads as -/
theorem any_eqv {h : Heap} {P P' : Addr → Prop} {vs : List Value} {xs : List PyData} {x : PyData} (q : Rds B P h vs xs) (hn : nds xs = true) :
    ∃ f : Value → Bool, (∀ v ∈ vs, ∃ d ∈ xs, Rd B P h v d ∧ f v = PyData.eqv d x) ∧ vs.any f = xs.any fun d => PyData.eqv d x := by
  classical
  let f : Value → Bool := fun v => if hv : ∃ d ∈ xs, Rd B P h v d then PyData.eqv hv.choose x else false
  have key : ∀ (i : Nat) (v : Value) (d : PyData), vs[i]? = some v → xs[i]? = some d → f v = PyData.eqv d x ∧ d ∈ xs ∧ Rd B P h v d := fun i v d e1 e2 => by
    obtain ⟨d', e', rd⟩ := q.get e1
    rw [e2] at e'; cases e'
    have hm := List.mem_of_getElem? e2
    have hv : ∃ d ∈ xs, Rd B P h v d := ⟨d, hm, rd⟩
    refine ⟨?_, hm, rd⟩
    show (if hv : ∃ d ∈ xs, Rd B P h v d then PyData.eqv hv.choose x else false) = _
    rw [dif_pos hv, Rd.unique _ _ _ (nds_mem hn _ hv.choose_spec.1) hv.choose_spec.2 rd]
  refine ⟨f, fun v hv => ?_, any_rds q fun i v d e1 e2 => (key i v d e1 e2).1⟩
  obtain ⟨i, hi, rfl⟩ := List.mem_iff_getElem.mp hv
  obtain ⟨d, e', rd⟩ := q.get (i := i) (List.getElem?_eq_getElem hi)
  obtain ⟨k1, k2, k3⟩ := key i _ d (List.getElem?_eq_getElem hi) e'
  exact ⟨d, k2, k3, k1⟩

theorem cm_notIn {xs : List PyData} (hl : Ev B nm n .O ρ l d) (hr : Ev B nm n .O ρ r (.list xs)) (hn : nds xs = true) (hd : nd d = true) (hp : d.depth ≤ 64) : Cm B nm n ρ l .NotIn r (!xs.any fun y => PyData.eqv y d) :=
  .mk hl hr fun A s va vb P hA ra rb => by
    obtain ⟨a, vs, rfl, p, hl, q⟩ := rb.list_inv
    obtain ⟨f, h1, h2⟩ := any_eqv (P' := P) (x := d) q hn
    refine notIn_listAt f hl (fun y hy => ?_) ⟨by rw [← h2, ← Array.any_toList], s.toks, rfl⟩
    obtain ⟨dy, hm, rd, e⟩ := h1 y (Array.mem_toList_iff.mpr hy)
    rw [e]
    exact eq_at (sizeOf dy) _ _ A.in1 _ _ _ _ (Nat.le_refl _) rd ra (nds_mem hn _ hm) hd (by show A.units + 1 + _ < cLine; unfold cLine; omega)
theorem cm_inT {xs : List PyData} (hl : Ev B nm n .O ρ l d) (hr : Ev B nm n .O ρ r (.tuple xs)) (hn : nds xs = true) (hd : nd d = true) (hp : d.depth ≤ 64) : Cm B nm n ρ l .In r (xs.any fun y => PyData.eqv y d) :=
  .mk hl hr fun A s va vb P hA ra rb => by
    obtain ⟨a, vs, rfl, p, hl, q⟩ := rb.tuple_inv
    obtain ⟨f, h1, h2⟩ := any_eqv (P' := P) (x := d) q hn
    refine in_tupleAt f hl (fun y hy => ?_) ⟨by rw [← h2, ← Array.any_toList], s.toks, rfl⟩
    obtain ⟨dy, hm, rd, e⟩ := h1 y (Array.mem_toList_iff.mpr hy)
    rw [e]
    exact eq_at (sizeOf dy) _ _ A.in1 _ _ _ _ (Nat.le_refl _) rd ra (nds_mem hn _ hm) hd (by show A.units + 1 + _ < cLine; unfold cLine; omega)

/-- truth of a flat datum -/
noncomputable def truth : PyData → Bool
  | .bool b => b
  | .str x => x.length != 0
  | .none => false
  | _ => true
noncomputable def strSmall : PyData → Prop
  | .bool _ | .none => True
  | .str x => x.length ≤ 16777216
  | _ => False
theorem truthy_of {A : Around} {s : Shared} {P : Addr → Prop} {v : Value} {Q : Bool → Shared → Prop} (r : Rd B P s.heap v d) (f : strSmall d) (h : ∀ tk, s.toks ≤ tk → Q (truth d) { s with toks := tk }) : wpAny B.M A (truthy v) Q (fun _ _ => False) s := by
  cases r with
  | none => exact fun _ _ _ => h s.toks (Nat.le_refl _)
  | bool b => exact wpAny_truthy_bool (h s.toks (Nat.le_refl _))
  | int => cases f
  | str x t =>
    have hx : x.length ≤ 16777216 := f
    refine PySem.P.truthy_str (by omega) ?_
    have e : ((x.length : Int) != 0) = truth (.str x) := by
      show _ = (x.length != 0)
      rw [Bool.eq_iff_iff]; simp
    rw [e]; exact h _ (by omega)
  | list => cases f
  | tuple => cases f
  | dict => cases f

theorem tr_val (he : Ev B nm n .O ρ e d) (f : strSmall d) (hi : ∀ env whole, isTrue e env whole = (do let v ← whole; standAt e.pos; holding [v] (truthy v)) := by intro _ _; rfl) : Tr B nm n ρ e (truth d) := fun A fs env h₀ own s S =>
  wpAny_isTrue_value (he.then S fun v h' tk st S' r => truthy_of r f fun tk' _ => ⟨rfl, h', tk', rfl, st⟩) (hi _ _)
theorem tr_and {b' : Bool} (hx : Tr B nm n ρ x b) (hy : b = true → Tr B nm n ρ y b') : Tr B nm n ρ (.BoolOp .And [x, y] pos) (b && b') := fun A fs env h₀ own s S => by
  refine wpAny_isTrue_BoolOp (wpAny_allTrue_And_cons (hx.then S fun h' tk st S' => ?_))
  cases b
  · exact ⟨rfl, h', tk, rfl, st⟩
  · refine wpAny_allTrue_And_cons ((hy rfl).then S' fun h'' tk' st' S'' => ?_)
    cases b'
    · exact ⟨rfl, h'', tk', rfl, st.tr st'⟩
    · exact wpAny_allTrue_And_nil ⟨rfl, h'', tk', rfl, st.tr st'⟩
theorem ev_ifexp {t : Expr} (ht : Tr B nm n ρ t b) (hx : b = true → Ev B nm n md ρ x d) (hy : b = false → Ev B nm n md ρ y d) : Ev B nm n md ρ (.IfExp t x y pos) d := fun A fs env h₀ own s S => by
  refine wpAny_IfExp (ht.then S fun h' tk st S' => ?_)
  cases b
  · exact (hy rfl).then S' fun v h'' tk' st' S'' r => ⟨h'', tk', rfl, st.tr st', r⟩
  · exact (hx rfl).then S' fun v h'' tk' st' S'' r => ⟨h'', tk', rfl, st.tr st', r⟩
theorem ev_and {dx dy : PyData} (hx : Ev B nm n md ρ x dx) (f : strSmall dx) (hy : truth dx = true → Ev B nm n md ρ y dy) : Ev B nm n md ρ (.BoolOp .And [x, y] pos) (if truth dx = true then dy else dx) := fun A fs env h₀ own s S => by
  refine wpAny_And2 (hx.then S fun v h' tk st S' r => truthy_of r f fun tk' ht' => ?_)
  cases ht : truth dx
  · exact ⟨h', tk', rfl, st, by simpa using r⟩
  · have S'' : Sta B nm n A fs env h₀ own ρ { s with heap := h', toks := tk' } := ⟨S'.ok, S'.sit, S'.sr, Nat.le_trans S'.tok ht'⟩
    simp only [if_true]
    exact (hy ht).then S'' fun v h'' tk'' st' _ r => ⟨h'', tk'', rfl, st.tr st', r⟩
theorem ev_neg {i : Int} (hx : Ev B nm n .O ρ x (.int i)) : Ev B nm n md ρ (.UnaryOp .USub x pos) (.int (-i)) := fun A fs env h₀ own s S =>
  wpAny_UnaryOp (hx.then S fun v h' tk st S' r => by
    obtain ⟨t, rfl⟩ := r.int_inv
    exact neg_int ⟨h', _, rfl, st, .int _ _⟩)
end
end Mine
end

section
set_option maxRecDepth 100000
namespace Mine

/-- several expressions, one after the other -/
noncomputable def Evs (B : Wd) (nm : List (Str × NameKind)) (n : Nat) (md : Md) (ρ : Loc) (es : List Expr) (ds : List PyData) : Prop :=
  ∀ A fs env h₀ own s pos, Sta B nm n A fs env h₀ own ρ s → wpAny B.M A (spliced (backTo pos (starEach es env))) (fun vs s' => ∃ h' tk, s' = { s with heap := h', toks := tk } ∧ Stay (adr fs) [] s.heap h' ∧ Rds B (md.P h₀ fs env.locals own) h' vs ds) (fun _ _ => False) s
/-- a new list -/
noncomputable def EvG (B : Wd) (nm : List (Str × NameKind)) (n : Nat) (md : Md) (ρ : Loc) (e : Expr) (xs : List PyData) : Prop :=
  ∀ A fs env h₀ own s, Sta B nm n A fs env h₀ own ρ s → wpAny B.M A (eval e env) (fun v s' => ∃ h' tk a vs, s' = { s with heap := h', toks := tk } ∧ Stay (adr fs) [] s.heap h' ∧ v = .ref a ∧ s.heap.get? a = none ∧ h'.PlainList a vs ∧ Rds B (fun b => md.P h₀ fs env.locals own b ∧ b ≠ a) h' vs.toList xs) (fun _ _ => False) s

theorem not_before {h h' : Heap} {fr : List Addr} (st : Stay fr [] h h') {b : Addr} (e : h'.get? b = none) : h.get? b = none := by
  cases q : h.get? b with
  | none => rfl
  | some o => obtain ⟨o', e'⟩ := st.live b o q; rw [e] at e'; cases e'

section
variable {B : Wd} {nm : List (Str × NameKind)} {n : Nat} {md : Md} {ρ : Loc} {e l r x y : Expr} {es : List Expr} {d : PyData} {ds xs : List PyData} {pos : Pos}

theorem Evs.then {A : Around} {fs : List Env} {env : Env} {h₀ : Heap} {own : List Addr} {s : Shared} {Q : List Value → Shared → Prop} (he : Evs B nm n md ρ es ds) (S : Sta B nm n A fs env h₀ own ρ s)
    (k : ∀ vs h' tk, Stay (adr fs) [] s.heap h' → Sta B nm n A fs env h₀ own ρ { s with heap := h', toks := tk } → Rds B (md.P h₀ fs env.locals own) h' vs ds → Q vs { s with heap := h', toks := tk }) :
    wpAny B.M A (spliced (backTo pos (starEach es env))) Q (fun _ _ => False) s :=
  wpAny_mono (wpAny_toks_of (n := s.toks) (Nat.le_refl _) (he A fs env h₀ own s pos S)) (fun v s' ⟨ht, h', tk, es, st, r⟩ => by subst es; exact k v h' tk st (S.grow st ht) r) fun _ _ x => x.2
theorem evs_nil : Evs B nm n md ρ [] [] := fun A fs env h₀ own s pos S => wpAny_items_nil ⟨s.heap, s.toks, rfl, .refl _ _ _, .nil⟩
theorem evs_cons (he : Ev B nm n md ρ e d) (hs : Evs B nm n md ρ es ds) (hn : ∀ env, starEach (e :: es) env = (false, eval e env) :: starEach es env := by intro _; rfl) : Evs B nm n md ρ (e :: es) (d :: ds) := fun A fs env h₀ own s pos S =>
  wpAny_items_cons (he.then S fun v h' tk st S' r => hs.then S' fun vs h'' tk' st' S'' rs => ⟨h'', tk', rfl, st.tr st', .cons (r.grow st') rs⟩) (hn env)

theorem EvG.ev (h : EvG B nm n md ρ e xs) : Ev B nm n md ρ e (.list xs) := fun A fs env h₀ own s S =>
  wpAny_mono (h A fs env h₀ own s S) (fun v s' ⟨h', tk, a, vs, es, st, ev, hn, hp, hr⟩ => ⟨h', tk, es, st, ev ▸ .list (S.sr.fresh md hn) hp.isList (hr.up (fun _ _ _ e => e) fun _ _ p _ => p.1)⟩) fun _ _ x => x

theorem plain_push (h : Heap) (vs : Array Value) : (h.push { cls := .type "list", data := .seq vs }).PlainList h.objs.size vs := ⟨0, Heap.get?_push_size _ rfl⟩

theorem evg_list (hs : Evs B nm n md ρ es ds) (hz : ds.length ≤ 1000) : EvG B nm n md ρ (.List es pos) ds := fun A fs env h₀ own s S =>
  wpAny_List (hs.then S fun vs h' tk st S' rs => ⟨by rw [rs.length, sizeLine_eq]; omega,
    ⟨_, tk, h'.objs.size, vs.toArray, rfl, st.tr (.push _ _ _ _), rfl, not_before st (get_size h'), plain_push _ _, by simpa using rs.up (fun b o _ e => Heap.get?_push_of_some _ e) fun b o p e => ⟨p, Ne.symm (fresh_ne e)⟩⟩⟩)
theorem ev_tuple {k : Nat} (hs : Evs B nm n md ρ es ds) (hz : ds.length ≤ 1000) : Ev B nm n md ρ (.Tuple es k pos) (.tuple ds) := fun A fs env h₀ own s S =>
  wpAny_Tuple (hs.then S fun vs h' tk st S' rs => ⟨by rw [rs.length, sizeLine_eq]; omega,
    ⟨_, tk, rfl, st.tr (.push _ _ _ _), .tuple (vs := vs.toArray) (S'.sr.fresh md (get_size h')) ⟨_, Heap.get?_push_size _ rfl, rfl, 0, rfl⟩ (by simpa using rs.grow (.push _ _ _ _))⟩⟩)

/-- a subscript by an int -/
theorem ev_sub_ {s : Shared} {A : Around} {fs : List Env} {env : Env} {h₀ : Heap} {own : List Addr} {value slice : Expr} {dv di : PyData} {md' : Md} (S : Sta B nm n A fs env h₀ own ρ s) (hv : Ev B nm n md ρ value dv) (hi : Ev B nm n md' ρ slice di) {Q : Value → Shared → Prop}
    (h : ∀ va vb h' tk, Stay (adr fs) [] s.heap h' → Sta B nm n A fs env h₀ own ρ { s with heap := h', toks := tk } → Rd B (md.P h₀ fs env.locals own) h' va dv → Rd B (md'.P h₀ fs env.locals own) h' vb di → wpAny B.M A (subscriptTail value slice va vb) Q (fun _ _ => False) { s with heap := h', toks := tk }) :
    wpAny B.M A (eval (.Subscript value slice pos) env) Q (fun _ _ => False) s := Subscript_ (two hv hi S h)

theorem seqIndex_lt {k : Int} {m : Nat} {j : Nat} (h : seqIndex? k m = some j) : j < m ∧ ((0 ≤ k ∧ j = k.toNat) ∨ (k < 0 ∧ -(m : Int) ≤ k ∧ j = (k + m).toNat)) := by
  unfold seqIndex? at h
  by_cases hk : k < 0
  · simp only [hk, if_true] at h
    split at h
    · rename_i h1
      simp only [Bool.and_eq_true, decide_eq_true_eq] at h1
      cases h
      omega
    · cases h
  · simp only [hk, if_false] at h
    split at h
    · rename_i h1
      simp only [Bool.and_eq_true, decide_eq_true_eq] at h1
      cases h
      omega
    · cases h

theorem ev_itemT {value slice : Expr} {k : Int} {j : Nat} (hv : Ev B nm n md ρ value (.tuple xs)) (hi : Ev B nm n .O ρ slice (.int k)) (hj : seqIndex? k xs.length = some j) (hx : xs[j]? = some d) (hk : xs.length ≤ 16777216)
    (hs : ∀ a u, subscripted slice false (.ref a) (.int k u) = operate [.ref a, .int k u] (getItem (.ref a) (.int k u)) := by intro _ _; with_unfolding_all rfl) : Ev B nm n md ρ (.Subscript value slice pos) d := fun A fs env h₀ own s S =>
  ev_sub_ S hv hi fun va vb h' tk st S' ra rb => by
    obtain ⟨a, vs, rfl, p, hl, q⟩ := ra.tuple_inv
    obtain ⟨u, rfl⟩ := rb.int_inv
    obtain ⟨v, ev, rv⟩ := q.get' hx
    have hb := seqIndex_lt hj
    have hz : vs.toList.length = xs.length := q.length
    have hl' : IsTup (Shared.heap { s with heap := h', toks := tk }) a vs.toList.toArray := by rw [Array.toArray_toList]; exact hl
    exact item_tupleT (l := vs.toList) hl' (by omega) (by omega) (by rw [hz]; exact hj) ev ⟨h', tk, rfl, st, rv⟩ (hs _ _)
theorem ev_itemL {value slice : Expr} {k : Int} {j : Nat} (hv : Ev B nm n md ρ value (.list xs)) (hi : Ev B nm n .O ρ slice (.int k)) (hj : seqIndex? k xs.length = some j) (hx : xs[j]? = some d) (hk : xs.length ≤ 16777216)
    (hs : ∀ a u, subscripted slice false (.ref a) (.int k u) = operate [.ref a, .int k u] (getItem (.ref a) (.int k u)) := by intro _ _; with_unfolding_all rfl) : Ev B nm n md ρ (.Subscript value slice pos) d := fun A fs env h₀ own s S =>
  ev_sub_ S hv hi fun va vb h' tk st S' ra rb => by
    obtain ⟨a, vs, rfl, p, hl, q⟩ := ra.list_inv
    obtain ⟨u, rfl⟩ := rb.int_inv
    obtain ⟨v, ev, rv⟩ := q.get' hx
    have hb := seqIndex_lt hj
    have hz : vs.toList.length = xs.length := q.length
    have hz' : vs.size = xs.length := by simpa using hz
    have hl' : (Shared.heap { s with heap := h', toks := tk }).IsList a vs := hl
    refine tail_any (T := "list") hl'.typeIs slot_list_getitem.lookup ?_ (hs _ _)
    rcases hb.2 with ⟨h1, rfl⟩ | ⟨h1, h2, rfl⟩
    · exact wpAny_getItem_list hl' h1 (by omega) (by simpa using ev) ⟨h', tk, rfl, st, rv⟩
    · refine wpAny_getItem_list_neg hl' h1 (by rw [hz']; exact h2) (by omega) ?_ ⟨h', tk, rfl, st, rv⟩
      rw [hz']; simpa using ev
theorem ev_itemS {value slice : Expr} {t : List Nat} {k : Int} {j : Nat} {c : Nat} (hv : Ev B nm n .O ρ value (tx t)) (hi : Ev B nm n .O ρ slice (.int k)) (hj : seqIndex? k t.length = some j) (hx : t[j]? = some c) (hk : t.length ≤ 16777216)
    (hs : ∀ y t u, subscripted slice false (.str y t) (.int k u) = operate [.str y t, .int k u] (getItem (.str y t) (.int k u)) := by intro _ _ _; with_unfolding_all rfl) : Ev B nm n md ρ (.Subscript value slice pos) (tx [c]) := fun A fs env h₀ own s S =>
  ev_sub_ S hv hi fun va vb h' tk st S' ra rb => by
    obtain ⟨t', rfl⟩ := ra.str_inv
    obtain ⟨u, rfl⟩ := rb.int_inv
    have hb := seqIndex_lt hj
    refine tail_any (T := "str") (typeIs_str _ _ _) slot_str_getitem.lookup (getItem_str (c := c) (by rw [Bool.or_eq_false_iff]; constructor <;> (apply decide_eq_false; omega)) ?_ ⟨h', _, rfl, st, .str _ _⟩) (hs _ _ _)
    rw [tx_len, hj]; simpa using hx

/-- a builtin's name -/
theorem name_builtin {A : Around} {fs : List Env} {env : Env} {h₀ : Heap} {own : List Addr} {s : Shared} {f : Str} {p : Pos} {v : Value} {Q : Value → Shared → Prop} {E : Value → Shared → Prop} (S : Sta B nm n A fs env h₀ own ρ s)
    (hk : nm.lookup f = some .globalImplicit) (hK : nsIn B.K mainGlobals f = some none) (hb : bootBuiltins f = some v) (hn : f ≠ "__name__") (hd : (f == ("__debug__" : Str)) = false) (h : Q v s) : wpAny B.M A (eval (.Name f p) env) Q E s := by
  have hg : s.heap.Ns env.globals B.mg := by rw [S.sit.globals]; exact S.ok.top.g.keeps S.sr.stays
  have hb' : s.heap.Ns env.builtins B.mb := by rw [S.sit.builtins]; exact S.ok.top.b.keeps S.sr.stays
  have hk' : env.kindOf f = some .globalImplicit := by unfold Env.kindOf; rw [S.sit.names]; exact hk
  exact Calls.Name_function_global S.sit.kind hk' (Calls.loadGlobal_builtin hg (mg_none_of S.ok.inK S.ok.top.g hK) hb' ((S.ok.top.builtins f hn).trans hb) h) hd
/-- a def's name -/
theorem name_def {A : Around} {fs : List Env} {env : Env} {h₀ : Heap} {own : List Addr} {s : Shared} {f : Str} {p : Pos} {v : Value} {Q : Value → Shared → Prop} {E : Value → Shared → Prop} (S : Sta B nm n A fs env h₀ own ρ s)
    (hk : nm.lookup f = some .globalImplicit) (hK : nsIn B.K mainGlobals f = some (some v)) (hd : (f == ("__debug__" : Str)) = false) (h : Q v s) : wpAny B.M A (eval (.Name f p) env) Q E s := by
  have hg : s.heap.Ns env.globals B.mg := by rw [S.sit.globals]; exact S.ok.top.g.keeps S.sr.stays
  have hk' : env.kindOf f = some .globalImplicit := by unfold Env.kindOf; rw [S.sit.names]; exact hk
  exact Calls.Name_function_global S.sit.kind hk' (Calls.loadGlobal_global hg (mg_of S.ok.inK S.ok.top.g hK) h) hd

/-- the side conditions of a builtin's name -/
structure BName (B : Wd) (nm : List (Str × NameKind)) (f : Str) (v : Value) : Prop where
  kind : nm.lookup f = some .globalImplicit
  none : nsIn B.K mainGlobals f = some none
  boot : bootBuiltins f = some v
  main : f ≠ "__name__"
  debug : (f == ("__debug__" : Str)) = false

theorem ev_builtin {f : Str} {p : Pos} {id : String} (hf : BName B nm f (.builtin id)) (ha : Evs B nm n .O ρ (e :: es) ds)
    (h : ∀ (A : Around) (s : Shared) (vs : List Value) (P : Addr → Prop), Rds B P s.heap vs ds → wpAny B.M A (call (.builtin id) vs) (fun v s' => (∃ tk, s' = { s with toks := tk }) ∧ ∀ P, Rd B P s.heap v d) (fun _ _ => False) s)
    (he : ∀ env, starEach (e :: es) env = (false, eval e env) :: starEach es env := by intro _; rfl) (hp : ∀ env, (backTo pos (starEach es env)).any (·.1) = false := by intro _; rfl)
    (hc : ∀ env, eval (.Call (.Name f p) (e :: es) [] pos) env = (do callWith pos (← eval (.Name f p) env) [] (backTo pos (starEach (e :: es) env)) (backToKw pos (keywordEach [] env))) := by intro _; rfl) :
    Ev B nm n md ρ (.Call (.Name f p) (e :: es) [] pos) d := fun A fs env h₀ own s S =>
  Call_ (name_builtin S hf.kind hf.none hf.boot hf.main hf.debug (callWith_builtin1 (ha.then S fun vs h' tk st S' rs => wpAny_mono (h A _ vs _ rs) (fun v s' ⟨⟨tk', e⟩, r⟩ => ⟨h', tk', e, st, r _⟩) fun _ _ x => x) (he env) (hp env))) (hc env)

theorem ev_lenL {f : Str} {p : Pos} (hf : BName B nm f (.builtin "len")) (ha : Ev B nm n .O ρ e (.list xs)) (hz : xs.length ≤ 16777216)
    (he : ∀ env, starEach [e] env = [(false, eval e env)] := by intro _; rfl)
    (hc : ∀ env, eval (.Call (.Name f p) [e] [] pos) env = (do callWith pos (← eval (.Name f p) env) [] (backTo pos (starEach [e] env)) (backToKw pos (keywordEach [] env))) := by intro _; rfl) : Ev B nm n md ρ (.Call (.Name f p) [e] [] pos) (.int xs.length) :=
  ev_builtin hf (evs_cons ha evs_nil (fun env => he env)) (fun A s vs P rs => by
    obtain ⟨v, ws, rfl, rv, rw'⟩ := rs.cons_inv
    obtain rfl := rw'.nil_inv
    obtain ⟨a, us, rfl, p, hl, q⟩ := rv.list_inv
    have hz' : us.size = xs.length := by simpa using q.length
    refine Calls.call_len_list hl (by omega) ⟨⟨_, rfl⟩, fun P => ?_⟩
    rw [hz']; exact .int _ _) (fun env => he env) (fun _ => rfl) hc
end
end Mine
end

section
set_option maxRecDepth 100000
namespace Mine
open PySem.Builtin.Str

/-- a slice without a step -/
noncomputable def sl {α : Type} (lo hi : Option Int) (xs : List α) : List α := (xs.drop (lo.elim 0 (clipAt xs.length))).take (hi.elim xs.length (clipAt xs.length) - lo.elim 0 (clipAt xs.length))

theorem sl_length_le {α : Type} (lo hi : Option Int) (xs : List α) : (sl lo hi xs).length ≤ xs.length := by unfold sl; simp; omega
theorem sl_upto {α : Type} (b : Nat) (xs : List α) : sl none (some (b : Int)) xs = xs.take b := by
  unfold sl
  simp only [Option.elim, clipAt_nat, List.drop_zero, Nat.sub_zero]
  rcases Nat.le_total b xs.length with h | h
  · rw [Nat.min_eq_left h]
  · rw [Nat.min_eq_right h, List.take_of_length_le (by simp), List.take_of_length_le (by simpa using h)]
theorem sl_from {α : Type} (a : Nat) (xs : List α) : sl (some (a : Int)) none xs = xs.drop a := by
  unfold sl
  simp only [Option.elim, clipAt_nat]
  rcases Nat.le_total a xs.length with h | h
  · rw [Nat.min_eq_left h, List.take_of_length_le (by simp)]
  · rw [Nat.min_eq_right h, List.drop_of_length_le (by simp), List.drop_of_length_le (by simpa using h)]; simp
/-- s[1:-1] -/
theorem sl_inner {α : Type} (xs : List α) : sl (some 1) (some (-1)) xs = (xs.take (xs.length - 1)).drop 1 := by
  unfold sl
  have h1 := clipAt_nat xs.length 1
  have h2 := clipAt_neg xs.length 1 (Nat.le_refl _)
  simp only [Option.elim]
  rw [show clipAt xs.length 1 = min 1 xs.length from h1, show clipAt xs.length (-1) = xs.length - 1 from h2]
  rcases Nat.le_total 1 xs.length with h | h
  · rw [Nat.min_eq_left h, List.drop_take]
  · rw [Nat.min_eq_right h, List.drop_of_length_le (Nat.le_refl _), List.drop_of_length_le (by simp; omega)]; simp
theorem idx_plain (l u : Option Int) (n : Nat) : strSliceIndices l u 1 n = sliceRange ((l.elim 0 (clipAt n) : Nat) : Int) ((u.elim n (clipAt n) : Nat) : Int) 1 := by
  cases l <;> cases u <;> simp [strSliceIndices, clipAt_cast]
theorem tx_slice (t : List Nat) (l u : Option Int) : Txt.slice ⟨t.toArray⟩ l u = ⟨(sl l u t).toArray⟩ := by
  have e : (strSliceIndices l u 1 t.length).filterMap ((t.toArray)[·]?) = sl l u t := by
    rw [idx_plain, sliceRange_one, pick_run]; rfl
  have hl : (strSliceIndices l u 1 t.length).length = u.elim t.length (clipAt t.length) - l.elim 0 (clipAt t.length) := by
    rw [idx_plain, sliceRange_one]; simp
  have hu : u.elim t.length (clipAt t.length) ≤ t.length := by
    cases u with
    | none => exact Nat.le_refl _
    | some j => have := clipAt_cast t.length j; simp only [Option.elim]; omega
  unfold Txt.slice
  split
  · rename_i h
    rw [tx_len] at h
    simp only [beq_self_eq_true, Bool.true_and, beq_iff_eq] at h
    rw [hl] at h
    have : sl l u t = t := by
      unfold sl
      by_cases ht : t = []
      · subst ht; simp
      · have : 0 < t.length := List.length_pos_iff.mpr ht
        have h0 : l.elim 0 (clipAt t.length) = 0 := by omega
        have h2 : u.elim t.length (clipAt t.length) = t.length := by omega
        rw [h0, h2]; simp
    rw [this]
  · rw [tx_len]; rw [← e]

section
variable {B : Wd} {nm : List (Str × NameKind)} {n : Nat} {md : Md} {ρ : Loc} {e x y value : Expr} {es : List Expr} {d : PyData} {ds xs : List PyData} {pos p : Pos}

/-- a slice's bound -/
inductive Bnd (B : Wd) (nm : List (Str × NameKind)) (n : Nat) (ρ : Loc) : Option Expr → Option Int → Prop
  | none : Bnd B nm n ρ none none
  | some {e : Expr} {i : Int} : Ev B nm n .O ρ e (.int i) → Bnd B nm n ρ (some e) (some i)

theorem Bnd.then {A : Around} {fs : List Env} {env : Env} {h₀ : Heap} {own : List Addr} {s : Shared} {oe : Option Expr} {oi : Option Int} {Q : Value → Shared → Prop} (hb : Bnd B nm n ρ oe oi) (S : Sta B nm n A fs env h₀ own ρ s)
    (k : ∀ q : Option (Int × Tok), q.map (·.1) = oi → ∀ h' tk, Stay (adr fs) [] s.heap h' → Sta B nm n A fs env h₀ own ρ { s with heap := h', toks := tk } → Q (partValue q) { s with heap := h', toks := tk }) :
    wpAny B.M A (evalPart oe env) Q (fun _ _ => False) s := by
  cases hb with
  | none => rw [evalPart_none]; exact wpAny_pure (k Option.none rfl s.heap s.toks (.refl _ _ _) S)
  | some he =>
    rw [evalPart_some]
    refine he.then S fun v h' tk st S' r => ?_
    obtain ⟨t, rfl⟩ := r.int_inv
    exact k (.some (_, t)) rfl h' tk st S'

theorem part_is {q : Option (Int × Tok)} {oi : Option Int} (h : q.map (·.1) = oi) : IsPart (partValue q) oi := by
  cases q with
  | none => cases h; exact .none
  | some p => cases h; exact .int _ _

theorem slice_ {A : Around} {fs : List Env} {env : Env} {h₀ : Heap} {own : List Addr} {s : Shared} {lo hi st : Option Expr} {il iu is : Option Int} {dv : PyData} {md' : Md} {Q : Value → Shared → Prop} (hv : Ev B nm n md' ρ value dv) (hl : Bnd B nm n ρ lo il) (hu : Bnd B nm n ρ hi iu) (hs : Bnd B nm n ρ st is) (S : Sta B nm n A fs env h₀ own ρ s)
    (h : ∀ v ql qu qs h' tk, ql.map (·.1) = il → qu.map (·.1) = iu → qs.map (·.1) = is → Stay (adr fs) [] s.heap h' → Sta B nm n A fs env h₀ own ρ { s with heap := h', toks := tk } → Rd B (md'.P h₀ fs env.locals own) h' v dv →
      wpAny B.M A (subscriptTail value (.Slice lo hi st p) v (.ref h'.objs.size)) Q (fun _ _ => False) { s with heap := h'.push { cls := .type "slice", data := .fields #[partValue ql, partValue qu, partValue qs] }, toks := tk }) :
    wpAny B.M A (eval (.Subscript value (.Slice lo hi st p) pos) env) Q (fun _ _ => False) s :=
  Subscript_ (hv.then S fun v h₁ tk₁ st₁ S₁ r => wpAny_Slice (hl.then S₁ fun ql el h₂ tk₂ st₂ S₂ => hu.then S₂ fun qu eu h₃ tk₃ st₃ S₃ => hs.then S₃ fun qs es h₄ tk₄ st₄ S₄ =>
    h v ql qu qs h₄ tk₄ el eu es (((st₁.tr st₂).tr st₃).tr st₄) S₄ (((r.grow st₂).grow st₃).grow st₄)))

theorem ev_slS {lo hi : Option Expr} {il iu : Option Int} {t : List Nat} (hv : Ev B nm n .O ρ value (tx t)) (hl : Bnd B nm n ρ lo il) (hu : Bnd B nm n ρ hi iu) (hz : t.length ≤ 16777216) :
    Ev B nm n md ρ (.Subscript value (.Slice lo hi none p) pos) (tx (sl il iu t)) := fun A fs env h₀ own s S =>
  slice_ hv hl hu .none S fun v ql qu qs h' tk el eu es st S' r => by
    obtain ⟨t', rfl⟩ := r.str_inv
    have hqs : qs = none := by cases qs with | none => rfl | some _ => cases es
    subst hqs
    refine tail_any (T := "str") (ops := [.ref h'.objs.size, .str _ t']) (typeIs_str _ _ _) slot_str_getitem.lookup (wpAny_getItem_str_slice (l := ql) (u := qu) (st := none) ⟨_, Heap.get?_push_size _ rfl, rfl, rfl⟩ rfl ?_) rfl
    have hle : (⟨(sl il iu t).toArray⟩ : Str).length ≤ sizeLine := by rw [tx_len, sizeLine_eq]; exact Nat.le_trans (sl_length_le _ _ _) hz
    have e : Txt.slice ⟨t.toArray⟩ (ql.map (·.1)) (qu.map (·.1)) = ⟨(sl il iu t).toArray⟩ := by rw [el, eu]; exact tx_slice t il iu
    refine post_val_or_str (y := ⟨t.toArray⟩) ?_
    have e' : Txt.slice ⟨t.toArray⟩ (ql.map (·.1)) (qu.map (·.1)) = (if ((1 : Int) == 1 && (slicePicked ⟨t.toArray⟩ ql qu none).length == (⟨t.toArray⟩ : Str).length) = true then (⟨t.toArray⟩ : Str) else ⟨((slicePicked ⟨t.toArray⟩ ql qu none).filterMap ((⟨t.toArray⟩ : Str).cps[·]?)).toArray⟩) := rfl
    rw [e'] at e
    constructor
    · exact (congrArg (fun z : Str => z.length ≤ sizeLine) e).mpr hle
    · intro t'' k
      refine ⟨_, k, rfl, st.tr (.push _ _ _ _), ?_⟩
      exact (congrArg (fun z : Str => Rd B (md.P h₀ fs env.locals own) (h'.push { cls := .type "slice", data := .fields #[partValue ql, partValue qu, partValue none] }) (.str z t'') (tx (sl il iu t))) e).mpr (.str _ _)

theorem rds_sl {h : Heap} {P : Addr → Prop} {vs : List Value} {xs : List PyData} (q : Rds B P h vs xs) : ∀ k, Rds B P h (vs.take k) (xs.take k) ∧ Rds B P h (vs.drop k) (xs.drop k) := by
  intro k
  induction k generalizing vs xs with
  | zero => exact ⟨by simpa using .nil, by simpa using q⟩
  | succ k ih =>
    cases q with
    | nil => exact ⟨by simpa using .nil, by simpa using .nil⟩
    | cons a r => exact ⟨by simpa using .cons a (ih r).1, by simpa using (ih r).2⟩
theorem rds_flat {h : Heap} {P P' : Addr → Prop} : ∀ {vs : List Value} {xs : List PyData}, Rds B P h vs xs → (∀ x ∈ xs, flat x = true) → Rds B P' h vs xs
  | _, _, .nil, _ => .nil
  | _, _, .cons a r, f => .cons (a.flat (f _ (.head _))) (rds_flat r fun x hx => f x (.tail _ hx))

theorem evg_slL {lo hi : Option Expr} {il iu : Option Int} (hv : Ev B nm n .O ρ value (.list xs)) (hl : Bnd B nm n ρ lo il) (hu : Bnd B nm n ρ hi iu) (hz : xs.length ≤ 16777216) (hf : ∀ x ∈ xs, flat x = true) :
    EvG B nm n md ρ (.Subscript value (.Slice lo hi none p) pos) (sl il iu xs) := fun A fs env h₀ own s S =>
  slice_ hv hl hu .none S fun v ql qu qs h' tk el eu es st S' r => by
    obtain ⟨a, vs, rfl, pa, hl, q⟩ := r.list_inv
    have hqs : qs = none := by cases qs with | none => rfl | some _ => cases es
    subst hqs
    have hsz : vs.size = xs.length := by simpa using q.length
    have hl' := hl.push { cls := .type "slice", data := .fields #[partValue ql, partValue qu, partValue none] }
    refine tail_any (T := "list") (ops := [.ref h'.objs.size, .ref a]) (Heap.IsList.typeIs (s := { s with heap := h'.push _, toks := tk }) hl') slot_list_getitem.lookup (wpAny_getItem_list_slice hl' (Heap.IsSliceOf.new ..) (part_is el) (part_is eu) (part_is es) (by simp) ?_ (by rw [hsz, sizeLine_eq]; exact hz)) rfl
    refine ⟨_, tk, _, slicePick vs il iu none, rfl, (st.tr (.push _ _ _ _)).tr (.push _ _ _ _), rfl, not_before (st.tr (.push _ _ _ _)) (get_size _), plain_push _ _, ?_⟩
    have e : (slicePick vs il iu none).toList = sl il iu vs.toList := by
      rw [slicePick_plain]; unfold sl; simp
    rw [e]
    have hlen : vs.toList.length = xs.length := q.length
    have : Rds B ((Md.O).P h₀ fs env.locals own) h' (sl il iu vs.toList) (sl il iu xs) := by
      unfold sl; rw [hlen]; exact (rds_sl (rds_sl q _).2 _).1
    refine rds_flat ((this.grow (.push _ _ _ _)).grow (.push _ _ _ _)) fun x hx => hf x ?_
    unfold sl at hx
    exact List.mem_of_mem_drop (List.mem_of_mem_take hx)

/-- a slice with a step, from the first item on -/
noncomputable def every {α : Type} (k : Nat) (xs : List α) : List α := (List.range ((xs.length + k - 1) / k)).filterMap fun i => xs[k * i]?
theorem pick_every (items : Array Value) (k : Nat) (hk : 0 < k) : (slicePick items none none (some (k : Int))).toList = every k items.toList := by
  unfold slicePick every sliceRange sliceBounds
  have h1 : (k : Int) > 0 := by omega
  simp only [Option.getD_some, h1, if_true, Array.length_toList]
  by_cases h0 : items.size = 0
  · have : (0 + k - 1) / k = 0 := by rw [Nat.div_eq_zero_iff]; omega
    simp [h0, this]
  · have h2 : (0 : Int) < items.size := by omega
    have e : ((items.size : Int) - 0 + k - 1) / k = (((items.size + k - 1) / k : Nat) : Int) := by
      rw [Int.natCast_ediv]; congr 1; omega
    simp only [h2, if_true, e, Int.toNat_natCast, List.filterMap_map]
    congr 1
    funext i
    have : ((k : Int) * (i : Int)).toNat = k * i := by rw [← Int.natCast_mul, Int.toNat_natCast]
    simp [this]
theorem rds_pick {h : Heap} {P : Addr → Prop} {vs : List Value} {xs : List PyData} (q : Rds B P h vs xs) : ∀ is : List Nat, Rds B P h (is.filterMap (vs[·]?)) (is.filterMap (xs[·]?))
  | [] => .nil
  | i :: is => by
    cases e : vs[i]? with
    | none =>
      have hn : xs[i]? = none := by
        rw [List.getElem?_eq_none_iff] at e ⊢; rw [← q.length]; exact e
      rw [List.filterMap_cons_none e, List.filterMap_cons_none hn]; exact rds_pick q is
    | some v =>
      obtain ⟨d, e', r⟩ := q.get e
      rw [List.filterMap_cons_some e, List.filterMap_cons_some e']; exact .cons r (rds_pick q is)
theorem rds_every {h : Heap} {P : Addr → Prop} {vs : List Value} {xs : List PyData} (q : Rds B P h vs xs) (k : Nat) : Rds B P h (every k vs) (every k xs) := by
  unfold every
  rw [q.length]
  have e : ∀ {α : Type} (ys : List α), (fun i => ys[k * i]?) = (fun i => ys[i]?) ∘ fun i => k * i := fun _ => rfl
  rw [e, e, ← List.filterMap_map, ← List.filterMap_map]
  exact rds_pick q _
theorem mem_every {α : Type} {k : Nat} {xs : List α} {x : α} (h : x ∈ every k xs) : x ∈ xs := by
  unfold every at h
  obtain ⟨i, _, e⟩ := List.mem_filterMap.mp h
  exact List.mem_of_getElem? e
theorem evg_every {st : Expr} {k : Nat} (hv : Ev B nm n .O ρ value (.list xs)) (hs : Ev B nm n .O ρ st (.int (k : Int))) (hk : 0 < k) (hz : xs.length ≤ 16777216) (hf : ∀ x ∈ xs, flat x = true) :
    EvG B nm n md ρ (.Subscript value (.Slice none none (some st) p) pos) (every k xs) := fun A fs env h₀ own s S =>
  slice_ hv .none .none (.some hs) S fun v ql qu qs h' tk el eu es st S' r => by
    obtain ⟨a, vs, rfl, pa, hl, q⟩ := r.list_inv
    have hsz : vs.size = xs.length := by simpa using q.length
    have hl' := hl.push { cls := .type "slice", data := .fields #[partValue ql, partValue qu, partValue qs] }
    refine tail_any (T := "list") (ops := [.ref a, .ref h'.objs.size]) (Heap.IsList.typeIs (s := { s with heap := h'.push _, toks := tk }) hl') slot_list_getitem.lookup (wpAny_getItem_list_slice hl' (Heap.IsSliceOf.new ..) (part_is el) (part_is eu) (part_is es) (by simp; omega) ?_ (by rw [hsz, sizeLine_eq]; exact hz)) rfl
    refine ⟨_, tk, _, slicePick vs none none (some (k : Int)), rfl, (st.tr (.push _ _ _ _)).tr (.push _ _ _ _), rfl, not_before (st.tr (.push _ _ _ _)) (get_size _), plain_push _ _, ?_⟩
    rw [pick_every _ _ hk]
    exact rds_flat (((rds_every q k).grow (.push _ _ _ _)).grow (.push _ _ _ _)) fun x hx => hf x (mem_every hx)
end
end Mine
end

section
set_option maxRecDepth 100000
namespace Mine
open PySem.Builtin.Str

/-- white space off both ends -/
noncomputable def sp (c : Nat) : Bool := Unicode.isSpace c
noncomputable def trim (t : List Nat) : List Nat := ((t.dropWhile sp).reverse.dropWhile sp).reverse

theorem drop_takeWhile {α : Type} (p : α → Bool) : ∀ t : List α, t.drop (t.takeWhile p).length = t.dropWhile p
  | [] => rfl
  | a :: r => by
    cases h : p a with
    | true => simp [List.takeWhile_cons, List.dropWhile_cons, h, drop_takeWhile p r]
    | false => simp [List.takeWhile_cons, List.dropWhile_cons, h]
theorem rev_drop {α : Type} (p : α → Bool) (t : List α) : (t.reverse.dropWhile p).reverse = t.take (t.length - (t.reverse.takeWhile p).length) := by
  rw [← drop_takeWhile p t.reverse, List.reverse_drop, List.reverse_reverse, List.length_reverse]
theorem takeWhile_length_le {α : Type} (p : α → Bool) (t : List α) : (t.takeWhile p).length ≤ t.length := by
  have := List.takeWhile_append_dropWhile (p := p) (l := t)
  have h := congrArg List.length this
  rw [List.length_append] at h; omega

theorem tx_ext {x : Str} {l : List Nat} (h : x.cps.toList = l) : x = ⟨l.toArray⟩ := by subst h; cases x; simp
theorem tx_strip (t : List Nat) : Txt.strip ⟨t.toArray⟩ = ⟨(trim t).toArray⟩ := by
  have lo : stripLo Unicode.isSpace true ⟨t.toArray⟩ = (t.takeWhile sp).length := rfl
  have hi : stripHi Unicode.isSpace true ⟨t.toArray⟩ (t.takeWhile sp).length = t.length - ((t.dropWhile sp).reverse.takeWhile sp).length := by
    show (⟨t.toArray⟩ : Str).length - ((t.drop (t.takeWhile sp).length).reverse.takeWhile sp).length = _
    rw [drop_takeWhile, tx_len]
  have hl : (t.takeWhile sp).length + (t.dropWhile sp).length = t.length := by
    rw [← List.length_append, List.takeWhile_append_dropWhile]
  have h2 := takeWhile_length_le sp (t.dropWhile sp).reverse
  rw [List.length_reverse] at h2
  have key : ((t.drop (t.takeWhile sp).length).take (t.length - ((t.dropWhile sp).reverse.takeWhile sp).length - (t.takeWhile sp).length)) = trim t := by
    rw [drop_takeWhile]; unfold trim; rw [rev_drop]; congr 1; omega
  unfold Txt.strip Txt.stripBy
  split
  · rename_i h
    unfold stripSame at h
    rw [lo, hi, Bool.and_eq_true, beq_iff_eq, beq_iff_eq, tx_len] at h
    rw [← key, h.1]
    simp only [List.drop_zero, Nat.sub_zero]
    rw [List.take_of_length_le (by omega)]
  · unfold PySem.stripped
    rw [lo, hi]
    refine tx_ext ?_
    rw [StrLaws.strSub_toList, ← key]

theorem at_one (t : List Nat) (c i : Nat) : StrLaws.At ⟨t.toArray⟩ ⟨#[c]⟩ (⟨t.toArray⟩ : Str).length i ↔ t[i]? = some c := by
  exact StrLaws.subAt_one ⟨t.toArray⟩ c i
/-- the part ahead of the first c, and the part behind it -/
noncomputable def upTo (c : Nat) (t : List Nat) : List Nat := t.takeWhile (· != c)
noncomputable def past (c : Nat) (t : List Nat) : List Nat := (t.dropWhile (· != c)).drop 1
theorem upTo_past {c : Nat} {t : List Nat} (h : c ∈ t) : t = upTo c t ++ c :: past c t := by
  induction t with
  | nil => cases h
  | cons a r ih =>
    by_cases e : a = c
    · subst e; simp [upTo, past]
    · have hr : c ∈ r := by simpa [Ne.symm e] using h
      have : (a != c) = true := by simpa using e
      unfold upTo past
      rw [List.takeWhile_cons, List.dropWhile_cons, this]
      simp only [if_true, List.cons_append]
      exact congrArg (a :: ·) (ih hr)
theorem not_mem_upTo (c : Nat) : ∀ t : List Nat, c ∉ upTo c t
  | [] => by simp [upTo]
  | a :: r => by
    have ih := not_mem_upTo c r
    unfold upTo at ih ⊢
    rw [List.takeWhile_cons]
    by_cases e : a = c
    · simp [e]
    · have : (a != c) = true := by simpa using e
      rw [this]
      simp only [if_true, List.mem_cons, not_or]
      exact ⟨Ne.symm e, ih⟩
theorem get_upTo {c : Nat} {t : List Nat} (h : c ∈ t) : t[(upTo c t).length]? = some c := by
  have e := upTo_past h
  have : (upTo c t ++ c :: past c t)[(upTo c t).length]? = some c := by simp
  rwa [← e] at this
theorem first_at {c i : Nat} {t : List Nat} (h : t[i]? = some c) (hf : ∀ k, k < i → ¬ t[k]? = some c) : c ∈ t ∧ i = (upTo c t).length := by
  have hm := List.mem_of_getElem? h
  refine ⟨hm, ?_⟩
  rcases Nat.lt_trichotomy i (upTo c t).length with l | l | l
  · exfalso
    have e := upTo_past hm
    rw [e, List.getElem?_append_left l] at h
    exact not_mem_upTo c t (List.mem_of_getElem? h)
  · exact l
  · exact absurd (get_upTo hm) (hf _ l)
theorem tx_occ (t : List Nat) (c : Nat) (k : Nat) (hk : 1 ≤ k) : (c ∉ t ∧ occurrences ⟨t.toArray⟩ ⟨#[c]⟩ 0 (⟨t.toArray⟩ : Str).length k = []) ∨ (c ∈ t ∧ ∃ r, occurrences ⟨t.toArray⟩ ⟨#[c]⟩ 0 (⟨t.toArray⟩ : Str).length k = (upTo c t).length :: r) := by
  rcases StrLaws.occ_head ⟨t.toArray⟩ ⟨#[c]⟩ k hk with ⟨h1, h2⟩ | ⟨i, r, h1, h2, h3⟩
  · refine .inl ⟨fun hm => ?_, h1⟩
    obtain ⟨i, hi⟩ := List.getElem?_of_mem hm
    exact h2 i ((at_one t c i).mpr hi)
  · have h2' := (at_one t c i).mp h2
    obtain ⟨hm, e⟩ := first_at h2' fun k hk => fun q => h3 k hk ((at_one t c k).mpr q)
    exact .inr ⟨hm, r, by rw [h1, e]⟩
theorem tx_split (t : List Nat) (c : Nat) (hc : c < 256) : Txt.splitMax ⟨t.toArray⟩ ⟨#[c]⟩ 1 = if c ∈ t then [⟨(upTo c t).toArray⟩, ⟨(past c t).toArray⟩] else [⟨t.toArray⟩] := by
  have hlim : limitOf ⟨t.toArray⟩ 1 = 1 := rfl
  unfold Txt.splitMax
  rw [hlim]
  rcases tx_occ t c 1 (Nat.le_refl _) with ⟨h1, h2⟩ | ⟨h1, r, h2⟩
  · rw [h2, if_neg h1]; simp
  · have hr : r = [] := by
      have := StrLaws.occ_length_le ⟨t.toArray⟩ ⟨#[c]⟩ 0 (⟨t.toArray⟩ : Str).length 1
      rw [h2] at this; simpa using this
    subst hr
    rw [h2, if_pos h1]
    have e1 : ¬ (decide ((⟨t.toArray⟩ : Str).length < (⟨#[c]⟩ : Str).length) || decide (Builtin.Str.strKind ⟨t.toArray⟩ < Builtin.Str.strKind ⟨#[c]⟩)) = true := by
      have hl : 1 ≤ t.length := by cases t with | nil => cases h1 | cons => simp
      have hk : Builtin.Str.strKind ⟨#[c]⟩ = 1 := by unfold Builtin.Str.strKind; simp [hc]
      have hk2 : 1 ≤ Builtin.Str.strKind ⟨t.toArray⟩ := by unfold Builtin.Str.strKind; split <;> (try split) <;> omega
      have h3 : (⟨#[c]⟩ : Str).length = 1 := rfl
      rw [hk, tx_len, h3]
      simp only [Bool.or_eq_true, decide_eq_true_eq]; omega
    rw [if_neg e1, if_neg (by simp)]
    have e := upTo_past h1
    have hlen : t.length = (upTo c t).length + 1 + (past c t).length := by
      have := congrArg List.length e
      rw [List.length_append, List.length_cons] at this
      omega
    unfold partsBetween
    simp only [List.map_cons, List.map_nil, List.zip_cons_cons, List.cons_append, List.nil_append, List.zip_nil_right]
    congr 1
    · refine tx_ext ?_
      rw [StrLaws.strSub_toList]
      simp only [List.drop_zero, Nat.sub_zero]
      show t.take (upTo c t).length = _
      have : (upTo c t ++ c :: past c t).take (upTo c t).length = upTo c t := by simp
      rwa [← e] at this
    · congr 1
      refine tx_ext ?_
      rw [StrLaws.strSub_toList, tx_len]
      show (t.drop ((upTo c t).length + 1)).take _ = _
      have : t.drop ((upTo c t).length + 1) = past c t := by
        have : (upTo c t ++ c :: past c t).drop ((upTo c t).length + 1) = past c t := by rw [List.drop_append]; simp
        rwa [← e] at this
      rw [this, List.take_of_length_le]
      show (past c t).length ≤ t.length - ((upTo c t).length + 1)
      omega

/-- each c turned into z -/
noncomputable def subst (c : Nat) (z : List Nat) (t : List Nat) : List Nat := t.flatMap fun a => if a = c then z else [a]
theorem subst_free (c : Nat) (z : List Nat) : ∀ t : List Nat, c ∉ t → subst c z t = t
  | [], _ => rfl
  | a :: r, h => by
    have h1 : a ≠ c := fun e => h (by simp [e])
    have h2 : c ∉ r := fun e => h (by simp [e])
    show (if a = c then z else [a]) ++ subst c z r = _
    rw [if_neg h1, subst_free c z r h2]; rfl
theorem subst_append (c : Nat) (z a b : List Nat) : subst c z (a ++ b) = subst c z a ++ subst c z b := by simp [subst]
theorem subst_join (c : Nat) (z : Str) : ∀ parts : List Str, (∀ p ∈ parts, c ∉ p.cps.toList) → subst c z.cps.toList (Str.join ⟨#[c]⟩ parts).cps.toList = (Str.join z parts).cps.toList
  | [], _ => rfl
  | [p], h => subst_free c _ _ (h p (List.mem_singleton.mpr rfl))
  | p :: q :: r, h => by
    have ih := subst_join c z (q :: r) fun a ha => h a (List.mem_cons_of_mem _ ha)
    show subst c _ (p ++ ⟨#[c]⟩ ++ Str.join ⟨#[c]⟩ (q :: r)).cps.toList = (p ++ z ++ Str.join z (q :: r)).cps.toList
    simp only [Str.cps_append, Array.toList_append]
    rw [subst_append, subst_append, ih, subst_free c _ _ (h p (List.mem_cons_self ..))]
    congr 2
    simp [subst]
theorem tx_replace (t z : List Nat) (c : Nat) : Txt.replace ⟨t.toArray⟩ ⟨#[c]⟩ ⟨z.toArray⟩ = ⟨(subst c z t).toArray⟩ := by
  refine tx_ext ?_
  rw [StrLaws.replace_one, ← subst_join c ⟨z.toArray⟩ _ (StrLaws.split_free _ c), StrLaws.join_split]

/-- texts joined -/
noncomputable def glue (sep : List Nat) : List (List Nat) → List Nat
  | [] => []
  | [p] => p
  | p :: q :: r => p ++ sep ++ glue sep (q :: r)
theorem tx_join (sep : List Nat) : ∀ parts : List (List Nat), Txt.join ⟨sep.toArray⟩ (parts.map fun p => ⟨p.toArray⟩) = ⟨(glue sep parts).toArray⟩ := by
  intro parts
  unfold Txt.join
  rw [StrLaws.glued_eq_join]
  induction parts with
  | nil => rfl
  | cons p r ih =>
    cases r with
    | nil => rfl
    | cons q r =>
      show (⟨p.toArray⟩ : Str) ++ ⟨sep.toArray⟩ ++ Str.join ⟨sep.toArray⟩ ((q :: r).map fun p => ⟨p.toArray⟩) = _
      rw [ih, tx_append, tx_append]; rfl
theorem glue_length (sep : List Nat) (b : Nat) : ∀ parts : List (List Nat), (∀ p ∈ parts, p.length ≤ b) → (glue sep parts).length ≤ parts.length * (b + sep.length)
  | [], _ => Nat.zero_le _
  | [p], h => by have := h p (.head _); simp [glue]; omega
  | p :: q :: r, h => by
    have ih := glue_length sep b (q :: r) fun a ha => h a (.tail _ ha)
    have h1 := h p (.head _)
    show (p ++ sep ++ glue sep (q :: r)).length ≤ _
    rw [List.length_append, List.length_append, List.length_cons (a := p), Nat.succ_mul]
    omega
end Mine
end

section
set_option maxRecDepth 100000
namespace Mine
open PySem.Builtin.Str

/-- what a text's method call must be for the machine -/
noncomputable def MCall (o : Expr) (name : Str) (apos : Pos) (args : List Expr) (pos : Pos) : Prop := ∀ env, eval (.Call (.Attribute o name apos) args [] pos) env = (do
      let ov ← eval o env
      standAt apos.atName
      let (f, first) ← holding [ov] (getMethod ov name (do return (← importBound o env).getD true))
      callWith pos f first (backTo pos (starEach args env)) [])

section
variable {B : Wd} {nm : List (Str × NameKind)} {n : Nat} {md : Md} {ρ : Loc} {e o x y value : Expr} {es : List Expr} {d : PyData} {ds xs : List PyData} {pos apos p : Pos} {name : Str} {id : String}

/-- a method of a text, without arguments -/
theorem ev_meth0 {t : List Nat} (slot : Slot "str" name id) (ty : typeOf (.builtin id) = pure (.type "method_descriptor")) (ho : Ev B nm n .O ρ o (tx t))
    (h : ∀ (A : Around) (s : Shared) (u : Tok), wpAny B.M A (call (.builtin id) [.str ⟨t.toArray⟩ u]) (fun v s' => (∃ tk, s' = { s with toks := tk }) ∧ ∀ P, Rd B P s.heap v d) (fun _ _ => False) s)
    (hc : MCall o name apos [] pos := by intro _; rfl) : Ev B nm n md ρ (.Call (.Attribute o name apos) [] [] pos) d := fun A fs env h₀ own s S =>
  MethodCall_ (ho.then S fun v h' tk st S' r => by
    obtain ⟨u, rfl⟩ := r.str_inv
    refine getMethod_builtin (typeIs_str _ _ _) F.plainAttrs_str slot ty (fun a e => nomatch e) (callWith_method0 ?_)
    exact wpAny_mono (h A _ u) (fun v s' ⟨⟨tk', e⟩, r⟩ => ⟨h', tk', e, st, r _⟩) fun _ _ x => x) (hc env)
/-- a method of a text, with arguments -/
theorem ev_meth1 {t : List Nat} (slot : Slot "str" name id) (ty : typeOf (.builtin id) = pure (.type "method_descriptor")) (ho : Ev B nm n .O ρ o (tx t)) (ha : Evs B nm n .O ρ (e :: es) ds)
    (h : ∀ (A : Around) (s : Shared) (u : Tok) (vs : List Value) (P : Addr → Prop), Rds B P s.heap vs ds → wpAny B.M A (call (.builtin id) (.str ⟨t.toArray⟩ u :: vs)) (fun v s' => (∃ tk, s' = { s with toks := tk }) ∧ ∀ P, Rd B P s.heap v d) (fun _ _ => False) s)
    (hc : MCall o name apos (e :: es) pos := by intro _; rfl) (he : ∀ env, starEach (e :: es) env = (false, eval e env) :: starEach es env := by intro _; rfl) (hp : ∀ env, (backTo pos (starEach es env)).any (·.1) = false := by intro _; rfl) :
    Ev B nm n md ρ (.Call (.Attribute o name apos) (e :: es) [] pos) d := fun A fs env h₀ own s S =>
  MethodCall_ (ho.then S fun v h' tk st S' r => by
    obtain ⟨u, rfl⟩ := r.str_inv
    refine getMethod_builtin (typeIs_str _ _ _) F.plainAttrs_str slot ty (fun a e => nomatch e) (callWith_method1 (ha.then S' fun vs h'' tk' st' S'' rs => ?_) (he env) (hp env))
    exact wpAny_mono (h A _ u vs _ rs) (fun v s' ⟨⟨tk', e⟩, r⟩ => ⟨h'', tk', e, st.tr st', r _⟩) fun _ _ x => x) (hc env)

theorem ev_strip {t : List Nat} (ho : Ev B nm n .O ρ o (tx t)) (hz : t.length ≤ 16777216) (hc : MCall o "strip" apos [] pos := by intro _; rfl) : Ev B nm n md ρ (.Call (.Attribute o "strip" apos) [] [] pos) (tx (trim t)) :=
  ev_meth0 F.slot_str_strip F.type_str_strip ho (fun A s u => SC.strip (fun t' k => ⟨⟨k, rfl⟩, fun P => by rw [tx_strip]; exact .str _ _⟩) (by rw [tx_len, sizeLine_eq]; exact hz)) hc
theorem rds_strs {h : Heap} {P : Addr → Prop} : ∀ {vs : List Value} {ts : List (List Nat)}, Rds B P h vs (ts.map tx) → ∃ l : List (Str × Tok), strValues l = vs ∧ l.map (·.1) = ts.map fun t => (⟨t.toArray⟩ : Str)
  | _, [], r => by cases r; exact ⟨[], rfl, rfl⟩
  | _, t :: ts, r => by
    obtain ⟨v, ws, rfl, rv, rs⟩ := r.cons_inv
    obtain ⟨u, rfl⟩ := rv.str_inv
    obtain ⟨l, e1, e2⟩ := rds_strs rs
    refine ⟨(⟨t.toArray⟩, u) :: l, ?_, ?_⟩
    · show Value.str _ u :: strValues l = _; rw [e1]
    · rw [List.map_cons, List.map_cons, e2]
theorem ev_join {sep : List Nat} {ts : List (List Nat)} {b : Nat} (ho : Ev B nm n .O ρ o (tx sep)) (hy : Ev B nm n .O ρ y (.list (ts.map tx))) (hb : ∀ t ∈ ts, t.length ≤ b) (hz : ts.length * b + ts.length * sep.length ≤ 16777216)
    (hc : MCall o "join" apos [y] pos := by intro _; rfl) (he : ∀ env, starEach [y] env = [(false, eval y env)] := by intro _; rfl) :
    Ev B nm n md ρ (.Call (.Attribute o "join" apos) [y] [] pos) (tx (glue sep ts)) :=
  ev_meth1 F.slot_str_join F.type_str_join ho (evs_cons hy evs_nil fun env => he env) (fun A s u vs P rs => by
    obtain ⟨v, ws, rfl, rv, rw'⟩ := rs.cons_inv
    obtain rfl := rw'.nil_inv
    obtain ⟨a, us, rfl, pa, hl, q⟩ := rv.list_inv
    obtain ⟨l, e1, e2⟩ := rds_strs q
    have hok : JoinOk ⟨sep.toArray⟩ (ts.map fun t => (⟨t.toArray⟩ : Str)) = true := by
      unfold JoinOk
      rw [Bool.not_eq_true']
      refine StrLaws.joinFits (B := b) (fun y hy => ?_) ?_
      · obtain ⟨t, ht, rfl⟩ := List.mem_map.mp hy
        rw [tx_len]; exact hb t ht
      · rw [List.length_map, tx_len]; exact hz
    exact SC.join (l := l) (texts := ts.map fun t => (⟨t.toArray⟩ : Str)) (by rw [e1]; simpa using hl) e2 hok fun t' k => ⟨⟨k, rfl⟩, fun P => by rw [tx_join]; exact .str _ _⟩) hc (fun env => he env) (fun _ => rfl)

/-- text.split(c, 1) -/
theorem evg_split {t : List Nat} {c : Nat} {k1 k2 : Nat} {p1 p2 : Pos} (ho : Ev B nm n .O ρ o (tx t)) (hc' : c < 256) (hz : t.length ≤ 1000000)
    (hc : MCall o "split" apos [.Constant (.str ⟨#[c]⟩) k1 p1, .Constant (.int 1) k2 p2] pos := by intro _; rfl) :
    EvG B nm n md ρ (.Call (.Attribute o "split" apos) [.Constant (.str ⟨#[c]⟩) k1 p1, .Constant (.int 1) k2 p2] [] pos) (if c ∈ t then [tx (upTo c t), tx (past c t)] else [tx t]) := fun A fs env h₀ own s S =>
  MethodCall_ (ho.then S fun v h' tk st S' r => by
    obtain ⟨u, rfl⟩ := r.str_inv
    have ha : Evs B nm n .O ρ [.Constant (.str ⟨#[c]⟩) k1 p1, .Constant (.int 1) k2 p2] [.str ⟨#[c]⟩, .int 1] := evs_cons ev_str (evs_cons ev_int evs_nil)
    refine getMethod_builtin (typeIs_str _ _ _) F.plainAttrs_str F.slot_str_split F.type_str_split (fun a e => nomatch e) (callWith_method1 (ha.then S' fun vs h'' tk' st' S'' rs => ?_) rfl rfl)
    obtain ⟨v1, ws, rfl, rv1, rs⟩ := rs.cons_inv
    obtain ⟨v2, ws, rfl, rv2, rs⟩ := rs.cons_inv
    obtain rfl := rs.nil_inv
    obtain ⟨u1, rfl⟩ := rv1.str_inv
    obtain ⟨u2, rfl⟩ := rv2.int_inv
    show wpAny B.M A (call (.builtin "str.split") [.str ⟨t.toArray⟩ u, .str ⟨#[c]⟩ u1, .int 1 u2]) _ _ _
    have fin : ∀ (l : List (Str × Tok)) (k : Nat), l.map (·.1) = Txt.splitMax ⟨t.toArray⟩ ⟨#[c]⟩ 1 → ∃ h' tk a vs, ({ s with heap := h''.push { cls := .type "list", data := .seq (strValues l).toArray }, toks := k } : Shared) = { s with heap := h', toks := tk } ∧ Stay (adr fs) [] s.heap h' ∧ Value.ref h''.objs.size = .ref a ∧ s.heap.get? a = none ∧ h'.PlainList a vs ∧
        Rds B (fun b => md.P h₀ fs env.locals own b ∧ b ≠ a) h' vs.toList (if c ∈ t then [tx (upTo c t), tx (past c t)] else [tx t]) := fun l k e => by
      refine ⟨_, k, h''.objs.size, (strValues l).toArray, rfl, (st.tr st').tr (.push _ _ _ _), rfl, not_before (st.tr st') (get_size _), plain_push _ _, ?_⟩
      rw [tx_split t c hc'] at e
      by_cases hm : c ∈ t
      · rw [if_pos hm] at e ⊢
        match l, e with
        | [(x1, q1), (x2, q2)], e =>
          simp only [List.map_cons, List.map_nil, List.cons.injEq, and_true] at e
          obtain ⟨rfl, rfl⟩ := e
          exact .cons (.str _ _) (.cons (.str _ _) .nil)
      · rw [if_neg hm] at e ⊢
        match l, e with
        | [(x1, q1)], e =>
          simp only [List.map_cons, List.map_nil, List.cons.injEq, and_true] at e
          subst e
          exact .cons (.str _ _) .nil
    have hk : (decide ((1 : Int) < -(2 ^ 63 : Int)) || decide ((1 : Int) ≥ 2 ^ 63)) = false := by decide
    have hy : ((⟨#[c]⟩ : Str).length == 0) = false := rfl
    have hsz : (⟨t.toArray⟩ : Str).length + 2 ≤ sizeLine := by rw [tx_len, sizeLine_eq]; omega
    have hn : (partsBetween ⟨t.toArray⟩ (occurrences ⟨t.toArray⟩ ⟨#[c]⟩ 0 (⟨t.toArray⟩ : Str).length (limitOf ⟨t.toArray⟩ 1)) (⟨#[c]⟩ : Str).length).length ≤ sizeLine := by
      have e1 := StrLaws.occ_length_le_len ⟨t.toArray⟩ ⟨#[c]⟩ 0 (⟨t.toArray⟩ : Str).length (limitOf ⟨t.toArray⟩ 1)
      rw [length_partsBetween]; omega
    cases h1 : (decide ((⟨t.toArray⟩ : Str).length < (⟨#[c]⟩ : Str).length) || decide (Builtin.Str.strKind ⟨t.toArray⟩ < Builtin.Str.strKind ⟨#[c]⟩))
    · cases hf : (occurrences ⟨t.toArray⟩ ⟨#[c]⟩ 0 (⟨t.toArray⟩ : Str).length (limitOf ⟨t.toArray⟩ 1)).isEmpty
      · refine call_meets F.slot_str_split (typeIs_str _ _ _) F.entry_str_split (F.args_str_split_3 _ _ _) (meets_str_split_sep_max ⟨t.toArray⟩ ⟨#[c]⟩ 1 u u1 u2 hk h1 hy hf (by omega) hn) ?_
        show wants _ _ _ { s with toks := _, heap := h''.push { cls := .type "list", data := .seq (strsFrom tk' (partsBetween ⟨t.toArray⟩ (occurrences ⟨t.toArray⟩ ⟨#[c]⟩ 0 (⟨t.toArray⟩ : Str).length (limitOf ⟨t.toArray⟩ 1)) (⟨#[c]⟩ : Str).length)).toArray } }
        rw [strsFrom_eq]
        exact fin (numbered tk' _) _ ((numbered_texts _ _).trans ((if_neg (ne_true_of_eq_false h1)).trans (if_neg (ne_true_of_eq_false hf))).symm)
      · exact call_meets F.slot_str_split (typeIs_str _ _ _) F.entry_str_split (F.args_str_split_3 _ _ _) (meets_str_split_max_not_found ⟨t.toArray⟩ ⟨#[c]⟩ 1 u u1 u2 hk h1 hy hf)
          (fin [(⟨t.toArray⟩, u)] tk' ((if_neg (ne_true_of_eq_false h1)).trans (if_pos hf)).symm)
    · exact call_meets F.slot_str_split (typeIs_str _ _ _) F.entry_str_split (F.args_str_split_3 _ _ _) (meets_str_split_max_cannot_occur ⟨t.toArray⟩ ⟨#[c]⟩ 1 u u1 u2 hk h1)
        (fin [(⟨t.toArray⟩, u)] tk' (if_pos h1).symm)) (hc env)
end
end Mine
end

section
set_option maxRecDepth 100000
namespace Mine

/-- how a block ends -/
inductive Fl where | next | cont | brk | ret (d : PyData)
noncomputable def FlR (B : Wd) (P : Addr → Prop) (h : Heap) : Flow → Fl → Prop
  | .next, .next => True
  | .cont, .cont => True
  | .brk, .brk => True
  | .ret v, .ret d => Rd B P h v d
  | _, _ => False

/-- which raised exceptions are taken -/
structure Acc (B : Wd) (X : String → Prop) (A : Around) (fs : List Env) (env : Env) (h₀ : Heap) (s : Shared) (E : Value → Shared → Prop) : Prop where
  own : PassesOwn B.M A env E
  new : ∀ (h1 h2 : Heap) (tk : Nat) (e : Addr) (cls : String) (own : List Addr) (ρ : Loc), X cls → SR B h₀ fs env own ρ h1 → Heap.NewExc h1 h2 e cls → E (.ref e) { s with heap := h2, toks := tk }
theorem Acc.at {B : Wd} {X : String → Prop} {A : Around} {fs : List Env} {env : Env} {h₀ : Heap} {s : Shared} {E : Value → Shared → Prop} (a : Acc B X A fs env h₀ s E) (h : Heap) (tk : Nat) : Acc B X A fs env h₀ { s with heap := h, toks := tk } E :=
  ⟨a.own, fun h1 h2 tk e cls own ρ x S n => a.new h1 h2 tk e cls own ρ x S n⟩

/-- the end of a block -/
structure PostAt (B : Wd) (fs : List Env) (env : Env) (h₀ : Heap) (own : List Addr) (s : Shared) (Q : Fl → Loc → Prop) (f : Flow) (fl : Fl) (ρ' : Loc) (own' : List Addr) (h' : Heap) (tk : Nat) : Prop where
  toks : s.toks ≤ tk
  q : Q fl ρ'
  stay : Stay (adr fs) (env.locals :: own) s.heap h'
  owns : ∀ a ∈ own', a ∈ own ∨ s.heap.get? a = none
  sr : SR B h₀ fs env own' ρ' h'
  flr : FlR B (Md.F.P h₀ fs env.locals own') h' f fl
noncomputable def Post (B : Wd) (fs : List Env) (env : Env) (h₀ : Heap) (own : List Addr) (s : Shared) (Q : Fl → Loc → Prop) (f : Flow) (s' : Shared) : Prop :=
  ∃ fl ρ' own' h' tk, s' = { s with heap := h', toks := tk } ∧ PostAt B fs env h₀ own s Q f fl ρ' own' h' tk

noncomputable def Ex (B : Wd) (X : String → Prop) (nm : List (Str × NameKind)) (n : Nat) (ρ : Loc) (ss : List Stmt) (Q : Fl → Loc → Prop) : Prop :=
  ∀ A fs env h₀ own s E, Sta B nm n A fs env h₀ own ρ s → Acc B X A fs env h₀ s E → wpAny B.M A (execs ss env) (Post B fs env h₀ own s Q) E s
noncomputable def Ex1 (B : Wd) (X : String → Prop) (nm : List (Str × NameKind)) (n : Nat) (ρ : Loc) (st : Stmt) (Q : Fl → Loc → Prop) : Prop :=
  ∀ A fs env h₀ own s E, Sta B nm n A fs env h₀ own ρ s → Acc B X A fs env h₀ s E → wpAny B.M A (exec st env) (Post B fs env h₀ own s Q) E s

section
variable {B : Wd} {X : String → Prop} {nm : List (Str × NameKind)} {n : Nat} {ρ : Loc} {Q : Fl → Loc → Prop} {st : Stmt} {rest : List Stmt} {fs : List Env} {env : Env} {h₀ : Heap} {own : List Addr} {s : Shared}

theorem toks_up {α : Type} {M : Model} {A : Around} {t : Sem α} {Q : α → Shared → Prop} {E : Value → Shared → Prop} {s : Shared} (h : wpAny M A t (fun a s' => s.toks ≤ s'.toks → Q a s') E s) : wpAny M A t Q E s :=
  wpAny_mono (wpAny_toks_of (n := s.toks) (Nat.le_refl _) h) (fun _ _ x => x.2 x.1) fun _ _ x => x.2

theorem Post.sta {A : Around} {f : Flow} {s' : Shared} (S : Sta B nm n A fs env h₀ own ρ s) {ρ' : Loc} {own' : List Addr} {h' : Heap} {tk : Nat} (t : s.toks ≤ tk) (R : SR B h₀ fs env own' ρ' h') : Sta B nm n A fs env h₀ own' ρ' { s with heap := h', toks := tk } :=
  ⟨S.ok, S.sit, R, Nat.le_trans S.tok t⟩

theorem fresh_own {h h' : Heap} {fr o2 own own' : List Addr} (st : Stay fr o2 h h') (n1 : ∀ a ∈ own', a ∈ own ∨ h.get? a = none) {own'' : List Addr} (n2 : ∀ a ∈ own'', a ∈ own' ∨ h'.get? a = none) : ∀ a ∈ own'', a ∈ own ∨ h.get? a = none := fun a ha => by
  rcases n2 a ha with q | q
  · exact n1 a q
  · right
    cases e : h.get? a with
    | none => rfl
    | some o => obtain ⟨o', e'⟩ := st.live a o e; rw [q] at e'; cases e'

theorem ex_nil (h : Q .next ρ) : Ex B X nm n ρ [] Q := fun A fs env h₀ own s E S a => wpAny_execs_nil ⟨.next, ρ, own, s.heap, s.toks, rfl, Nat.le_refl _, h, .refl _ _ _, fun _ h => .inl h, S.sr, trivial⟩

theorem ex_cons {Q₁ : Fl → Loc → Prop} (h₁ : Ex1 B X nm n ρ st Q₁) (h₂ : ∀ fl ρ', Q₁ fl ρ' → match fl with | .next => Ex B X nm n ρ' rest Q | fl => Q fl ρ') : Ex B X nm n ρ (st :: rest) Q := fun A fs env h₀ own s E S a => by
  refine wpAny_execs_cons (wpAny_mono (h₁ A fs env h₀ own s E S a) (fun f s' p => ?_) fun _ _ x => x)
  obtain ⟨fl, ρ', own', h', tk, rfl, t, q, st, no, R, fr⟩ := p
  cases f with
  | next =>
    cases fl with
    | next =>
      have q' := h₂ _ _ q
      refine wpAny_mono (q' A fs env h₀ own' _ E (Post.sta (f := .next) (s' := s) S t R) (a.at _ _)) (fun f s' p => ?_) fun _ _ x => x
      obtain ⟨fl, ρ'', own'', h'', tk', rfl, t', q'', st', no', R', fr'⟩ := p
      refine ⟨fl, ρ'', own'', h'', tk', rfl, Nat.le_trans t t', q'', st.trans st' (fun b hb => ?_), fresh_own st no no', R', fr'⟩
      rcases List.mem_cons.mp hb with e | hb
      · subst e; exact .inl (.head _)
      · exact (no b hb).imp (fun h => .tail _ h) id
    | cont => exact fr.elim
    | brk => exact fr.elim
    | ret d => exact fr.elim
  | cont => cases fl with
    | cont => exact ⟨.cont, ρ', own', h', tk, rfl, t, h₂ _ _ q, st, no, R, fr⟩
    | next => exact fr.elim
    | brk => exact fr.elim
    | ret d => exact fr.elim
  | brk => cases fl with
    | brk => exact ⟨.brk, ρ', own', h', tk, rfl, t, h₂ _ _ q, st, no, R, fr⟩
    | next => exact fr.elim
    | cont => exact fr.elim
    | ret d => exact fr.elim
  | ret v => cases fl with
    | ret d => exact ⟨.ret d, ρ', own', h', tk, rfl, t, h₂ _ _ q, st, no, R, fr⟩
    | next => exact fr.elim
    | cont => exact fr.elim
    | brk => exact fr.elim

theorem funFrames_keep {h h' base : Heap} {l : List Env} (k : ∀ b o, h.get? b = some o → (∀ vs, o.data ≠ .fields vs) → ∃ o', h'.get? b = some o' ∧ ∀ vs, o'.data ≠ .fields vs) (hl : h.FunFrames base l) : h'.FunFrames base l := by
  induction l with
  | nil => trivial
  | cons env rest ih =>
    obtain ⟨hk, ⟨L, o, hf, hn, ho, hd⟩, hr⟩ := hl
    obtain ⟨o', ho', hd'⟩ := k L o ho hd
    exact ⟨hk, ⟨L, o', hf, hn, ho', hd'⟩, ih hr⟩

/-- the state behind a change at W (the locals, or what is owned), but for the variables -/
theorem SR.turn {h h' : Heap} {W : List Addr} {own' : List Addr} (S : SR B h₀ fs env own ρ h) (hW : ∀ a ∈ W, a = env.locals ∨ a ∈ own)
    (kb : ∀ b o, b ∉ W → h.get? b = some o → h'.get? b = some o) (kw : ∀ b o, b ∈ W → h.get? b = some o → (∀ vs, o.data ≠ .fields vs) → ∃ o', h'.get? b = some o' ∧ ∀ vs, o'.data ≠ .fields vs)
    (hw : ∀ b o, b ∈ W → h.get? b = some o → ∀ vs, o.data ≠ .fields vs) (hwc : ∀ b o, b ∈ W → h.get? b = some o → ∀ v, o.data ≠ .cell v)
    (ho : ∀ a ∈ own', a ∈ own ∨ ((∃ o, h'.get? a = some o) ∧ B.base.get? a = none ∧ h₀.get? a = none ∧ a ≠ env.locals ∧ a ∉ adr fs)) (hc : ∀ a ∈ own, a ∈ own') {ρ' : Loc}
    (vars : ∃ m oa, h'.Ns env.locals m ∧ (∀ x y a, oa x = some a → oa y = some a → x = y) ∧ (∀ x a, oa x = some a → a ∈ own') ∧ ∀ x lv, ρ' x = some lv → VarAt B h₀ fs env own' oa m h' x lv) :
    SR B h₀ fs env own' ρ' h' := by
  have out : ∀ b ∈ W, B.base.get? b = none ∧ h₀.get? b = none := fun b hb => by
    rcases hW b hb with e | e
    · rw [e]; exact S.loc
    · exact ⟨(S.owns b e).2.1, (S.owns b e).2.2.1⟩
  have live : ∀ b o, h.get? b = some o → ∃ o', h'.get? b = some o' := fun b o e => by
    by_cases q : b ∈ W
    · obtain ⟨o', e', _⟩ := kw b o q e (hw b o q e); exact ⟨o', e'⟩
    · exact ⟨o, kb b o q e⟩
  refine ⟨fun b o e => kb b o (fun q => by rw [(out b q).1] at e; cases e) (S.stays b o e), funFrames_keep (fun b o e nf => ?_) S.frames, ?_,
    fun a ha => ?_, S.loc, fun p hp => hc _ (S.cells p hp), ⟨fun p hp => let ⟨v, o, e, d⟩ := S.cellish.1 p hp; ⟨v, o, kb _ o (fun q => hwc _ o q e v d) e, d⟩, S.cellish.2⟩, vars⟩
  · by_cases q : b ∈ W
    · exact kw b o q e nf
    · exact ⟨o, kb b o q e, nf⟩
  · exact S.kept.trans (own' := W) ⟨fun b o _ q e => kb b o q e, fun b o q e => ⟨o.slots, kb b o q e⟩, live⟩ fun a ha => .inr (out a ha).2
  · rcases ho a ha with q | q
    · obtain ⟨⟨o, e⟩, r⟩ := S.owns a q; exact ⟨live a o e, r⟩
    · exact q
theorem SR.freshO {h : Heap} {a : Addr} (S : SR B h₀ fs env own ρ h) (q : h.get? a = none) : B.base.get? a = none ∧ h₀.get? a = none ∧ a ≠ env.locals ∧ a ∉ adr fs := by
  have fr := S.fresh .N q
  refine ⟨?_, fr.2.2, fr.2.1.1, fr.1⟩
  cases eb : B.base.get? a with
  | none => rfl
  | some ob => rw [S.stays a ob eb] at q; cases q

theorem VarIs.at {m m' : Str → Option Value} {h h' : Heap} {y : Str} {u : Value} (V : VarIs env m h y u) (hm : env.kindOf y = some .local → m y = some u → m' y = some u) (hc : ∀ c o, env.cells.lookup y = some c → h.get? c = some o → (∃ v, o.data = .cell v) → h'.get? c = some o) : VarIs env m' h' y u := by
  rcases V with ⟨q, w⟩ | ⟨q, nc, c, e, o, ho, hd⟩
  · exact .inl ⟨q, hm q w⟩
  · exact .inr ⟨q, nc, c, e, o, hc c o e ho ⟨_, hd⟩, hd⟩

/-- a variable's fact carried on -/
theorem VarAt.atN {m m' : Str → Option Value} {h h' : Heap} {own' : List Addr} {oa oa' : Str → Option Addr} {y : Str} {lv : LV} (V : VarAt B h₀ fs env own oa m h y lv)
    (hv : ∀ u, VarIs env m h y u → VarIs env m' h' y u) (ho : ∀ a, oa y = some a → oa' y = some a)
    (kb : ∀ b o, b ∉ adr fs → b ≠ env.locals → b ∉ own → h.get? b = some o → NoFields o → h'.get? b = some o ∧ b ∉ own') (ka : ∀ a o, oa y = some a → h.get? a = some o → NoFields o → h'.get? a = some o)
    (kr : ∀ a, a ∈ own → (∀ z, oa z ≠ some a) → (∀ p ∈ env.cells, p.2 ≠ a) → (∀ o, h.get? a = some o → NoFields o → h'.get? a = some o) ∧ a ∈ own' ∧ ∀ z, oa' z ≠ some a) : VarAt B h₀ fs env own' oa' m' h' y lv := by
  have up : ∀ b o, Md.C.P h₀ fs env.locals own b → h.get? b = some o → NoFields o → h'.get? b = some o ∧ Md.C.P h₀ fs env.locals own' b := fun b o p e nf => let q := kb b o p.1 p.2.1 p.2.2 e nf; ⟨q.1, p.1, p.2.1, q.2⟩
  have upN : ∀ b o, Md.N.P h₀ fs env.locals own b → h.get? b = some o → NoFields o → h'.get? b = some o ∧ Md.N.P h₀ fs env.locals own' b := fun b o p e nf => let q := kb b o p.1 p.2.1.1 p.2.1.2 e nf; ⟨q.1, p.1, ⟨p.2.1.1, q.2⟩, p.2.2⟩
  cases lv with
  | dat d => obtain ⟨v, X, r⟩ := V; exact ⟨v, hv v X, r.upN (fun b o p e nf => (up b o p e nf).1) fun b o p e nf => (up b o p e nf).2⟩
  | raw R =>
    obtain ⟨v, X, hr, r⟩ := V
    have kk := fun a ha => kr a (hr a ha).1 (hr a ha).2.1 (hr a ha).2.2
    exact ⟨v, hv v X, fun a ha => ⟨(kk a ha).2.1, (kk a ha).2.2, (hr a ha).2.2⟩, R.up r (fun b o p e nf => p.elim (fun p => (upN b o p e nf).1) fun p => (kk b p).1 o e nf) fun b o p e nf => (upN b o p e nf).2⟩
  | lst xs => obtain ⟨a, vs, e, X, l, r⟩ := V; exact ⟨a, vs, ho a e, hv _ X, plainList_keep l (fun o e' => ka a o e e' (isList_nf l.isList o e')), r.upN (fun b o p e nf => (upN b o p e nf).1) fun b o p e nf => (upN b o p e nf).2⟩
  | dct kvs => obtain ⟨a, ws, e, X, l, na, r⟩ := V; exact ⟨a, ws, ho a e, hv _ X, dictOf_keep l (fun o e' => ka a o e e' (dictOf_nf l o e')), na, r.upN (fun b o p e nf => (upN b o p e nf).1) fun b o p e nf => (upN b o p e nf).2⟩
theorem VarAt.at {m m' : Str → Option Value} {h h' : Heap} {own' : List Addr} {oa oa' : Str → Option Addr} {y : Str} {lv : LV} (V : VarAt B h₀ fs env own oa m h y lv)
    (hv : ∀ u, VarIs env m h y u → VarIs env m' h' y u) (ho : ∀ a, oa y = some a → oa' y = some a)
    (kb : ∀ b o, b ∉ adr fs → b ≠ env.locals → b ∉ own → h.get? b = some o → h'.get? b = some o ∧ b ∉ own') (ka : ∀ a o, oa y = some a → h.get? a = some o → h'.get? a = some o)
    (kr : ∀ a, a ∈ own → (∀ z, oa z ≠ some a) → (∀ p ∈ env.cells, p.2 ≠ a) → (∀ o, h.get? a = some o → h'.get? a = some o) ∧ a ∈ own' ∧ ∀ z, oa' z ≠ some a) : VarAt B h₀ fs env own' oa' m' h' y lv :=
  V.atN hv ho (fun b o f l n e _ => kb b o f l n e) (fun a o x e _ => ka a o x e) fun a x y z => ⟨fun o e _ => (kr a x y z).1 o e, (kr a x y z).2⟩

theorem ns_nocell {h : Heap} {L : Addr} {m : Str → Option Value} (n : h.Ns L m) : ∀ o, h.get? L = some o → ∀ v, o.data ≠ .cell v := fun o e vs q => by
  obtain ⟨o', es, ep, e', d, _⟩ := n
  rw [e] at e'; cases e'; rw [q] at d; cases d
theorem ns_nofields {h : Heap} {L : Addr} {m : Str → Option Value} (n : h.Ns L m) : ∀ o, h.get? L = some o → ∀ vs, o.data ≠ .fields vs := fun o e vs q => by
  obtain ⟨o', es, ep, e', d, _⟩ := n
  rw [e] at e'; cases e'; rw [q] at d; cases d

/-- a change of records alone (an iterator's) -/
theorem SR.iter {h h' : Heap} {wr : List Addr} (S : SR B h₀ fs env own ρ h) (kb : ∀ b o, b ∉ wr → h.get? b = some o → h'.get? b = some o) (hw : ∀ b ∈ wr, (∃ o vs, h.get? b = some o ∧ o.data = .fields vs) ∧ B.base.get? b = none ∧ h₀.get? b = none ∧ b ∉ own ∧ b ∉ adr fs) : SR B h₀ fs env own ρ h' := by
  obtain ⟨m, oa, n, inj, sub, vs⟩ := S.vars
  have nf : ∀ b o, h.get? b = some o → NoFields o → h'.get? b = some o := fun b o e f => kb b o (fun q => by obtain ⟨⟨o', vs, e', d⟩, _⟩ := hw b q; rw [e] at e'; cases e'; exact f vs d) e
  have k0 : ∀ b o, h₀.get? b = some o → b ∉ wr := fun b o e q => by rw [(hw b q).2.2.1] at e; cases e
  refine ⟨fun b o e => kb b o (fun q => by rw [(hw b q).2.1] at e; cases e) (S.stays b o e), funFrames_keep (fun b o e f => ⟨o, nf b o e f, f⟩) S.frames,
    ⟨fun b o f w e => kb b o (k0 b o e) (S.kept.keep b o f w e), fun b o w e => let ⟨sl, e'⟩ := S.kept.slot b o w e; ⟨sl, kb b _ (k0 b o e) e'⟩, fun b o e => let ⟨o', e'⟩ := S.kept.live b o e; ⟨o', kb b _ (k0 b o e) e'⟩⟩,
    fun a ha => let ⟨⟨o, e⟩, r⟩ := S.owns a ha; ⟨⟨o, kb a o (fun q => (hw a q).2.2.2.1 ha) e⟩, r⟩, S.loc, S.cells, ⟨fun p hp => let ⟨v, o, e, d⟩ := S.cellish.1 p hp; ⟨v, o, nf _ o e (fun us q => by rw [d] at q; cases q), d⟩, S.cellish.2⟩, m, oa, ?_, inj, sub, fun x lv e => ?_⟩
  · obtain ⟨o, es, ep, e, d, r⟩ := n
    exact ⟨o, es, ep, nf _ o e (fun us q => by rw [q] at d; cases d), d, r⟩
  · exact (vs x lv e).atN (fun u V => V.at (fun _ w => w) fun c o hc e ⟨v, q⟩ => nf c o e fun us z => by rw [q] at z; cases z) (fun _ e => e) (fun b o _ _ no e f => ⟨nf b o e f, no⟩) (fun a o _ e f => nf a o e f) fun a ha hz _ => ⟨fun o e f => nf a o e f, ha, hz⟩

/-- a new binding's state: x a datum -/
theorem SR.put_dat {h h' : Heap} {x : Str} {v : Value} {d : PyData} (S : SR B h₀ fs env own ρ h) (r : Rd B (Md.C.P h₀ fs env.locals own) h v d) (hk : env.kindOf x = some .local)
    (hn : ∀ m, h.Ns env.locals m → h'.Ns env.locals (fun y => if y = x then some v else m y)) (hs : Heap.SameBut env.locals h h') : SR B h₀ fs env own (put x (.dat d) ρ) h' := by
  obtain ⟨m, oa, n, inj, sub, vs⟩ := S.vars
  have kb : ∀ b o, b ≠ env.locals → h.get? b = some o → h'.get? b = some o := fun b o nb e => (hs.2 b nb).trans e
  have nsl := hn m n
  refine S.turn (W := [env.locals]) (fun a ha => .inl (List.mem_singleton.mp ha)) (fun b o q e => kb b o (fun z => q (by simp [z])) e) (fun b o q e nf => ?_) (fun b o q e => ?_) (fun b o q e => ns_nocell n o (List.mem_singleton.mp q ▸ e)) (fun a ha => .inl ha) (fun a ha => ha) ⟨_, oa, nsl, inj, sub, fun y lv e => ?_⟩
  · rw [List.mem_singleton.mp q]
    obtain ⟨o', es, ep, e', d', rr⟩ := id nsl
    exact ⟨o', e', fun vs q => by rw [q] at d'; cases d'⟩
  · rw [List.mem_singleton.mp q] at e; exact ns_nofields n o e
  · by_cases q : y = x
    · subst q
      rw [put_eq] at e; cases e
      exact ⟨v, .inl ⟨hk, by simp⟩, r.up (fun b o p e => kb b o p.2.1 e) fun _ _ p _ => p⟩
    · rw [put_ne _ _ q] at e
      refine (vs y lv e).at (fun u V => V.at (fun _ w => by simpa [q] using w) fun c o hc e _ => ?_) (fun a e => e) (fun b o _ nl no e => ⟨kb b o nl e, no⟩) (fun a o ea e => kb a o (S.owns a (sub y a ea)).2.2.2.1 e) fun a ha hz _ => ⟨fun o e => kb a o (S.owns a ha).2.2.2.1 e, ha, hz⟩
      obtain ⟨z, hz⟩ := mem_lookup hc
      exact kb c o (S.owns _ (S.cells _ hz)).2.2.2.1 e
/-- a new binding's state: x a new thing of one's own -/
theorem SR.put_own {h h₁ h' : Heap} {x : Str} {a : Addr} {lv : LV} (S : SR B h₀ fs env own ρ h) (st : Stay (adr fs) [] h h₁) (ha : h.get? a = none) (hl : ∃ o, h₁.get? a = some o) (hk : env.kindOf x = some .local)
    (hn : ∀ m, h₁.Ns env.locals m → h'.Ns env.locals (fun y => if y = x then some (.ref a) else m y)) (hs : Heap.SameBut env.locals h₁ h')
    (V : ∀ m oa, m x = some (.ref a) → oa x = some a → (∀ b o, b ≠ env.locals → h₁.get? b = some o → h'.get? b = some o) → VarAt B h₀ fs env (a :: own) oa m h' x lv) : SR B h₀ fs env (a :: own) (put x lv ρ) h' := by
  obtain ⟨m, oa, n, inj, sub, vs⟩ := S.vars
  have fo := S.freshO ha
  have n₁ : h₁.Ns env.locals m := ns_slot n fun o e => st.slot _ o (fun q => nomatch q) e
  have kb : ∀ b o, b ≠ env.locals → h₁.get? b = some o → h'.get? b = some o := fun b o nb e => (hs.2 b nb).trans e
  have nsl := hn m n₁
  have na : ∀ y c, oa y = some c → c ≠ a := fun y c e q => by
    obtain ⟨⟨o, e'⟩, _⟩ := S.owns c (sub y c e)
    rw [q, ha] at e'; cases e'
  refine (S.grow st).turn (W := [env.locals]) (fun b hb => .inl (List.mem_singleton.mp hb)) (fun b o q e => kb b o (fun z => q (by simp [z])) e) (fun b o q e nf => ?_) (fun b o q e => ?_) (fun b o q e => ns_nocell n₁ o (List.mem_singleton.mp q ▸ e))
    (fun b hb => ?_) (fun b hb => .tail _ hb) ⟨_, fun y => if y = x then some a else oa y, nsl, fun y z c e1 e2 => ?_, fun y c e => ?_, fun y lv e => ?_⟩
  · rw [List.mem_singleton.mp q]
    obtain ⟨o', es, ep, e', d', rr⟩ := id nsl
    exact ⟨o', e', fun vs q => by rw [q] at d'; cases d'⟩
  · rw [List.mem_singleton.mp q] at e; exact ns_nofields n₁ o e
  · rcases List.mem_cons.mp hb with rfl | hb
    · obtain ⟨o, e⟩ := hl
      exact .inr ⟨⟨o, kb _ o fo.2.2.1 e⟩, fo⟩
    · exact .inl hb
  · by_cases q1 : y = x <;> by_cases q2 : z = x <;> simp only [q1, q2, if_true, if_false] at e1 e2
    · rw [q1, q2]
    · cases e1; exact absurd rfl (na z _ e2)
    · cases e2; exact absurd rfl (na y _ e1)
    · exact inj y z c e1 e2
  · by_cases q1 : y = x <;> simp only [q1, if_true, if_false] at e
    · cases e; exact .head _
    · exact .tail _ (sub y c e)
  · by_cases q : y = x
    · subst q
      rw [put_eq] at e; cases e
      exact V _ _ (by simp) (by simp) kb
    · rw [put_ne _ _ q] at e
      have kk : ∀ b o, b ∉ adr fs → b ≠ env.locals → h.get? b = some o → h'.get? b = some o := fun b o nf nl e => kb b o nl (st.keep b o nf (fun q => nomatch q) e)
      refine (vs y lv e).at (fun u V => V.at (fun _ w => by simpa [q] using w) fun c o hc e _ => ?_) (fun c e => by simpa [q] using e) (fun b o nf nl no e => ⟨kk b o nf nl e, fun z => ?_⟩) (fun c o ec e => ?_) fun c hc hz _ => ⟨fun o e => kk c o (S.owns c hc).2.2.2.2 (S.owns c hc).2.2.2.1 e, .tail _ hc, fun w hw => ?_⟩
      · obtain ⟨z, hz⟩ := mem_lookup hc
        obtain ⟨_, _, _, n1, n2⟩ := S.owns _ (S.cells _ hz)
        exact kk c o n2 n1 e
      · rcases List.mem_cons.mp z with z | z
        · rw [z, ha] at e; cases e
        · exact no z
      · obtain ⟨_, _, _, n1, n2⟩ := S.owns c (sub y c ec)
        exact kk c o n2 n1 e
      · by_cases q1 : w = x
        · simp only [q1, if_true] at hw
          cases hw
          obtain ⟨⟨o, e⟩, _⟩ := S.owns a hc
          rw [ha] at e; cases e
        · simp only [q1, if_false] at hw
          exact hz w hw
end
end Mine
end

section
set_option maxRecDepth 100000
namespace Mine

section
variable {B : Wd} {X : String → Prop} {nm : List (Str × NameKind)} {n : Nat} {ρ : Loc} {Q : Fl → Loc → Prop} {st : Stmt} {rest : List Stmt} {fs : List Env} {env : Env} {h₀ : Heap} {own : List Addr} {s : Shared} {A : Around} {d : PyData} {x : Str} {value : Expr} {pos p : Pos} {E : Value → Shared → Prop}

theorem kind_of (S : Sta B nm n A fs env h₀ own ρ s) {k : NameKind} (hx : nm.lookup x = some k) : env.kindOf x = some k := by unfold Env.kindOf; rw [S.sit.names]; exact hx
theorem notClass (S : Sta B nm n A fs env h₀ own ρ s) : (env.scope.kind == .class || (env.scope.kind == .module && env.locals != env.globals)) = false := by rw [S.sit.kind]; rfl

/-- E is any, since nothing raises -/
theorem no_raise {α : Type} {M : Model} {t : Sem α} {R : α → Shared → Prop} (h : wpAny M A t R (fun _ _ => False) s) : wpAny M A t R E s := wpAny_noRaise h

/-- a datum stored -/
theorem store_dat {v : Value} {R : Unit → Shared → Prop} (S : Sta B nm n A fs env h₀ own ρ s) (hx : nm.lookup x = some .local) (r : Rd B (Md.C.P h₀ fs env.locals own) s.heap v d)
    (k : ∀ h' tk, Sta B nm n A fs env h₀ own (put x (.dat d) ρ) { s with heap := h', toks := tk } → Stay (adr fs) (env.locals :: own) s.heap h' → (∀ b o, b ≠ env.locals → s.heap.get? b = some o → h'.get? b = some o) → s.toks ≤ tk → R () { s with heap := h', toks := tk }) : wpAny B.M A (storeName env x v) R E s := by
  obtain ⟨m, hn⟩ := S.sr.ns
  refine wpAny_storeName_local (kind_of S hx) hn (fun h' hn' hs => ?_) (notClass S)
  have kb : ∀ b o, b ≠ env.locals → s.heap.get? b = some o → h'.get? b = some o := fun b o nb e => (hs.2 b nb).trans e
  have lv : ∃ o, h'.get? env.locals = some o := let ⟨o, _, _, e, _⟩ := hn'; ⟨o, e⟩
  refine k h' _ ⟨S.ok, S.sit, S.sr.put_dat r (kind_of S hx) (fun m₂ hn₂ => ?_) hs, Nat.le_succ_of_le S.tok⟩ ⟨fun b o _ w e => kb b o (fun q => w (by simp [q])) e, fun b o w e => ⟨o.slots, kb b o (fun q => w (by simp [q])) e⟩, fun b o e => ?_⟩ kb (Nat.le_succ _)
  · have : m₂ = m := by
      funext y
      obtain ⟨o, es, ep, e, dd, _, f⟩ := hn
      obtain ⟨o', es', ep', e', dd', _, f'⟩ := hn₂
      rw [e] at e'; cases e'; rw [dd] at dd'; cases dd'
      rw [← f, ← f']
    rw [this]; exact hn'
  · by_cases q : b = env.locals
    · rw [q]; exact lv
    · exact ⟨o, kb b o q e⟩

theorem post_next {h' : Heap} {tk : Nat} {ρ' : Loc} {own' : List Addr} (S' : Sta B nm n A fs env h₀ own' ρ' { s with heap := h', toks := tk }) (t : s.toks ≤ tk) (q : Q .next ρ') (st : Stay (adr fs) (env.locals :: own) s.heap h') (no : ∀ a ∈ own', a ∈ own ∨ s.heap.get? a = none) :
    Post B fs env h₀ own s Q .next { s with heap := h', toks := tk } := ⟨.next, ρ', own', h', tk, rfl, t, q, st, no, S'.sr, trivial⟩

theorem Stay.thenS {h h₁ h₂ : Heap} {W : List Addr} (a : Stay (adr fs) [] h h₁) (b : Stay (adr fs) W h₁ h₂) : Stay (adr fs) W h h₂ :=
  ⟨fun c o f w e => b.keep c o f w (a.keep c o f (fun q => nomatch q) e), fun c o w e => let ⟨sl, e'⟩ := a.slot c o (fun q => nomatch q) e; let ⟨sl', e''⟩ := b.slot c _ w e'; ⟨sl', e''⟩, fun c o e => let ⟨o', e'⟩ := a.live c o e; b.live c o' e'⟩

/-- what an Ev hands on, with the tokens counted -/
theorem Ev.thenT {md : Md} {e : Expr} {R : Value → Shared → Prop} (he : Ev B nm n md ρ e d) (S : Sta B nm n A fs env h₀ own ρ s)
    (k : ∀ v h' tk, s.toks ≤ tk → Stay (adr fs) [] s.heap h' → Sta B nm n A fs env h₀ own ρ { s with heap := h', toks := tk } → Rd B (md.P h₀ fs env.locals own) h' v d → R v { s with heap := h', toks := tk }) :
    wpAny B.M A (eval e env) R E s :=
  no_raise (wpAny_mono (wpAny_toks_of (n := s.toks) (Nat.le_refl _) (he A fs env h₀ own s S)) (fun v s' ⟨ht, h', tk, es, st, r⟩ => by subst es; exact k v h' tk ht st (S.grow st ht) r) fun _ _ x => x.2)
theorem Tr.thenT {e : Expr} {b : Bool} {R : Bool → Shared → Prop} (he : Tr B nm n ρ e b) (S : Sta B nm n A fs env h₀ own ρ s)
    (k : ∀ h' tk, s.toks ≤ tk → Stay (adr fs) [] s.heap h' → Sta B nm n A fs env h₀ own ρ { s with heap := h', toks := tk } → R b { s with heap := h', toks := tk }) :
    wpAny B.M A (isTrue e env (eval e env)) R E s :=
  no_raise (wpAny_mono (wpAny_toks_of (n := s.toks) (Nat.le_refl _) (he A fs env h₀ own s S)) (fun v s' ⟨ht, hb, h', tk, es, st⟩ => by subst es; subst hb; exact k h' tk ht st (S.grow st ht)) fun _ _ x => x.2)

/-- x = e -/
theorem ex_assign (he : Ev B nm n .C ρ value d) (hx : nm.lookup x = some .local) (q : Q .next (put x (.dat d) ρ)) (hs : ∀ env, swapsWith value (some (.Name x p)) pos.line env = pure false := by intro _; rfl) :
    Ex1 B X nm n ρ (.Assign [.Name x p] value pos) Q := fun A fs env h₀ own s E S a =>
  wpAny_Assign_Name (he.thenT S fun v h₁ tk₁ t₁ st₁ S₁ r => store_dat S₁ hx r fun h₂ tk₂ S₂ st₂ _ t₂ => post_next (s := s) S₂ (Nat.le_trans t₁ t₂) q (st₁.thenS st₂) fun _ h => .inl h) (hs env)

/-- x = a new list, owned -/
theorem ex_own {xs : List PyData} (he : EvG B nm n .N ρ value xs) (hx : nm.lookup x = some .local) (q : Q .next (put x (.lst xs) ρ)) (hs : ∀ env, swapsWith value (some (.Name x p)) pos.line env = pure false := by intro _; rfl) :
    Ex1 B X nm n ρ (.Assign [.Name x p] value pos) Q := fun A fs env h₀ own s E S a => by
  refine wpAny_Assign_Name (no_raise (wpAny_mono (wpAny_toks_of (n := s.toks) (Nat.le_refl _) (he A fs env h₀ own s S)) (fun v s' ⟨ht, h₁, tk, a, vs, es, st, ev, hn, hp, hr⟩ => ?_) fun _ _ x => x.2)) (hs env)
  subst es ev
  obtain ⟨m, hns⟩ := (S.sr.grow st).ns
  refine wpAny_storeName_local (kind_of S hx) hns (fun h' hn' hsb => ?_) (notClass S)
  have kb : ∀ b o, b ≠ env.locals → h₁.get? b = some o → h'.get? b = some o := fun b o nb e => (hsb.2 b nb).trans e
  have fo := S.sr.freshO hn
  have R : SR B h₀ fs env (a :: own) (put x (.lst xs) ρ) h' := S.sr.put_own st hn (let ⟨n, e⟩ := hp; ⟨_, e⟩) (kind_of S hx) (fun m₂ hn₂ => by
      have : m₂ = m := by
        funext y
        obtain ⟨o, es, ep, e, dd, _, f⟩ := hns
        obtain ⟨o', es', ep', e', dd', _, f'⟩ := hn₂
        rw [e] at e'; cases e'; rw [dd] at dd'; cases dd'
        rw [← f, ← f']
      rw [this]; exact hn') hsb fun m₃ oa₃ e1 e2 kb' => ⟨a, vs, e2, .inl ⟨kind_of S hx, e1⟩, plainList_keep hp fun o e => kb' a o fo.2.2.1 e,
        hr.up (fun b o p e => kb' b o p.1.2.1.1 e) fun b o p e => ⟨p.1.1, ⟨p.1.2.1.1, fun z => (List.mem_cons.mp z).elim p.2 p.1.2.1.2⟩, p.1.2.2⟩⟩
  have st' : Stay (adr fs) (env.locals :: own) h₁ h' := ⟨fun b o _ w e => kb b o (fun q => w (by simp [q])) e, fun b o w e => ⟨o.slots, kb b o (fun q => w (by simp [q])) e⟩, fun b o e => by
    by_cases q : b = env.locals
    · rw [q]; exact let ⟨o, _, _, e, _⟩ := hn'; ⟨o, e⟩
    · exact ⟨o, kb b o q e⟩⟩
  exact ⟨.next, _, a :: own, h', tk + 1, rfl, Nat.le_succ_of_le ht, q, st.thenS st', fun b hb => (List.mem_cons.mp hb).elim (fun e => .inr (e ▸ hn)) .inl, R, trivial⟩

/-- x op= e -/
theorem ex_aug {op : Operator} {d₀ d₁ : PyData} (h0 : ρ x = some (.dat d₀)) (he : Ev B nm n .O ρ value d₁) (hx : nm.lookup x = some .local) (q : Q .next (put x (.dat d) ρ))
    (h : ∀ (A : Around) (s : Shared) (va vb : Value) (P : Addr → Prop), Rd B P s.heap va d₀ → Rd B P s.heap vb d₁ → wpAny B.M A (inplaceOp op va vb) (fun v s' => (∃ tk, s' = { s with toks := tk }) ∧ ∀ P, Rd B P s.heap v d) (fun _ _ => False) s) :
    Ex1 B X nm n ρ (.AugAssign (.Name x p) op value pos) Q := fun A fs env h₀ own s E S a => by
  obtain ⟨m, oa, hn, _, _, vs⟩ := S.sr.vars
  obtain ⟨v₀, V, r₀⟩ := vs x _ h0
  have r₁ : Rd B (Md.O.P h₀ fs env.locals own) s.heap v₀ d₀ := r₀.up (fun _ _ _ e => e) fun _ _ p _ => ⟨p.1, trivial⟩
  refine wpAny_AugAssign_Name (load_var S hn V (he.thenT S fun v h₁ tk₁ t₁ st₁ S₁ r => no_raise (wpAny_mono (wpAny_toks_of (n := tk₁) (Nat.le_refl _) (h A _ v₀ v _ (r₁.grow st₁) r)) (fun w s' ⟨ht, ⟨tk, es⟩, rw'⟩ => ?_) fun _ _ x => x.2)))
  subst es
  have S₂ : Sta B nm n A fs env h₀ own ρ { s with heap := h₁, toks := tk } := ⟨S₁.ok, S₁.sit, S₁.sr, Nat.le_trans S₁.tok ht⟩
  exact store_dat S₂ hx (rw' _) fun h₂ tk₂ S₃ st₂ _ t₂ => post_next (s := s) S₃ (Nat.le_trans (Nat.le_trans t₁ ht) t₂) q (st₁.thenS st₂) fun _ h => .inl h
theorem ex_catStr {a b : List Nat} (h0 : ρ x = some (.dat (tx a))) (he : Ev B nm n .O ρ value (tx b)) (hx : nm.lookup x = some .local) (hz : a.length + b.length ≤ 16777216) (q : Q .next (put x (.dat (tx (a ++ b))) ρ)) : Ex1 B X nm n ρ (.AugAssign (.Name x p) .Add value pos) Q :=
  ex_aug h0 he hx q fun A s va vb P ra rb => by
    obtain ⟨t, rfl⟩ := ra.str_inv
    obtain ⟨u, rfl⟩ := rb.str_inv
    exact iadd_str (fun t' tk => ⟨⟨tk, rfl⟩, fun P => by rw [tx_append]; exact .str _ _⟩) (by rw [tx_len, tx_len, sizeLine_eq]; exact hz)
theorem Post.before {ρ₁ : Loc} {own₁ : List Addr} {h₁ : Heap} {tk₁ : Nat} {f : Flow} {s' : Shared} (t : s.toks ≤ tk₁) (st : Stay (adr fs) [] s.heap h₁) (p : Post B fs env h₀ own { s with heap := h₁, toks := tk₁ } Q f s') : Post B fs env h₀ own s Q f s' := by
  obtain ⟨fl, ρ', own', h', tk, rfl, t', q, st', no, R, fr⟩ := p
  exact ⟨fl, ρ', own', h', tk, rfl, Nat.le_trans t t', q, st.thenS st', fun a ha => (no a ha).imp id fun e => not_before st e, R, fr⟩

/-- if -/
theorem ex_if {test : Expr} {body orelse : List Stmt} {b : Bool} (ht : Tr B nm n ρ test b) (h1 : b = true → Ex B X nm n ρ body Q) (h2 : b = false → Ex B X nm n ρ orelse Q) : Ex1 B X nm n ρ (.If test body orelse pos) Q := fun A fs env h₀ own s E S a => by
  refine wpAny_If (ht.thenT S fun h₁ tk₁ t₁ st₁ S₁ => ?_)
  cases b
  · exact wpAny_mono (h2 rfl A fs env h₀ own _ E S₁ (a.at _ _)) (fun f s' p => Post.before (ρ₁ := ρ) (own₁ := own) t₁ st₁ p) fun _ _ x => x
  · exact wpAny_mono (h1 rfl A fs env h₀ own _ E S₁ (a.at _ _)) (fun f s' p => Post.before (ρ₁ := ρ) (own₁ := own) t₁ st₁ p) fun _ _ x => x
theorem ex_continue (q : Q .cont ρ) : Ex1 B X nm n ρ (.Continue pos) Q := fun A fs env h₀ own s E S a => wpAny_Continue ⟨.cont, ρ, own, s.heap, s.toks, rfl, Nat.le_refl _, q, .refl _ _ _, fun _ h => .inl h, S.sr, trivial⟩
theorem ex_return {e : Expr} (he : Ev B nm n .F ρ e d) (q : Q (.ret d) ρ) : Ex1 B X nm n ρ (.Return (some e) pos) Q := fun A fs env h₀ own s E S a =>
  wpAny_Return_some (he.thenT S fun v h₁ tk₁ t₁ st₁ S₁ r => ⟨.ret d, ρ, own, h₁, tk₁, rfl, t₁, q, st₁.mono (fun _ h => nomatch h), fun _ h => .inl h, S₁.sr, r⟩)
end
end Mine
end

section
set_option maxRecDepth 100000
namespace Mine

section
variable {B : Wd} {X : String → Prop} {nm : List (Str × NameKind)} {n : Nat} {ρ : Loc} {Q : Fl → Loc → Prop} {fs : List Env} {env : Env} {h₀ : Heap} {own : List Addr} {s : Shared} {A : Around} {d : PyData} {x : Str} {e value : Expr} {pos p apos cpos : Pos} {E : Value → Shared → Prop} {xs ys : List PyData}

/-- a list of one's own, changed -/
theorem SR.own_change {h h' : Heap} {a : Addr} {oa : Str → Option Addr} {m : Str → Option Value} {vs' : Array Value} (S : SR B h₀ fs env own ρ h) (hn : h.Ns env.locals m) (inj : ∀ x y a, oa x = some a → oa y = some a → x = y) (sub : ∀ x a, oa x = some a → a ∈ own)
    (vars : ∀ x lv, ρ x = some lv → VarAt B h₀ fs env own oa m h x lv) (ea : oa x = some a) (V : VarIs env m h x (.ref a)) (hs : Heap.SameBut a h h') (hl : h'.PlainList a vs') {vs : Array Value} (hl0 : h.PlainList a vs) (r : Rds B (Md.N.P h₀ fs env.locals own) h vs'.toList xs) :
    SR B h₀ fs env own (put x (.lst xs) ρ) h' := by
  have oas := S.owns a (sub x a ea)
  have kb : ∀ b o, b ≠ a → h.get? b = some o → h'.get? b = some o := fun b o nb e => (hs.2 b nb).trans e
  have nc : ∀ c o, h.get? c = some o → (∃ v, o.data = .cell v) → c ≠ a := fun c o e ⟨v, q⟩ z => by
    obtain ⟨k, e'⟩ := hl0
    rw [z, e'] at e; cases e; cases q
  have hv : ∀ y u, VarIs env m h y u → VarIs env m h' y u := fun y u W => W.at (fun _ w => w) fun c o hc e q => kb c o (nc c o e q) e
  refine S.turn (W := [a]) (fun b hb => .inr (by rw [List.mem_singleton.mp hb]; exact sub x a ea)) (fun b o q e => kb b o (fun z => q (by simp [z])) e) (fun b o q e nf => ?_) (fun b o q e vs q' => ?_) (fun b o q e v q' => nc b o e ⟨v, q'⟩ (List.mem_singleton.mp q)) (fun b hb => .inl hb) (fun b hb => hb)
    ⟨m, oa, hn.sameBut hs (Ne.symm oas.2.2.2.1), inj, sub, fun y lv e => ?_⟩
  · rw [List.mem_singleton.mp q]
    obtain ⟨k, e'⟩ := hl
    exact ⟨_, e', fun vs q => nomatch q⟩
  · rw [List.mem_singleton.mp q] at e
    obtain ⟨k, e'⟩ := hl0
    rw [e'] at e; cases e; cases q'
  · by_cases q : y = x
    · subst q
      rw [put_eq] at e; cases e
      exact ⟨a, vs', ea, hv _ _ V, hl, r.up (fun b o p e => kb b o (fun z => p.2.1.2 (z ▸ sub _ a ea)) e) fun _ _ p _ => p⟩
    · rw [put_ne _ _ q] at e
      exact (vars y lv e).at (hv y) (fun _ e => e) (fun b o _ _ no e => ⟨kb b o (fun z => no (z ▸ sub x a ea)) e, no⟩) (fun c o ec e => kb c o (fun z => q (inj y x a (z ▸ ec) ea)) e) fun c hc hz _ => ⟨fun o e => kb c o (fun z => hz x (z ▸ ea)) e, hc, hz⟩

theorem expr_stmt (S : Sta B nm n A fs env h₀ own ρ s) {R : Flow → Shared → Prop} (h : wpAny B.M A (eval e env) (fun v s' => match v with | .ref _ => False | _ => R .next s') E s) (hs : ∀ env, swapsWith e none pos.line env = pure false := by intro _; rfl) : wpAny B.M A (exec (.Expr e pos) env) R E s :=
  wpAny_Expr h (by unfold interactive; rw [S.sit.kind]; rfl) (hs env)

/-- the road of a method of a list of one's own -/
theorem own_method {name : Str} {id : String} {o : Expr} (slot : Slot "list" name id) (ty : typeOf (.builtin id) = pure (.type "method_descriptor")) {a : Addr} {vs : Array Value} {pl : Sem Bool} {R : Value × List Value → Shared → Prop} (hp : s.heap.PlainList a vs) (h : R (.builtin id, [.ref a]) s) : wpAny B.M A (getMethod (.ref a) name pl) R E s :=
  getMethod_builtin (T := "list") (let ⟨k, e⟩ := hp; ⟨_, e, rfl⟩) F.plainAttrs_list slot ty (fun b e => by cases e; obtain ⟨k, e⟩ := hp; exact ⟨_, e, rfl⟩) h

theorem post_own {h' : Heap} {tk : Nat} {ρ' : Loc} {a : Addr} {h₁ : Heap} {tk₁ : Nat} (t : s.toks ≤ tk) (q : Q .next ρ') (st : Stay (adr fs) [] s.heap h₁) (ha : a ∈ own) (hs : Heap.SameBut a h₁ h') (hl : ∃ o, h'.get? a = some o) (R : SR B h₀ fs env own ρ' h') :
    Post B fs env h₀ own s Q .next { s with heap := h', toks := tk } := by
  have kb : ∀ b o, b ≠ a → h₁.get? b = some o → h'.get? b = some o := fun b o nb e => (hs.2 b nb).trans e
  have st' : Stay (adr fs) (env.locals :: own) h₁ h' := ⟨fun b o _ w e => kb b o (fun z => w (.tail _ (z ▸ ha))) e, fun b o w e => ⟨o.slots, kb b o (fun z => w (.tail _ (z ▸ ha))) e⟩, fun b o e => by
    by_cases z : b = a
    · rw [z]; exact hl
    · exact ⟨o, kb b o z e⟩⟩
  exact ⟨.next, ρ', own, h', tk, rfl, t, q, st.thenS st', fun _ h => .inl h, R, trivial⟩

/-- x.append(e) -/
theorem ex_append (h0 : ρ x = some (.lst xs)) (he : Ev B nm n .N ρ e d) (hz : xs.length ≤ 1000000) (q : Q .next (put x (.lst (xs ++ [d])) ρ))
    (hc : MCall (.Name x p) "append" apos [e] cpos := by intro _; rfl) (hn : ∀ env, starEach [e] env = [(false, eval e env)] := by intro _; rfl) (hd : (x == ("__debug__" : Str)) = false := by decide) :
    Ex1 B X nm n ρ (.Expr (.Call (.Attribute (.Name x p) "append" apos) [e] [] cpos) pos) Q := fun A fs env h₀ own s E S ac => by
  obtain ⟨m, oa, hn0, inj, sub, vars⟩ := S.sr.vars
  obtain ⟨a, vs, ea, V, hp, r⟩ := vars x _ h0
  refine expr_stmt S (MethodCall_ (wpAny_Name (load_var S hn0 V (own_method (o := e) F.slot_list_append F.type_list_append hp (callWith_method1 (args_cons (he.thenT S fun v h₁ tk₁ t₁ st₁ S₁ rv => args_nil ?_) (hn env)) (hn env) rfl))) hd) (hc env))
  have oas := S.sr.owns a (sub x a ea)
  have hp₁ : h₁.PlainList a vs := plainList_keep hp fun o e => st₁.keep a o oas.2.2.2.2 (fun q => nomatch q) e
  have hsz : vs.size = xs.length := by simpa using r.length
  refine wpAny_list_append_plain (s := { s with heap := h₁, toks := tk₁ }) hp₁ (fun h' hp' hs' => ?_) (by rw [hsz, sizeLine_eq]; omega)
  have n₁ : h₁.Ns env.locals m := ns_slot hn0 fun o e => st₁.slot _ o (fun q => nomatch q) e
  have R : SR B h₀ fs env own (put x (.lst (xs ++ [d])) ρ) h' := by
    refine S₁.sr.own_change n₁ inj sub (fun y lv ey => ?_) ea (V.at (fun _ w => w) fun c o hc e _ => ?_) hs' hp' hp₁ (by simpa using (r.grow st₁).snoc rv)
    · refine (vars y lv ey).at (fun u W => W.at (fun _ w => w) fun c o hc e _ => ?_) (fun _ e => e) (fun b o nf _ no e => ⟨st₁.keep b o nf (fun q => nomatch q) e, no⟩) (fun c o ec e => st₁.keep c o (S.sr.owns c (sub y c ec)).2.2.2.2 (fun q => nomatch q) e) fun c hc hz _ => ⟨fun o e => st₁.keep c o (S.sr.owns c hc).2.2.2.2 (fun q => nomatch q) e, hc, hz⟩
      obtain ⟨z, hz⟩ := mem_lookup hc
      exact st₁.keep c o (S.sr.owns _ (S.sr.cells _ hz)).2.2.2.2 (fun q => nomatch q) e
    · obtain ⟨z, hz⟩ := mem_lookup hc
      exact st₁.keep c o (S.sr.owns _ (S.sr.cells _ hz)).2.2.2.2 (fun q => nomatch q) e
  exact post_own (tk₁ := tk₁) t₁ q st₁ (sub x a ea) hs' (let ⟨k, e⟩ := hp'; ⟨_, e⟩) R

/-- the variables of a grown state -/
theorem vars_grow {h h₁ : Heap} {m : Str → Option Value} {oa : Str → Option Addr} (S : SR B h₀ fs env own ρ h) (sub : ∀ x a, oa x = some a → a ∈ own) (vars : ∀ x lv, ρ x = some lv → VarAt B h₀ fs env own oa m h x lv) (st₁ : Stay (adr fs) [] h h₁) :
    ∀ x lv, ρ x = some lv → VarAt B h₀ fs env own oa m h₁ x lv := fun y lv ey => by
  refine (vars y lv ey).at (fun u W => W.at (fun _ w => w) fun c o hc e _ => ?_) (fun _ e => e) (fun b o nf _ no e => ⟨st₁.keep b o nf (fun q => nomatch q) e, no⟩) (fun c o ec e => st₁.keep c o (S.owns c (sub y c ec)).2.2.2.2 (fun q => nomatch q) e) fun c hc hz _ => ⟨fun o e => st₁.keep c o (S.owns c hc).2.2.2.2 (fun q => nomatch q) e, hc, hz⟩
  obtain ⟨z, hz⟩ := mem_lookup hc
  exact st₁.keep c o (S.owns _ (S.cells _ hz)).2.2.2.2 (fun q => nomatch q) e

end
end Mine
end

section
set_option maxRecDepth 100000
namespace Mine

noncomputable def oddIters : List String := ["enumerate", "zip", "dict_itemiterator", "dict_reverseitemiterator", "odict_iterator", "itertools.zip_longest", "itertools.pairwise"]

/-- a source of items: an iterator at hand -/
structure SrcAt (B : Wd) (strict : Bool) (A : Around) (fs : List Env) (env : Env) (h₀ : Heap) (own : List Addr) (hb h : Heap) (ds : List PyData) (I : Addr) (fp wr : List Addr) (P : Nat → Value → Prop) (St : Nat → Heap → Prop) : Prop where
  walks : Walks B.prog B.w A I fp wr ds.length P St
  st0 : St 0 h
  fps : ∀ b ∈ fp, b ≠ env.locals ∧ (strict = true → b ∉ own) ∧ b ∉ adr fs ∧ ∃ o, h.get? b = some o
  wrs : ∀ b ∈ wr, hb.get? b = none
  flds : ∀ i h, St i h → ∀ b ∈ wr, ∃ o vs, h.get? b = some o ∧ o.data = .fields vs
  its : ∀ i h, St i h → ∃ o n vs, h.get? I = some o ∧ o.cls = .type n ∧ oddIters.contains n = false ∧ o.data = .fields vs
  gets : ∀ i v, P i v → ∃ d, ds[i]? = some d ∧ Rd B (Md.C.P h₀ fs env.locals own) h v d
noncomputable def Src (B : Wd) (strict : Bool) (A : Around) (fs : List Env) (env : Env) (h₀ : Heap) (own : List Addr) (hb h : Heap) (it : Value) (ds : List PyData) : Prop :=
  ∃ I fp wr P St, it = .ref I ∧ SrcAt B strict A fs env h₀ own hb h ds I fp wr P St

/-- an expression that can be gone through -/
noncomputable def EvI (B : Wd) (strict : Bool) (nm : List (Str × NameKind)) (n : Nat) (ρ : Loc) (e : Expr) (ds : List PyData) : Prop :=
  ∀ A fs env h₀ own s, Sta B nm n A fs env h₀ own ρ s → wpAny B.M A (eval e env) (fun x s₁ => wpAny B.M A (pyIter x) (fun it s₂ =>
    ∃ h' tk, s₂ = { s with heap := h', toks := tk } ∧ s.toks ≤ tk ∧ Stay (adr fs) [] s.heap h' ∧ Src B strict A fs env h₀ own s.heap h' it ds) (fun _ _ => False) s₁) (fun _ _ => False) s

theorem go_plain {M : Model} {A : Around} {E : Value → Shared → Prop} {s : Shared} {target : Expr} {I : Addr} {v : Value} {o : Obj} {n : String} {vs : Array Value} {Q : Unit → Shared → Prop} (ho : s.heap.get? I = some o) (hc : o.cls = .type n) (hn : oddIters.contains n = false) (hd : o.data = .fields vs) (h : Q () s) :
    wpAny M A (letOwnedTupleGo target (.ref I) v) Q E s := by
  have key : ∀ a, wpAny M A (do
      let o ← load I
      match o.cls, o.data with
      | .type n, .fields vs =>
        if (oddIters.contains n && vs[0]? == some (rawInt a)) = true then do
          rule "for.unpacks-the-owned-tuple"
          updateField I 0 .none
      | _, _ => pure () : Sem Unit) Q E s := fun a => by
    refine wpAny_bind (wpAny_load ho ?_)
    rw [hc, hd]
    dsimp only
    rw [hn, Bool.false_and, if_neg Bool.false_ne_true]
    exact wpAny_pure h
  unfold letOwnedTupleGo
  cases target <;> first | exact wpAny_pure h | (cases v <;> first | exact wpAny_pure h | exact key _)

section
variable {B : Wd} {X : String → Prop} {nm : List (Str × NameKind)} {n : Nat} {ρ : Loc} {Q : Fl → Loc → Prop} {fs : List Env} {env : Env} {h₀ : Heap} {own : List Addr} {s : Shared} {A : Around} {d : PyData} {x y z : Str} {e value iter : Expr} {pos p px py pz : Pos} {E : Value → Shared → Prop} {xs ys ds : List PyData} {body : List Stmt}

theorem evi_list (he : Ev B nm n .C ρ e (.list ds)) : EvI B true nm n ρ e ds := fun A fs env h₀ own s S =>
  he.thenT S fun v h' tk t st S' r => by
    obtain ⟨a, vs, rfl, pa, hl, q⟩ := r.list_inv
    have hsz : vs.size = ds.length := by simpa using q.length
    have hne : a ≠ h'.objs.size := by obtain ⟨o, e, _⟩ := hl; exact Ne.symm (fresh_ne e)
    refine wpAny_pyIter_list hl ⟨_, tk, rfl, t, st.tr (.push _ _ _ _), _, [h'.objs.size, a], [h'.objs.size], _, _, rfl, hsz ▸ Walks.list S.sit.handled h'.objs.size a hne vs, ⟨⟨_, Heap.get?_push_size _ rfl, rfl, rfl⟩, hl.push _⟩, ?_, ?_, ?_, ?_, ?_⟩
    · intro b hb
      rcases List.mem_cons.mp hb with rfl | hb
      · have f := S'.sr.fresh .N (get_size h')
        exact ⟨f.2.1.1, fun _ => f.2.1.2, f.1, _, Heap.get?_push_size _ rfl⟩
      · rw [List.mem_singleton.mp hb]
        obtain ⟨o, e, _⟩ := hl
        exact ⟨pa.2.1, fun _ => pa.2.2, pa.1, o, Heap.get?_push_of_some _ e⟩
    · intro b hb; rw [List.mem_singleton.mp hb]; exact not_before st (get_size h')
    · rintro i h ⟨⟨o, e, c, d⟩, _⟩ b hb; rw [List.mem_singleton.mp hb]; exact ⟨o, _, e, d⟩
    · rintro i h ⟨⟨o, e, c, d⟩, _⟩; exact ⟨o, _, _, e, c, rfl, d⟩
    · intro i v hv
      obtain ⟨d, e, rd⟩ := q.get (i := i) (v := v) (by simpa using hv)
      exact ⟨d, e, rd.grow (.push _ _ _ _)⟩
theorem evi_own (h0 : ρ x = some (.lst xs)) (hd : (x == ("__debug__" : Str)) = false := by decide) : EvI B false nm n ρ (.Name x px) xs := fun A fs env h₀ own s S => by
  obtain ⟨m, oa, hn, _, sub, vars⟩ := S.sr.vars
  obtain ⟨a, vs, ea, V, hp, q⟩ := vars x _ h0
  obtain ⟨⟨o, e⟩, b1, b2, b3, b4⟩ := S.sr.owns a (sub x a ea)
  have hl := hp.isList
  have hsz : vs.size = xs.length := by simpa using q.length
  have hne : a ≠ s.heap.objs.size := Ne.symm (fresh_ne e)
  refine wpAny_Name (load_var S hn V (wpAny_pyIter_list hl ⟨_, s.toks, rfl, Nat.le_refl _, .push _ _ _ _, _, [s.heap.objs.size, a], [s.heap.objs.size], _, _, rfl, hsz ▸ Walks.list S.sit.handled s.heap.objs.size a hne vs, ⟨⟨_, Heap.get?_push_size _ rfl, rfl, rfl⟩, hl.push _⟩, ?_, ?_, ?_, ?_, ?_⟩)) hd
  · intro b hb
    rcases List.mem_cons.mp hb with rfl | hb
    · have f := S.sr.fresh .N (get_size s.heap)
      exact ⟨f.2.1.1, fun _ => f.2.1.2, f.1, _, Heap.get?_push_size _ rfl⟩
    · rw [List.mem_singleton.mp hb]
      exact ⟨b3, (fun h => nomatch h), b4, o, Heap.get?_push_of_some _ e⟩
  · intro b hb; rw [List.mem_singleton.mp hb]; exact get_size s.heap
  · rintro i h ⟨⟨o, e, c, d⟩, _⟩ b hb; rw [List.mem_singleton.mp hb]; exact ⟨o, _, e, d⟩
  · rintro i h ⟨⟨o, e, c, d⟩, _⟩; exact ⟨o, _, _, e, c, rfl, d⟩
  · intro i v hv
    obtain ⟨d, e, rd⟩ := q.get (i := i) (v := v) (by simpa using hv)
    exact ⟨d, e, (rd.up (fun _ _ _ e => e) fun _ _ p _ => (⟨p.1, p.2.1⟩ : Md.C.P h₀ fs env.locals own _)).grow (.push _ _ _ _)⟩
theorem EvI.lax {b : Bool} (h : EvI B b nm n ρ e ds) : EvI B false nm n ρ e ds := fun A fs env h₀ own s S =>
  wpAny_mono (h A fs env h₀ own s S) (fun x s₁ h₁ => wpAny_mono h₁ (fun it s₂ h₂ => by
    obtain ⟨h', tk, es, t, st, I, fp, wr, P, St, e1, q⟩ := h₂
    exact ⟨h', tk, es, t, st, I, fp, wr, P, St, e1, q.walks, q.st0, fun b hb => have z := q.fps b hb; ⟨z.1, fun y => (nomatch y), z.2.2⟩, q.wrs, q.flds, q.its, q.gets⟩) fun _ _ x => x) fun _ _ x => x
theorem evi_str {t : List Nat} (he : Ev B nm n .O ρ e (tx t)) : EvI B true nm n ρ e (t.map fun c => tx [c]) := fun A fs env h₀ own s S =>
  he.thenT S fun v h' tk ht st S' r => by
    obtain ⟨u, rfl⟩ := r.str_inv
    have fin : ∀ (ty : String) (W : Walks B.prog B.w A h'.objs.size [h'.objs.size] [h'.objs.size] (⟨t.toArray⟩ : Str).cps.size (SignAt ⟨t.toArray⟩) (fun i h => h.IsStrIter h'.objs.size ty ⟨t.toArray⟩ u i)), oddIters.contains ty = false →
        ∃ h'' tk', ({ s with heap := h'.push { cls := .type ty, data := .fields #[.str ⟨t.toArray⟩ u, .int 0 0] }, toks := tk } : Shared) = { s with heap := h'', toks := tk' } ∧ s.toks ≤ tk' ∧ Stay (adr fs) [] s.heap h'' ∧ Src B true A fs env h₀ own s.heap h'' (.ref h'.objs.size) (t.map fun c => tx [c]) := fun ty W ht' => by
      refine ⟨_, tk, rfl, ht, st.tr (.push _ _ _ _), h'.objs.size, [h'.objs.size], [h'.objs.size], SignAt ⟨t.toArray⟩, fun i h => h.IsStrIter h'.objs.size ty ⟨t.toArray⟩ u i, rfl, ?_, ⟨_, Heap.get?_push_size _ rfl, rfl, rfl⟩, ?_, ?_, ?_, ?_, ?_⟩
      · rw [List.length_map]; exact (by simpa using W)
      · intro b hb
        rw [List.mem_singleton.mp hb]
        have f := S'.sr.fresh .N (get_size h')
        exact ⟨f.2.1.1, fun _ => f.2.1.2, f.1, _, Heap.get?_push_size _ rfl⟩
      · intro b hb; rw [List.mem_singleton.mp hb]; exact not_before st (get_size h')
      · rintro i h ⟨o, e, c, d⟩ b hb; rw [List.mem_singleton.mp hb]; exact ⟨o, _, e, d⟩
      · rintro i h ⟨o, e, c, d⟩; exact ⟨o, _, _, e, c, ht', d⟩
      · rintro i v ⟨c, u', hc, rfl⟩
        refine ⟨tx [c], ?_, .str _ _⟩
        have : t[i]? = some c := by simpa using hc
        simp [this]
    cases ha : (⟨t.toArray⟩ : Str).cps.all (· < 128)
    · exact wpAny_pyIter_wide ha (fin "str_iterator" (Walks.strWide S.sit.handled _ _ u) rfl)
    · exact wpAny_pyIter_ascii ha (fin "str_ascii_iterator" (Walks.strAscii S.sit.handled _ _ u) rfl)

/-- a target taken -/
noncomputable def AsT (B : Wd) (nm : List (Str × NameKind)) (n : Nat) (target : Expr) (d : PyData) (ρ ρ' : Loc) : Prop :=
  ∀ A fs env h₀ own s v E (R : Unit → Shared → Prop), Sta B nm n A fs env h₀ own ρ s → Rd B (Md.C.P h₀ fs env.locals own) s.heap v d →
    (∀ h' tk, Sta B nm n A fs env h₀ own ρ' { s with heap := h', toks := tk } → Stay (adr fs) (env.locals :: own) s.heap h' → (∀ b o, b ≠ env.locals → s.heap.get? b = some o → h'.get? b = some o) → s.toks ≤ tk → R () { s with heap := h', toks := tk }) → wpAny B.M A (assign target env v) R E s
theorem as_name (hx : nm.lookup x = some .local) : AsT B nm n (.Name x px) d ρ (put x (.dat d) ρ) := fun A fs env h₀ own s v E R S r k => wpAny_assign_Name (store_dat S hx r k)

theorem ext_stay {h h' : Heap} (k : Heap.ExtBut h.objs.size h h') : Stay (adr fs) [] h h' := .of_all fun b o e => k b o (Ne.symm (fresh_ne e)) e

theorem as_tuple3 {d₁ d₂ d₃ : PyData} {k : Nat} (hx : nm.lookup x = some .local) (hy : nm.lookup y = some .local) (hz : nm.lookup z = some .local) : AsT B nm n (.Tuple [.Name x px, .Name y py, .Name z pz] k pos) (.tuple [d₁, d₂, d₃]) ρ (put z (.dat d₃) (put y (.dat d₂) (put x (.dat d₁) ρ))) := fun A fs env h₀ own s v E R S r kk => by
  obtain ⟨a, vs, rfl, pa, hl, q⟩ := r.tuple_inv
  obtain ⟨v1, ws, e1, r1, q⟩ := q.cons_inv
  obtain ⟨v2, ws', e2, r2, q⟩ := q.cons_inv
  obtain ⟨v3, ws'', e3, r3, q⟩ := q.cons_inv
  obtain rfl := q.nil_inv
  subst e3 e2
  refine wpAny_assign_Tuple S.sit.handled hl (by rw [← Array.length_toList, e1]; rfl) rfl fun h' hk => ?_
  rw [e1]
  have st := ext_stay (fs := fs) hk
  have S₁ := S.grow st (Nat.le_refl _)
  show wpAny _ _ (assignInOrder [assign (.Name x px) env, assign (.Name y py) env, assign (.Name z pz) env] [v1, v2, v3]) _ _ _
  refine wpAny_bind (wpAny_holding (wpAny_assign_Name (store_dat S₁ hx (r1.grow st) fun h₂ tk₂ S₂ st₂ k₂ t₂ => ?_)))
  refine wpAny_bind (wpAny_holding (wpAny_assign_Name (store_dat S₂ hy ((r2.grow st).up (fun b o p e => k₂ b o p.2.1 e) fun _ _ p _ => p) fun h₃ tk₃ S₃ st₃ k₃ t₃ => ?_)))
  refine wpAny_bind (wpAny_holding (wpAny_assign_Name (store_dat S₃ hz (((r3.grow st).up (fun b o p e => k₂ b o p.2.1 e) fun _ _ p _ => p).up (fun b o p e => k₃ b o p.2.1 e) fun _ _ p _ => p) fun h₄ tk₄ S₄ st₄ k₄ t₄ => wpAny_pure ?_)))
  exact kk h₄ tk₄ S₄ (st.thenS ((st₂.trans st₃ fun _ h => .inl h).trans st₄ fun _ h => .inl h)) (fun b o nb e => k₄ b o nb (k₃ b o nb (k₂ b o nb (hk b o (Ne.symm (fresh_ne e)) e)))) (Nat.le_trans (Nat.le_trans t₂ t₃) t₄)

structure ForAt (B : Wd) (fs : List Env) (env : Env) (h₀ : Heap) (own wr : List Addr) (hh : Heap) (I : Nat → Loc → Prop) (St' : Nat → Heap → Prop) (T N k : Nat) (h' : Heap) (tk' : Nat) (ρ' : Loc) (own' : List Addr) (i : Nat) : Prop where
  toks : T ≤ tk'
  st : St' i h'
  sr : SR B h₀ fs env own' ρ' h'
  stay : Stay (adr fs) ((env.locals :: own) ++ wr) hh h'
  owns : ∀ a ∈ own', a ∈ own ∨ hh.get? a = none
  inv : I i ρ'
  le : i ≤ N
  eq : k = N + 1 - i
/-- for -/
theorem ex_for {target : Expr} (hi : EvI B true nm n ρ iter ds) (I : Nat → Loc → Prop) (h0 : I 0 ρ)
    (turn : ∀ i d ρ', ds[i]? = some d → I i ρ' → ∃ ρ₁, AsT B nm n target d ρ' ρ₁ ∧ Ex B X nm n ρ₁ body (fun fl ρ'' => match fl with | .next | .cont => I (i + 1) ρ'' | .brk => Q .next ρ'' | .ret d => Q (.ret d) ρ''))
    (done : ∀ ρ', I ds.length ρ' → Q .next ρ') (hs : ∀ env x, foldedSetIterable iter env x = pure x := by intro _ _; rfl) : Ex1 B X nm n ρ (.For target iter body [] pos) Q := fun A fs env h₀ own s E S ac => by
  refine wpAny_For (no_raise (wpAny_mono (hi A fs env h₀ own s S) (fun xv s₁ h₁ => no_raise (wpAny_mono h₁ (fun it s₂ h₂ => ?_) fun _ _ x => x)) fun _ _ x => x)) (hs env)
  obtain ⟨hh, tk, rfl, t, st, J, fp, wr, P, St', rfl, W, hst, hfp, hwr, hwf, hit, hP⟩ := h₂
  have S₁ := S.grow st t
  have hwB : ∀ b ∈ wr, B.base.get? b = none ∧ h₀.get? b = none := fun b hb => by
    have f := S.sr.freshO (hwr b hb); exact ⟨f.1, f.2.1⟩
  have passE : ∀ e s', E e s' → notedBy B.M A env (cameBackBy B.M A env E) e s' := ac.own
  refine codeAny_forLoop_any (R := fun r s' => match r with | .ok f => Post B fs env h₀ own s Q f s' | .error e => cameBackBy B.M A env E e s')
    (fun k s' => ∃ h' tk' ρ' own' i, s' = { s with heap := h', toks := tk' } ∧ ForAt B fs env h₀ own wr hh I St' s.toks ds.length k h' tk' ρ' own' i) ?_ (ds.length + 1)
    ⟨hh, tk, ρ, own, 0, rfl, t, hst, S₁.sr, .refl _ _ _, fun _ h => .inl h, h0, Nat.zero_le _, rfl⟩
  rintro k s' ⟨h', tk', ρ', own', i, rfl, t', hst', R, st', no, hI, hi', rfl⟩
  have fpO : ∀ b ∈ fp, b ∉ own' := fun b hb q => by
    obtain ⟨f1, f2, f3, o, e⟩ := hfp b hb
    rcases no b q with z | z
    · exact f2 rfl z
    · rw [z] at e; cases e
  have wrO : ∀ b ∈ wr, b ∉ own' := fun b hb => fpO b (W.sub b hb)
  have step : ∀ h₁ : Heap, (∀ b o, b ∉ wr → h'.get? b = some o → h₁.get? b = some o) → SR B h₀ fs env own' ρ' h₁ := fun h₁ k₁ =>
    R.iter k₁ fun b hb => ⟨hwf i h' hst' b hb, (hwB b hb).1, (hwB b hb).2, wrO b hb, (hfp b (W.sub b hb)).2.2.1⟩
  have back : ∀ {h₁ : Heap}, (∀ b o, b ∉ wr → h'.get? b = some o → h₁.get? b = some o) → Stay (adr fs) wr h' h₁ → Stay (adr fs) (env.locals :: own) s.heap h₁ := fun {h₁} k₁ st₁ => by
    have a1 : Stay (adr fs) ((env.locals :: own) ++ wr) hh h₁ := st'.trans (st₁.mono fun b hb => hb) fun a ha => .inl (List.mem_append_right _ ha)
    have a2 := st.thenS a1
    have nw : ∀ b o, s.heap.get? b = some o → b ∉ wr := fun b o e q => by rw [hwr b q] at e; cases e
    exact ⟨fun b o f w e => a2.keep b o f (fun q => (List.mem_append.mp q).elim w (nw b o e)) e, fun b o w e => a2.slot b o (fun q => (List.mem_append.mp q).elim w (nw b o e)) e, a2.live⟩
  have stI : ∀ {h₁ : Heap}, (∀ b o, b ∉ wr → h'.get? b = some o → h₁.get? b = some o) → (∀ b ∈ wr, ∃ o, h₁.get? b = some o) → Stay (adr fs) wr h' h₁ := fun {h₁} k₁ lw => ⟨fun b o _ w e => k₁ b o w e, fun b o w e => ⟨o.slots, k₁ b o w e⟩, fun b o e => by
    by_cases q : b ∈ wr
    · exact lw b q
    · exact ⟨o, k₁ b o q e⟩⟩
  by_cases hlt : i < ds.length
  · refine toks_up (W.item i _ _ _ hlt hst' fun v h₁ tk₁ hPv hst₁ hk₁ ht₁ => ?_)
    have lw : ∀ b ∈ wr, ∃ o, h₁.get? b = some o := fun b hb => let ⟨o, _, e, _⟩ := hwf _ _ hst₁ b hb; ⟨o, e⟩
    have st₁ := stI hk₁ lw
    obtain ⟨d, ed, rd⟩ := hP i v hPv
    obtain ⟨ρ₁, ht, hb⟩ := turn i d ρ' ed hI
    obtain ⟨o, nn, vs, e1, e2, e3, e4⟩ := hit (i + 1) h₁ hst₁
    refine go_plain (s := { s with heap := h₁, toks := tk₁ }) e1 e2 e3 e4 ?_
    have S₂ : Sta B nm n A fs env h₀ own' ρ' { s with heap := h₁, toks := tk₁ } := ⟨S.ok, S.sit, step h₁ hk₁, Nat.le_trans S.tok (Nat.le_trans t' ht₁)⟩
    have rd' : Rd B (Md.C.P h₀ fs env.locals own') h₁ v d := by
      have nw : ∀ b o, hh.get? b = some o → NoFields o → b ∉ wr := fun b o e nf q => by
        obtain ⟨o', vs, e', dd⟩ := hwf 0 hh hst b q
        rw [e] at e'; cases e'; exact nf vs dd
      refine rd.upN (fun b o p e nf => hk₁ b o (nw b o e nf) (st'.keep b o p.1 (fun q => ?_) e)) fun b o p e nf => ⟨p.1, p.2.1, fun q => ?_⟩
      · rcases List.mem_append.mp q with q | q
        · rcases List.mem_cons.mp q with q | q
          · exact p.2.1 q
          · exact p.2.2 q
        · exact nw b o e nf q
      · rcases no b q with z | z
        · exact p.2.2 z
        · rw [z] at e; cases e
    refine ht A fs env h₀ own' _ v _ _ S₂ rd' fun h₂ tk₂ S₃ st₂ k₂ t₂ => ?_
    refine wpAny_mono (hb A fs env h₀ own' _ E S₃ (ac.at _ _)) (fun f s₃ p => ?_) passE
    obtain ⟨fl, ρ'', own'', h₃, tk₃, rfl, t₃, q, st₃, no₃, R₃, fr⟩ := p
    have t4 : s.toks ≤ tk₃ := Nat.le_trans t' (Nat.le_trans ht₁ (Nat.le_trans t₂ t₃))
    have oL : ∀ a ∈ env.locals :: own', a ∈ (env.locals :: own) ++ wr ∨ hh.get? a = none := fun a ha => by
      rcases List.mem_cons.mp ha with e | ha
      · subst e; exact .inl (.head _)
      · exact (no a ha).imp (fun h => List.mem_append_left _ (.tail _ h)) id
    have big : Stay (adr fs) ((env.locals :: own) ++ wr) hh h₃ :=
      ((st'.trans st₁ fun a ha => .inl (List.mem_append_right _ ha)).trans st₂ oL).trans st₃ oL
    have own3 : ∀ a ∈ own'', a ∈ own ∨ hh.get? a = none := fresh_own ((st'.trans st₁ fun a ha => .inl (List.mem_append_right _ ha)).trans st₂ oL) no no₃
    have nw0 : ∀ b o, s.heap.get? b = some o → b ∉ wr := fun b o e q => by rw [hwr b q] at e; cases e
    have fin : Stay (adr fs) (env.locals :: own) s.heap h₃ := by
      have a2 := st.thenS big
      exact ⟨fun b o f w e => a2.keep b o f (fun q => (List.mem_append.mp q).elim w (nw0 b o e)) e, fun b o w e => a2.slot b o (fun q => (List.mem_append.mp q).elim w (nw0 b o e)) e, a2.live⟩
    have own4 : ∀ a ∈ own'', a ∈ own ∨ s.heap.get? a = none := fun a ha => (own3 a ha).imp id fun e => not_before st e
    have again : I (i + 1) ρ'' → ∃ m, m < ds.length + 1 - i ∧ ∃ h' tk' ρ' own' i, ({ s with heap := h₃, toks := tk₃ } : Shared) = { s with heap := h', toks := tk' } ∧ ForAt B fs env h₀ own wr hh I St' s.toks ds.length m h' tk' ρ' own' i := fun hI' =>
      ⟨ds.length + 1 - (i + 1), by omega, h₃, tk₃, ρ'', own'', i + 1, rfl, t4, W.frame _ _ _ hst₁ (fun b hb o e => by
        obtain ⟨f1, f2, f3, _⟩ := hfp b hb
        refine st₃.keep b o f3 (fun q => ?_) (k₂ b o f1 e)
        rcases List.mem_cons.mp q with q | q
        · exact f1 q
        · exact fpO b hb q), R₃, big, own3, hI', hlt, rfl⟩
    cases f with
    | next => cases fl with
      | next => exact again q
      | cont => exact fr.elim
      | brk => exact fr.elim
      | ret d => exact fr.elim
    | cont => cases fl with
      | cont => exact again q
      | next => exact fr.elim
      | brk => exact fr.elim
      | ret d => exact fr.elim
    | brk => cases fl with
      | brk => exact ⟨.next, ρ'', own'', h₃, tk₃, rfl, t4, q, fin, own4, R₃, trivial⟩
      | next => exact fr.elim
      | cont => exact fr.elim
      | ret d => exact fr.elim
    | ret v => cases fl with
      | ret d => exact ⟨.ret d, ρ'', own'', h₃, tk₃, rfl, t4, q, fin, own4, R₃, fr⟩
      | next => exact fr.elim
      | cont => exact fr.elim
      | brk => exact fr.elim
  · have hin : i = ds.length := by omega
    subst hin
    refine toks_up (W.done _ _ _ hst' fun h₁ tk₁ hk₁ ht₁ => wpAny_execs_nil ?_)
    have R₁ := step h₁ hk₁
    have nw0 : ∀ b o, s.heap.get? b = some o → b ∉ wr := fun b o e q => by rw [hwr b q] at e; cases e
    have a2 := st.thenS st'
    refine ⟨.next, ρ', own', h₁, tk₁, rfl, Nat.le_trans t' ht₁, done ρ' hI, ⟨fun b o f w e => hk₁ b o (nw0 b o e) (a2.keep b o f (fun q => (List.mem_append.mp q).elim w (nw0 b o e)) e), fun b o w e => ?_, fun b o e => ?_⟩, fun a ha => (no a ha).imp id fun e => not_before st e, R₁, trivial⟩
    · obtain ⟨sl, e'⟩ := a2.slot b o (fun q => (List.mem_append.mp q).elim w (nw0 b o e)) e
      exact ⟨sl, hk₁ b _ (nw0 b o e) e'⟩
    · obtain ⟨o', e'⟩ := a2.live b o e
      exact ⟨o', hk₁ b _ (nw0 b o e) e'⟩
end
end Mine
end

section
set_option maxRecDepth 100000
namespace Mine

section
variable {B : Wd} {X : String → Prop} {nm : List (Str × NameKind)} {n : Nat} {ρ : Loc} {Q : Fl → Loc → Prop} {fs : List Env} {env : Env} {h₀ : Heap} {own : List Addr} {s : Shared} {A : Around} {d : PyData} {x y z : Str} {e value iter test : Expr} {pos p px py pz tpos : Pos} {E : Value → Shared → Prop} {xs ys ds : List PyData} {body : List Stmt}

/-- a, b = (e, f): the machine stores the last name first -/
theorem ex_unpack2 {e1 e2 : Expr} {d₁ d₂ : PyData} {k k' : Nat} {vpos : Pos} (h1 : Ev B nm n .C ρ e1 d₁) (h2 : Ev B nm n .C ρ e2 d₂) (hx : nm.lookup x = some .local) (hy : nm.lookup y = some .local) (q : Q .next (put x (.dat d₁) (put y (.dat d₂) ρ)))
    (hn1 : ∀ env es, starEach (e1 :: es) env = (false, eval e1 env) :: starEach es env := by intro _ _; rfl) (hn2 : ∀ env es, starEach (e2 :: es) env = (false, eval e2 env) :: starEach es env := by intro _ _; rfl)
    (hs : ∀ env, swapsWithSole [.Tuple [.Name x px, .Name y py] k tpos] (.Tuple [e1, e2] k' vpos) pos.line env = pure false := by intro _; rfl)
    (hw : ∀ env : Env, env.scope.kind = .function → env.scope.names = nm → swappedStores [.Tuple [.Name x px, .Name y py] k tpos] (.Tuple [e1, e2] k' vpos) env = pure (some [x, y])) :
    Ex1 B X nm n ρ (.Assign [.Tuple [.Name x px, .Name y py] k tpos] (.Tuple [e1, e2] k' vpos) pos) Q := fun A fs env h₀ own s E S ac => by
  have ht : Ev B nm n .C ρ (.Tuple [e1, e2] k' vpos) (.tuple [d₁, d₂]) := ev_tuple (evs_cons h1 (evs_cons h2 evs_nil (hn2 · _)) (hn1 · _)) (by simp)
  refine Assign_Tuple_swapped (names := [x, y]) (ht.thenT S fun v h₁ tk₁ t₁ st₁ S₁ r => ?_) (hs env) (hw env S.sit.kind S.sit.names)
  obtain ⟨a, vs, rfl, pa, hl, q'⟩ := r.tuple_inv
  obtain ⟨v1, ws, e1', r1, q'⟩ := q'.cons_inv
  obtain ⟨v2, ws', e2', r2, q'⟩ := q'.cons_inv
  obtain rfl := q'.nil_inv
  subst e2'
  have hsz : [x, y].length = vs.size := by rw [← Array.length_toList, e1']; rfl
  rw [hsz]
  refine wpAny_unpackItems_tuple S.sit.handled hl fun h' hk => ?_
  rw [e1']
  have st := ext_stay (fs := fs) hk
  have S₂ := S₁.grow st (Nat.le_refl _)
  show wpAny _ _ (assignInOrder [fun v => bindName env y v, fun v => bindName env x v] [v2, v1]) _ _ _
  refine wpAny_bind (wpAny_holding (wpAny_bindName (store_dat S₂ hy (r2.grow st) fun h₂ tk₂ S₃ st₂ k₂ t₂ => ?_)))
  refine wpAny_bind (wpAny_holding (wpAny_bindName (store_dat S₃ hx ((r1.grow st).up (fun b o p e => k₂ b o p.2.1 e) fun _ _ p _ => p) fun h₃ tk₃ S₄ st₃ k₃ t₃ => wpAny_pure ?_)))
  exact post_next (s := s) S₄ (Nat.le_trans t₁ (Nat.le_trans t₂ t₃)) q ((st₁.tr st).thenS (st₂.trans st₃ fun _ h => .inl h)) fun _ h => .inl h

/-- x = y = e -/
theorem ex_assign2 (he : Ev B nm n .C ρ value d) (hx : nm.lookup x = some .local) (hy : nm.lookup y = some .local) (q : Q .next (put y (.dat d) (put x (.dat d) ρ))) (hs : ∀ env, swapsWithSole [.Name x px, .Name y py] value pos.line env = pure false := by intro _; rfl)
    (hw : ∀ env, swappedStores [.Name x px, .Name y py] value env = pure none := by intro _; rfl) : Ex1 B X nm n ρ (.Assign [.Name x px, .Name y py] value pos) Q := fun A fs env h₀ own s E S ac => by
  rw [exec_Assign]
  refine wpAny_bind (wpAny_standAt ?_)
  rw [hs env]
  refine wpAny_bind (wpAny_pure ?_)
  rw [if_neg (by decide)]
  refine wpAny_bind (he.thenT S fun v h₁ tk₁ t₁ st₁ S₁ r => ?_)
  rw [hw env]
  refine wpAny_bind (wpAny_pure ?_)
  show wpAny B.M A (do assignAll v [assign (.Name x px) env, assign (.Name y py) env]; pure Flow.next) _ E _
  refine wpAny_bind (wpAny_bind (wpAny_holding (wpAny_assign_Name (store_dat S₁ hx r fun h₂ tk₂ S₂ st₂ k₂ t₂ => ?_))))
  refine wpAny_assign_Name (store_dat S₂ hy (r.up (fun b o p e => k₂ b o p.2.1 e) fun _ _ p _ => p) fun h₃ tk₃ S₃ st₃ k₃ t₃ => wpAny_pure ?_)
  exact post_next (s := s) S₃ (Nat.le_trans t₁ (Nat.le_trans t₂ t₃)) q (st₁.thenS (st₂.trans st₃ fun _ h => .inl h)) fun _ h => .inl h
end

/-- what a def does: data in, a new datum out, or an exception of a class -/
noncomputable def FnX (B : Wd) (f : Addr) (n : Nat) (ds : List PyData) (res : Except String PyData) : Prop :=
  ∀ A fs s vs, B.Ok → A.handled = none → A.frames = some fs → A.depth + n ≤ 990 → A.units + 8 * n ≤ 9000 → B.base.StaysIn s.heap → s.heap.FunFrames B.base fs → 1 ≤ s.toks → Rds B (fun b => b ∉ adr fs) s.heap vs ds →
    codeAny B.M A (.call (.ref f) ⟨vs, []⟩) (fun r s' => ∃ h' tk, s' = { s with heap := h', toks := tk } ∧ match res with
      | .ok d => Stay (adr fs) [] s.heap h' ∧ ∃ v, r = .ok (.ret v) ∧ Rd B (fun b => b ∉ adr fs ∧ s.heap.get? b = none) h' v d
      | .error cls => Stay (adr fs) [] s.heap h' ∧ ∃ e base, r = .error (.ref e) ∧ Heap.Flying base fs e (.type cls) h' ∧ (∀ b o, b ∉ adr fs → s.heap.get? b = some o → base.get? b = some o)) s
noncomputable abbrev Fn (B : Wd) (f : Addr) (n : Nat) (ds : List PyData) (d : PyData) : Prop := FnX B f n ds (.ok d)

/-- the side conditions of a def's name -/
structure DName (B : Wd) (nm : List (Str × NameKind)) (f : Str) (a : Addr) : Prop where
  kind : nm.lookup f = some .globalImplicit
  glob : nsIn B.K mainGlobals f = some (some (.ref a))
  fn : ∃ o fd, B.K.lookup a = some o ∧ o.data = .func fd
  debug : (f == ("__debug__" : Str)) = false

section
variable {B : Wd} {X : String → Prop} {nm : List (Str × NameKind)} {n : Nat} {ρ : Loc} {Q : Fl → Loc → Prop} {fs : List Env} {env : Env} {h₀ : Heap} {own : List Addr} {s : Shared} {A : Around} {d : PyData} {x y z f : Str} {e value iter test : Expr} {es : List Expr} {pos p px py pz tpos : Pos} {E : Value → Shared → Prop} {xs ys ds : List PyData} {body : List Stmt} {fa : Addr} {md : Md}

theorem Fn.mono {n' : Nat} {res : Except String PyData} (h : FnX B fa n ds res) (hn : n ≤ n') : FnX B fa n' ds res := fun A fs s vs ok hh hf hd hu st ff t r => h A fs s vs ok hh hf (by omega) (by omega) st ff t r

theorem ev_call (hf : DName B nm f fa) (ha : Evs B nm n .O ρ (e :: es) ds) (hF : Fn B fa n ds d)
    (he : ∀ env, starEach (e :: es) env = (false, eval e env) :: starEach es env := by intro _; rfl)
    (hc : ∀ env, eval (.Call (.Name f p) (e :: es) [] pos) env = (do callWith pos (← eval (.Name f p) env) [] (backTo pos (starEach (e :: es) env)) (backToKw pos (keywordEach [] env))) := by intro _; rfl) :
    Ev B nm n md ρ (.Call (.Name f p) (e :: es) [] pos) d := fun A fs env h₀ own s S => by
  obtain ⟨o, fd, hl, hd⟩ := hf.fn
  refine Call_ (name_def S hf.kind hf.glob hf.debug (callWith_def hd (ha.then S fun vs h' tk st S' rs => ⟨S'.sr.stays _ _ (S.ok.inK _ _ hl), wpAny_call ?_⟩) (he env))) (hc env)
  refine codeAny_mono (hF A fs _ vs S.ok S.sit.handled S.sit.frames S.sit.depth S.sit.units S'.sr.stays S'.sr.frames S'.tok (rs.up (fun _ _ _ e => e) fun _ _ p _ => p.1)) fun r s' h => ?_
  obtain ⟨h'', tk', rfl, st', v, rfl, rv⟩ := h
  exact ⟨h'', tk', rfl, st.tr st', rv.up (fun _ _ _ e => e) fun b o p e => S'.sr.fresh md p.2⟩
end
end Mine
end

section
set_option maxRecDepth 100000
namespace Mine

/-- the first variables -/
noncomputable def ini : List Str → List PyData → Loc → Loc
  | x :: ps, d :: ds, ρ => ini ps ds (put x (.dat d) ρ)
  | _, _, ρ => ρ

/-- what an entry gives -/
noncomputable def IniAt (B : Wd) (P : Addr → Prop) (h : Heap) (kind : Str → Option NameKind) (qs : List Str) (m cm : Str → Option Value) (ρ : Loc) : Prop :=
  ∀ x lv, ρ x = some lv → x ∈ qs ∧ ∃ d v, lv = .dat d ∧ Rd B P h v d ∧ ((kind x = some .local ∧ m x = some v) ∨ (kind x = some .cell ∧ cm x = some v))

theorem ini_at {B : Wd} {P : Addr → Prop} {h : Heap} {kind : Str → Option NameKind} {qs : List Str} : ∀ {ps : List Str} {vs : List Value} {ds : List PyData} {m cm : Str → Option Value} {ρ : Loc},
    Rds B P h vs ds → (∀ x ∈ ps, x ∈ qs ∧ (kind x = some .local ∨ kind x = some .cell)) → IniAt B P h kind qs m cm ρ → IniAt B P h kind qs (bindL kind (ps.zip vs) m) (bindC kind (ps.zip vs) cm) (ini ps ds ρ)
  | [], _, _, _, _, _, _, _, i => i
  | _ :: _, _, _, _, _, _, .nil, _, i => i
  | x :: ps, _, _, m, cm, ρ, .cons (v := v) (d := d) a r, hk, i => by
    refine ini_at (ps := ps) r (fun y hy => hk y (.tail _ hy)) fun y lv e => ?_
    by_cases q : y = x
    · subst q
      rw [put_eq] at e; cases e
      refine ⟨(hk y (.head _)).1, d, v, rfl, a, ?_⟩
      rcases (hk y (.head _)).2 with q | q
      · exact .inl ⟨q, by rw [if_pos q]; simp⟩
      · exact .inr ⟨q, by rw [if_neg (by rw [q]; exact fun z => nomatch z)]; simp⟩
    · rw [put_ne _ _ q] at e
      obtain ⟨hm, d', v', e', r', c⟩ := i y lv e
      refine ⟨hm, d', v', e', r', ?_⟩
      rcases c with ⟨c, w⟩ | ⟨c, w⟩
      · refine .inl ⟨c, ?_⟩
        by_cases z : kind x = some .local
        · rw [if_pos z]; simpa [q] using w
        · rw [if_neg z]; exact w
      · refine .inr ⟨c, ?_⟩
        by_cases z : kind x = some .local
        · rw [if_pos z]; exact w
        · rw [if_neg z]; simpa [q] using w

theorem cell_keep {x : Str} : ∀ (nm : List (Str × NameKind)) (n : Nat) (cl : List (Str × Addr)), (cl.lookup x).isSome = true → ((cellsFrom n nm cl).lookup x).isSome = true
  | [], _, _, h => h
  | (y, k) :: r, n, cl, h => by
    unfold cellsFrom
    split
    · refine cell_keep r _ _ ?_
      rw [List.lookup_cons]
      cases x == y
      · exact h
      · rfl
    · exact cell_keep r _ cl h
theorem cell_in {x : Str} : ∀ (nm : List (Str × NameKind)) (n : Nat) (cl : List (Str × Addr)), nm.lookup x = some .cell → ((cellsFrom n nm cl).lookup x).isSome = true
  | [], _, _, h => nomatch h
  | (y, k) :: r, n, cl, h => by
    rw [List.lookup_cons] at h
    unfold cellsFrom
    cases q : x == y with
    | true =>
      rw [q] at h
      have hk : k = .cell := Option.some.inj h
      rw [hk, show (NameKind.cell == NameKind.cell) = true from rfl, if_pos rfl]
      exact cell_keep r _ _ (by rw [List.lookup_cons, q]; rfl)
    | false =>
      rw [q] at h
      split
      · exact cell_in r _ _ h
      · exact cell_in r _ cl h
/-- the side conditions of a def -/
structure Def (B : Wd) (f : Addr) (ps : List Str) (nm : List (Str × NameKind)) (body : List Stmt) : Prop where
  mk' : ∃ oc od osl name params scope dV kV doc pm an cdv ct, B.K.lookup f = some ⟨oc, od, .func (fnOf name name params body scope dV kV doc pm an cdv ct), osl⟩ ∧ codeIn B.K cdv name = true ∧ scope.names = nm ∧
    (∀ vs : List Value, vs.length = ps.length → bindArgs (fnOf name name params body scope dV kV doc pm an cdv ct) ⟨vs, []⟩ = pure (ps.zip vs)) ∧ scope.isCoroutine = false ∧ scope.isGenerator = false ∧ scope.kind = .function
  kinds : ∀ x ∈ ps, nm.lookup x = some .local ∨ (nm.lookup x = some .cell ∧ x ≠ "__classdict__" ∧ ∀ n, ((cellsFrom n nm []).lookup x).isSome = true)
  sole : ∀ n, ∀ p ∈ cellsFrom n nm [], (cellsFrom n nm []).lookup p.1 = some p.2

theorem adr_cons {env : Env} {fs : List Env} {L : Addr} (h : env.frame = some L) : adr (env :: fs) = L :: adr fs := by unfold adr; rw [List.filterMap_cons, h]


theorem call_cells {prog : Program} {w : World} {A : Around} {s : Shared} {R : Result → Shared → Prop} {a : Addr} {o : Obj} {fd : FuncData} {body : List Stmt} {vals : List Value} {binds : List (Str × Value)}
    (hroom : A.depth < recursionLimit) (ho : s.heap.get? a = some o) (hdata : o.data = .func fd) (hlim : s.heap.NoLimit) (hcd : s.heap.CodeRec fd.code fd.qualname)
    (hbody : fd.body = .stmts body) (hbind : bindArgs fd ⟨vals, []⟩ = pure binds) (hclo : fd.closure = [])
    (hkind : ∀ x ∈ binds, fd.scope.names.lookup x.1 = some .local ∨ (fd.scope.names.lookup x.1 = some .cell ∧ ((cellsFrom (s.heap.objs.size + 1) fd.scope.names []).lookup x.1).isSome = true))
    (h : ∀ s₁, s.toks ≤ s₁.toks → InCallC s (callEnvC fd s.heap.objs.size a).locals (bindL (callEnvC fd s.heap.objs.size a).kindOf binds fun _ => none) (callEnvC fd s.heap.objs.size a).cells
        (bindC (callEnvC fd s.heap.objs.size a).kindOf binds fun _ => none) s₁ →
      wpAny (model prog w) (A.deeper (callEnvC fd s.heap.objs.size a)) (execs body (callEnvC fd s.heap.objs.size a)) (fun f s' => R (.ok (.ret (match f with | .ret v => v | _ => .none))) s')
        (fun e s' => wpAny (model prog w) (A.deeper (callEnvC fd s.heap.objs.size a)) (leaving (callEnvC fd s.heap.objs.size a) e) (fun _ s'' => R (.error e) s'') (fun e' s'' => R (.error e') s'') s') s₁)
    (hco : fd.scope.isCoroutine = false) (hgen : fd.scope.isGenerator = false) (hk : fd.scope.kind = .function) :
    codeAny (model prog w) A (.call (.ref a) ⟨vals, []⟩) R s := by
  refine codeAny_call_function hroom ho hdata hco hgen hbody hcd ?_
  rw [hbind, hclo]
  refine wpAny_pure (toks_up (wpAny_newFunctionEnv_cells hk hkind fun env he s' x ht => ?_))
  subst he
  exact ⟨hlim.keeps x.toInCall.keep, codeAny_func (h s' ht x)⟩

theorem fn_core {B : Wd} {f : Addr} {n : Nat} {ps : List Str} {nm : List (Str × NameKind)} {body : List Stmt} {ds : List PyData} {res : Except String PyData} (hD : Def B f ps nm body) (hl : ps.length = ds.length)
    (h : Ex B (fun c => res = .error c) nm n (ini ps ds (fun _ => none)) body (fun fl _ => match res with | .ok d => fl = .ret d ∨ (fl = .next ∧ d = .none) | .error _ => False))
    {oc od osl name params scope dV kV doc pm an cdv ct} (hlk : B.K.lookup f = some ⟨oc, od, .func (fnOf name name params body scope dV kV doc pm an cdv ct), osl⟩) (hcd : codeIn B.K cdv name = true) (hnm : scope.names = nm)
    (hb : ∀ vs : List Value, vs.length = ps.length → bindArgs (fnOf name name params body scope dV kV doc pm an cdv ct) ⟨vs, []⟩ = pure (ps.zip vs)) (h1 : scope.isCoroutine = false) (h2 : scope.isGenerator = false) (h3 : scope.kind = .function) : FnX B f (n + 1) ds res := fun A fs s vs ok hh hf hd hu st ff t r => by
  have hfn : s.heap.get? f = some _ := st _ _ (ok.inK _ _ hlk)
  have hroom : A.depth < recursionLimit := Nat.lt_of_lt_of_le (m := 990) (by omega) (by decide)
  refine call_cells (fd := fnOf name name params body scope dV kV doc pm an cdv ct) hroom hfn rfl (ok.top.nolimit.keeps st)
    (codeRec_of (K := B.K) (fun b o e => st b o (ok.inK b o e)) hcd) rfl (hb vs (by rw [r.length, hl])) rfl (fun x hx => ?_) (fun s₁ htk I => ?_) h1 h2 h3
  · have hx' : x.1 ∈ ps := (List.of_mem_zip (a := x.1) (b := x.2) hx).1
    show scope.names.lookup _ = _ ∨ scope.names.lookup _ = _ ∧ ((cellsFrom _ scope.names []).lookup _).isSome = true
    rw [hnm]
    rcases hD.kinds _ hx' with q | ⟨q, _, z⟩
    · exact .inl q
    · exact .inr ⟨q, z _⟩
  · generalize hE : callEnvC (fnOf name name params body scope dV kV doc pm an cdv ct) s.heap.objs.size f = env at I ⊢
    have eL : env.locals = s.heap.objs.size := by rw [← hE]; rfl
    have eF : env.frame = some env.locals := by rw [eL, ← hE]; rfl
    have eN : env.scope.names = nm := by rw [← hE]; exact hnm
    have eK : env.kindOf = fun x => nm.lookup x := by funext x; unfold Env.kindOf; rw [eN]
    have eC : env.cells = cellsFrom (s.heap.objs.size + 1) nm [] := by rw [← hE, ← hnm]; rfl
    have ek : env.scope.kind = .function := by rw [← hE]; exact h3
    have eg : env.globals = mainGlobals := by rw [← hE]; rfl
    have eb : env.builtins = builtinsNs := by rw [← hE]; rfl
    obtain ⟨h₁, tk₁, e₁⟩ := I.toInCall.same
    have hns := I.toInCall.ns
    have hkeep := I.toInCall.keep
    have hcell := I.cell
    have habove := I.above
    subst e₁
    simp only at hns hkeep hcell htk
    have nL : s.heap.get? env.locals = none := by rw [eL]; exact get_size _
    have nC : ∀ p ∈ env.cells, s.heap.get? p.2 = none ∧ p.2 ≠ env.locals := fun p hp => by
      have := habove p.1 p.2 hp
      refine ⟨?_, Nat.ne_of_gt this⟩
      cases e : s.heap.get? p.2 with
      | none => rfl
      | some o =>
        rw [eL] at this
        exact absurd (Heap.lt_size e) (Nat.not_lt.mpr (Nat.le_of_lt this))
    have hbase : ∀ b, s.heap.get? b = none → B.base.get? b = none := fun b e => by
      cases q : B.base.get? b with
      | none => rfl
      | some o => rw [st b o q] at e; cases e
    have nF : ∀ b, s.heap.get? b = none → b ∉ adr fs := fun b e q => by
      obtain ⟨_, o, e'⟩ := adr_live ff q
      rw [e] at e'; cases e'
    have ea : adr (env :: fs) = env.locals :: adr fs := adr_cons eF
    have st₁ : Stay (adr (env :: fs)) [] s.heap h₁ := .of_all hkeep
    have hini := ini_at (B := B) (P := fun b => b ∉ adr fs) (h := s.heap) (kind := env.kindOf) (m := fun _ => none) (cm := fun _ => none) (ρ := fun _ => none) r
      (qs := ps) (fun x hx => ⟨hx, by rw [eK]; exact (hD.kinds x hx).imp id fun z => z.1⟩) (fun _ _ e => nomatch e)
    have R₀ : SR B s.heap (env :: fs) env (env.cells.map (·.2)) (ini ps ds fun _ => none) h₁ := by
      refine ⟨fun b o e => hkeep b o (st b o e), ⟨(by rw [ek]; exact (fun z => nomatch z)), ?_, ff.of_keeps fun b o e _ => ⟨o, hkeep b o e, rfl⟩⟩, st₁, fun a ha => ?_, ⟨hbase _ nL, nL⟩, fun p hp => List.mem_map_of_mem hp, ⟨fun p hp => ?_, fun p hp q hq e => name_of_addr I.apart (n := p.1) (n' := q.1) (c := p.2) hp (by rw [e]; exact hq)⟩,
        _, fun _ => none, hns, fun _ _ _ e => (nomatch e), fun _ _ e => (nomatch e), fun x lv e => ?_⟩
      · obtain ⟨o, es, ep, e, d, _⟩ := id hns
        exact ⟨env.locals, o, eF, hbase _ nL, e, fun vs q => by rw [q] at d; cases d⟩
      · obtain ⟨p, hp, rfl⟩ := List.mem_map.mp ha
        obtain ⟨n1, n2⟩ := nC p hp
        have : ∃ o, h₁.get? p.2 = some o := by
          have hc := hD.sole (s.heap.objs.size + 1) p (by rw [← eC]; exact hp)
          rw [← eC] at hc
          obtain ⟨o, e, _⟩ := hcell _ _ hc
          exact ⟨o, e⟩
        exact ⟨this, hbase _ n1, n1, n2, by rw [ea]; exact fun z => (List.mem_cons.mp z).elim n2 (nF _ n1)⟩
      · have hc := hD.sole (s.heap.objs.size + 1) p (by rw [← eC]; exact hp)
        rw [← eC] at hc
        exact ⟨_, hcell _ _ hc⟩
      · obtain ⟨hp, d, v, rfl, rv, c⟩ := hini x lv e
        refine ⟨v, ?_, rv.up (fun b o _ e => hkeep b o e) fun b o p e => ?_⟩
        · rcases c with ⟨c, w⟩ | ⟨c, w⟩
          · exact .inl ⟨c, w⟩
          · rcases hD.kinds x hp with q | ⟨q, nd, z⟩
            · rw [eK] at c; simp only [q] at c; cases c
            · obtain ⟨cc, hc⟩ := Option.isSome_iff_exists.mp (z (s.heap.objs.size + 1))
              rw [← eC] at hc
              exact .inr ⟨.inl c, nd, cc, hc, w ▸ hcell x cc hc⟩
        · have ne : ∀ c, s.heap.get? c = none → b ≠ c := fun c z q => by rw [q, z] at e; cases e
          refine ⟨by rw [ea]; exact fun z => (List.mem_cons.mp z).elim (ne _ nL) p, ne _ nL, fun z => ?_⟩
          obtain ⟨p', hp', e'⟩ := List.mem_map.mp z
          exact ne _ (nC p' hp').1 e'.symm
    have S : Sta B nm n (A.deeper env) (env :: fs) env s.heap (env.cells.map (·.2)) (ini ps ds fun _ => none) { s with heap := h₁, toks := tk₁ } :=
      ⟨ok, ⟨ek, eN, eg, eb, hh, Around.frames_deeper hf, by show A.depth + 1 + n ≤ 990; omega, by show A.units + 3 + 8 * n ≤ 9000; omega, fun _ => ⟨⟨fs, rfl⟩, eF⟩, fun _ x hx => by rw [eC]; exact Option.isSome_iff_exists.mp (cell_in nm _ _ hx)⟩, R₀, Nat.le_trans t htk⟩
    refine wpAny_mono (h (A.deeper env) (env :: fs) env s.heap _ _ _ S ⟨PassesOwn.leaving, fun ha hb tk e cls own ρ x R N => ?_⟩) (fun fl s' p => ?_) fun _ _ x => x
    · have ne : ∀ env' ∈ env :: fs, ∀ b, env'.frame = some b → b ∈ adr (env :: fs) := fun env' he b hb => List.mem_filterMap.mpr ⟨env', he, hb⟩
      obtain ⟨ob, tt, hob, hoc, hod⟩ := N.there
      have hst : (hideAll ha (adr (env :: fs))).StaysIn hb := fun b o e => N.keeps b o (of_hideAll _ e)
      have hnn : (hideAll ha (adr (env :: fs))).get? e = none := by
        cases q : (hideAll ha (adr (env :: fs))).get? e with
        | none => rfl
        | some o => have := of_hideAll _ q; rw [N.new] at this; cases this
      have hff : hb.FunFrames (hideAll ha (adr (env :: fs))) (env :: fs) := (funFrames_hide R.frames ne).of_keeps fun b o e _ => ⟨o, N.keeps b o e, rfl⟩
      refine wpAny_leaving_first (base := hideAll ha (adr (env :: fs))) (Around.frames_deeper hf) hff eF hob hst hnn hod rfl fun h' Lf => ?_
      obtain ⟨l1, l2, l3, l4⟩ := Lf
      subst x
      have nf : ∀ b, b ∈ adr fs → ∀ o, s.heap.get? b = some o → NoFields o := fun b hb o e => by
        obtain ⟨_, o', e', nf⟩ := ff.mem hb
        rw [e] at e'; cases e'; exact nf
      have keepb : ∀ b o, b ∉ adr fs → s.heap.get? b = some o → (hideAll ha (adr (env :: fs))).get? b = some o := fun b o nb e => by
        have nb' : b ∉ adr (env :: fs) := by
          rw [ea]; intro z
          rcases List.mem_cons.mp z with z | z
          · rw [z, nL] at e; cases e
          · exact nb z
        exact hideAll_get _ (R.kept.keep b o nb' (fun q => nomatch q) e) nb'
      have slot : ∀ b o, s.heap.get? b = some o → NoFields o → ∃ sl, h'.get? b = some { o with slots := sl } := fun b o e nf => by
        obtain ⟨sl, e'⟩ := R.kept.slot b o (fun q => nomatch q) e
        obtain ⟨sl', e''⟩ := l4 b _ (N.keeps b _ e') nf
        exact ⟨sl', e''⟩
      refine ⟨h', tk, rfl, ⟨fun b o nb _ e => l1 b o (keepb b o nb e), fun b o _ e => ?_, fun b o e => ?_⟩, e, _, rfl, ⟨l1, hnn, l2.2.2, hoc ▸ l3⟩, keepb⟩
      · by_cases q : b ∈ adr fs
        · exact slot b o e (nf b q o e)
        · exact ⟨o.slots, l1 b o (keepb b o q e)⟩
      · by_cases q : b ∈ adr fs
        · obtain ⟨sl, e'⟩ := slot b o e (nf b q o e); exact ⟨_, e'⟩
        · exact ⟨o, l1 b o (keepb b o q e)⟩
    · obtain ⟨fl', ρ', own', h', tk, rfl, t', q, st', no, R, fr⟩ := p
      have stay : Stay (adr fs) [] s.heap h' := ⟨fun b o nb w e => R.kept.keep b o (by
          rw [ea]; intro z
          rcases List.mem_cons.mp z with z | z
          · rw [z, nL] at e; cases e
          · exact nb z) w e, R.kept.slot, R.kept.live⟩
      cases res with
      | error c => exact q.elim
      | ok d =>
        refine ⟨h', tk, rfl, stay, _, rfl, ?_⟩
        rcases q with rfl | ⟨rfl, rfl⟩
        · cases fl with
          | ret v => exact Rd.up (fun _ _ _ e => e) (fun b o p e => ⟨fun z => p.1 (by rw [ea]; exact .tail _ z), p.2⟩) fr
          | next => exact fr.elim
          | cont => exact fr.elim
          | brk => exact fr.elim
        · cases fl with
          | next => exact .none
          | ret v => exact fr.elim
          | cont => exact fr.elim
          | brk => exact fr.elim
theorem fn_intro {B : Wd} {f : Addr} {n : Nat} {ps : List Str} {nm : List (Str × NameKind)} {body : List Stmt} {ds : List PyData} {res : Except String PyData} (hD : Def B f ps nm body) (hl : ps.length = ds.length)
    (h : Ex B (fun c => res = .error c) nm n (ini ps ds (fun _ => none)) body (fun fl _ => match res with | .ok d => fl = .ret d ∨ (fl = .next ∧ d = .none) | .error _ => False)) : FnX B f (n + 1) ds res := by
  obtain ⟨oc, od, osl, name, params, scope, dV, kV, doc, pm, an, cdv, ct, hlk, hcd, hnm, hb, h1, h2, h3⟩ := hD.mk'
  exact fn_core hD hl h hlk hcd hnm hb h1 h2 h3
end Mine
end

section
set_option maxRecDepth 100000
namespace Mine

/-- a target taken, cells too -/
noncomputable def AsZ (B : Wd) (nm : List (Str × NameKind)) (n : Nat) (zs : List Str) (target : Expr) (d : PyData) (ρ ρ' : Loc) : Prop :=
  ∀ A fs env h₀ own s v E (R : Unit → Shared → Prop), Sta B nm n A fs env h₀ own ρ s → (∀ z ∈ zs, ∃ c, env.cells.lookup z = some c) → Rd B (Md.C.P h₀ fs env.locals own) s.heap v d →
    (∀ h' tk, Sta B nm n A fs env h₀ own ρ' { s with heap := h', toks := tk } → Stay (adr fs) (env.locals :: own) s.heap h' → (∀ b o, b ≠ env.locals → (∀ z ∈ zs, env.cells.lookup z ≠ some b) → s.heap.get? b = some o → h'.get? b = some o) → s.toks ≤ tk → R () { s with heap := h', toks := tk }) → wpAny B.M A (assign target env v) R E s
/-- what is known of the variables in a comprehension -/
noncomputable def Inn (ρ : Loc) (fz : Option Str) (ρ' : Loc) : Prop := (∀ x lv, ρ' x = some lv → ∃ d, lv = .dat d) ∧ ∀ z, fz = some z → ρ' z = ρ z
noncomputable def inn0 (ρ : Loc) (fz : Option Str) : Loc := fun y => if fz = some y then ρ y else none
noncomputable def Tst (B : Wd) (nm : List (Str × NameKind)) (n : Nat) (ρ : Loc) (ifs : List Expr) (b : Bool) : Prop := (ifs = [] ∧ b = true) ∨ ∃ c, ifs = [c] ∧ Tr B nm n ρ c b
/-- the side conditions of a comprehension's scope -/
structure CompOk (nm : List (Str × NameKind)) (scope : Scope) (nm' : List (Str × NameKind)) (fz xc : Option Str) : Prop where
  kind : scope.kind = .function
  names : ∀ x ∈ scope.names, x.2 = .local → scope.names.lookup x.1 = some .local
  rel : ∀ env : Env, env.scope.kind = .function → env.scope.names = nm → (relabel scope env).names = nm'
  clos0 : fz = none → ∀ env : Env, closureFor scope env = pure []
  clos1 : ∀ z, fz = some z → (nm.lookup z = some .cell ∨ nm.lookup z = some .free) ∧ z ≠ "__classdict__" ∧ (nm'.lookup z = some .cell ∨ nm'.lookup z = some .free) ∧ ∀ (env : Env) (c : Addr), env.cells.lookup z = some c → closureFor scope env = pure [(z, c)]
  dot : nm'.lookup (".0" : Str) ≠ none
  cel0 : xc = none → (∀ h, pushCells h scope.names = h) ∧ ∀ k cl, cellsFrom k scope.names cl = cl
  cel1 : ∀ x, xc = some x → fz ≠ some x ∧ nm'.lookup x = some .cell ∧ (∀ h, pushCells h scope.names = h.push { cls := .type "cell", data := .cell none }) ∧ ∀ k cl, cellsFrom k scope.names cl = (x, k) :: cl

section
variable {B : Wd} {X : String → Prop} {nm nm' : List (Str × NameKind)} {n : Nat} {ρ ρ' : Loc} {fs : List Env} {env : Env} {h₀ : Heap} {own : List Addr} {s : Shared} {A : Around} {d : PyData} {x y z : Str} {e elt target iter : Expr} {ifs : List Expr} {pos px cpos : Pos} {E : Value → Shared → Prop} {xs ys ds : List PyData} {scope : Scope} {fz xc : Option Str} {md : Md}

theorem AsT.toZ (h : AsT B nm n target d ρ ρ') : AsZ B nm n [] target d ρ ρ' := fun A fs env h₀ own s v E R S _ r k => h A fs env h₀ own s v E R S r fun h' tk S' st kb t => k h' tk S' st (fun b o nb _ e => kb b o nb e) t
theorem Inn.put' (h : Inn ρ fz ρ') (hx : fz ≠ some x) : Inn ρ fz (Mine.put x (.dat d) ρ') := ⟨fun y lv e => by
    by_cases q : y = x
    · rw [q, put_eq] at e; cases e; exact ⟨_, rfl⟩
    · rw [put_ne _ _ q] at e; exact h.1 y lv e, fun z e => by
    have q : z ≠ x := fun q => hx (by rw [← q]; exact e)
    rw [put_ne _ _ q]; exact h.2 z e⟩

theorem SR.put_cell {h h' : Heap} {c : Addr} {v : Value} (S : SR B h₀ fs env own ρ h) (r : Rd B (Md.C.P h₀ fs env.locals own) h v d) (hk : env.kindOf x = some .cell) (nd : x ≠ "__classdict__") (hc : env.cells.lookup x = some c) (hc' : h'.IsCell c (some v)) (hs : Heap.SameBut c h h') : SR B h₀ fs env own (put x (.dat d) ρ) h' := by
  obtain ⟨m, oa, n, inj, sub, vs⟩ := S.vars
  have hm : (x, c) ∈ env.cells := mem_of_lookup hc
  have oc := S.owns c (S.cells _ hm)
  have kb : ∀ b o, b ≠ c → h.get? b = some o → h'.get? b = some o := fun b o nb e => (hs.2 b nb).trans e
  have lv : ∀ b o, h.get? b = some o → ∃ o', h'.get? b = some o' := fun b o e => by
    by_cases q : b = c
    · obtain ⟨o', e', _⟩ := hc'; exact ⟨o', q ▸ e'⟩
    · exact ⟨o, kb b o q e⟩
  have nl : ∀ y a, oa y = some a → (∃ lv, ρ y = some lv ∧ (∀ d, lv ≠ .dat d) ∧ ∀ R, lv ≠ .raw R) → a ≠ c := fun y a e ⟨lv, e1, e2, e2'⟩ q => by
    obtain ⟨v0, o, eo, ed⟩ := S.cellish.1 _ hm
    have V := vs y lv e1
    cases lv with
    | dat d => exact e2 d rfl
    | raw R => exact e2' R rfl
    | lst xs => obtain ⟨a', ws, ea, _, ⟨k, e3⟩, _⟩ := V; rw [e] at ea; cases ea; rw [q, eo] at e3; cases e3; cases ed
    | dct kvs =>
      obtain ⟨a', ws, ea, _, l, _⟩ := V
      rw [e] at ea; cases ea
      obtain ⟨o', e4, es, ep, _, d', _⟩ := Heap.dictOf_iff.mp l
      rw [q, eo] at e4; cases e4; rw [ed] at d'; cases d'
  refine ⟨fun b o e => kb b o (fun q => by rw [q, oc.2.1] at e; cases e) (S.stays b o e), funFrames_keep (fun b o e nf => ?_) S.frames, ?_, fun a ha => let ⟨⟨o, e⟩, r⟩ := S.owns a ha; ⟨lv a o e, r⟩, S.loc, S.cells, ⟨fun p hp => ?_, S.cellish.2⟩,
    m, fun y => if y = x then none else oa y, n.sameBut hs (Ne.symm oc.2.2.2.1), ?_, ?_, fun y lv' e => ?_⟩
  · by_cases q : b = c
    · obtain ⟨o', e', d'⟩ := hc'; exact ⟨o', q ▸ e', fun vs q => by rw [d'] at q; cases q⟩
    · exact ⟨o, kb b o q e, nf⟩
  · exact S.kept.trans (own' := [c]) ⟨fun b o _ q e => kb b o (fun z => q (by simp [z])) e, fun b o q e => ⟨o.slots, kb b o (fun z => q (by simp [z])) e⟩, lv⟩ fun a ha => .inr (by rw [List.mem_singleton.mp ha]; exact oc.2.2.1)
  · by_cases q : p.2 = c
    · exact ⟨_, q ▸ hc'⟩
    · obtain ⟨v0, o, eo, ed⟩ := S.cellish.1 p hp; exact ⟨v0, o, kb _ o q eo, ed⟩
  · intro y z a e1 e2
    by_cases q1 : y = x <;> by_cases q2 : z = x <;> simp only [q1, q2, if_true, if_false] at e1 e2
    · cases e1
    · cases e1
    · cases e2
    · exact inj y z a e1 e2
  · intro y a e
    by_cases q1 : y = x <;> simp only [q1, if_true, if_false] at e
    · cases e
    · exact sub y a e
  · by_cases q : y = x
    · subst q
      rw [put_eq] at e; cases e
      exact ⟨v, .inr ⟨.inl hk, nd, c, hc, hc'⟩, r.up (fun b o p e => kb b o (fun z => p.2.2 (z ▸ S.cells _ hm)) e) fun _ _ p _ => p⟩
    · rw [put_ne _ _ q] at e
      have hv : ∀ u, VarIs env m h y u → VarIs env m h' y u := fun u V => V.at (fun _ w => w) fun c' o hc' e' _ => kb c' o (fun z => q (S.cellish.2 _ (mem_of_lookup hc') _ hm z)) e'
      have V := vs y lv' e
      cases lv' with
      | dat d' => obtain ⟨u, W, r'⟩ := V; exact ⟨u, hv u W, r'.up (fun b o p e => kb b o (fun z => p.2.2 (z ▸ S.cells _ hm)) e) fun _ _ p _ => p⟩
      | raw R =>
        obtain ⟨u, W, hr, r'⟩ := V
        refine ⟨u, hv u W, fun a ha => ⟨(hr a ha).1, fun w hw => ?_, (hr a ha).2.2⟩, R.up r' (fun b o p e _ => kb b o (fun z => p.elim (fun p => p.2.1.2 (z ▸ S.cells _ hm)) fun p => (hr b p).2.2 _ hm z.symm) e) fun _ _ p _ _ => p⟩
        by_cases q1 : w = x
        · simp only [q1, if_true] at hw; cases hw
        · simp only [q1, if_false] at hw; exact (hr a ha).2.1 w hw
      | lst xs =>
        obtain ⟨a, ws, ea, W, l, r'⟩ := V
        exact ⟨a, ws, by simpa [q] using ea, hv _ W, plainList_keep l (fun o => kb a o (nl y a ea ⟨_, e, (fun _ z => nomatch z), fun _ z => nomatch z⟩)), r'.up (fun b o p e => kb b o (fun z => p.2.1.2 (z ▸ S.cells _ hm)) e) fun _ _ p _ => p⟩
      | dct kvs =>
        obtain ⟨a, ws, ea, W, l, na, r'⟩ := V
        exact ⟨a, ws, by simpa [q] using ea, hv _ W, dictOf_keep l (fun o => kb a o (nl y a ea ⟨_, e, (fun _ z => nomatch z), fun _ z => nomatch z⟩)), na, r'.up (fun b o p e => kb b o (fun z => p.2.1.2 (z ▸ S.cells _ hm)) e) fun _ _ p _ => p⟩

theorem as_cell (hx : nm.lookup x = some .cell) (nd : x ≠ "__classdict__" := by decide) : AsZ B nm n [x] (.Name x px) d ρ (put x (.dat d) ρ) := fun A fs env h₀ own s v E R S hz r k => by
  obtain ⟨c, hc⟩ := hz x (.head _)
  obtain ⟨v0, hcell⟩ := S.sr.cellish.1 _ (mem_of_lookup hc)
  have hin := S.sr.cells _ (mem_of_lookup hc)
  refine wpAny_assign_Name (wpAny_storeName_cell S.sit.kind (kind_of S hx) hc hcell fun h' hc' hs => ?_)
  have kb : ∀ b o, b ≠ c → s.heap.get? b = some o → h'.get? b = some o := fun b o nb e => (hs.2 b nb).trans e
  refine k h' s.toks ⟨S.ok, S.sit, S.sr.put_cell r (kind_of S hx) nd hc hc' hs, S.tok⟩ ⟨fun b o _ w e => kb b o (fun q => w (by rw [q]; exact .tail _ hin)) e, fun b o w e => ⟨o.slots, kb b o (fun q => w (by rw [q]; exact .tail _ hin)) e⟩, fun b o e => ?_⟩
    (fun b o _ nz e => kb b o (fun q => nz x (.head _) (by rw [q]; exact hc)) e) (Nat.le_refl _)
  by_cases q : b = c
  · obtain ⟨o', e', _⟩ := hc'; exact ⟨o', q ▸ e'⟩
  · exact ⟨o, kb b o q e⟩

theorem new_comp_env {M : Model} {cl : List (Str × Addr)} {Q : Env → Shared → Prop} (h : Q (newEnv scope s.heap.objs.size env.globals (cellsFrom (s.heap.objs.size + 1) scope.names cl) env.qual none .none (some env) builtinsNs) { s with heap := pushCells (s.heap.push { cls := .type "dict", data := .dict #[] }) scope.names }) :
    wpAny M A (newFunctionEnv scope env.globals cl [] env.qual none .none (some env)) Q E s := by
  simp only [newFunctionEnv, Option.isSome_some, if_true]
  refine wpAny_bind (wpAny_alloc ?_)
  refine wpAny_bind (wpAny_layCells _ (fun name kind cells => by cases hkc : kind == NameKind.cell <;> simp [hkc]) _ _ _ _ ?_)
  rw [show ({ s with heap := s.heap.push { cls := .type "dict", data := .dict #[] } } : Shared).heap.objs.size = s.heap.objs.size + 1 from Heap.size_push ..]
  exact wpAny_bind (wpAny_pure (wpAny_pure h))

/-- a change of a nameless list of one's own -/
theorem SR.free_change {h h' : Heap} {a : Addr} {vs vs' : Array Value} (S : SR B h₀ fs env own ρ h) (hd : ∀ x lv, ρ x = some lv → ∃ d, lv = .dat d) (ha : a ∈ own) (hs : Heap.SameBut a h h') (hl0 : h.PlainList a vs) (hl : h'.PlainList a vs') : SR B h₀ fs env own ρ h' := by
  obtain ⟨m, oa, n, inj, sub, vars⟩ := S.vars
  have oas := S.owns a ha
  have kb : ∀ b o, b ≠ a → h.get? b = some o → h'.get? b = some o := fun b o nb e => (hs.2 b nb).trans e
  have nc : ∀ c o, h.get? c = some o → (∃ v, o.data = .cell v) → c ≠ a := fun c o e ⟨v, q⟩ z => by
    obtain ⟨k, e'⟩ := hl0
    rw [z, e'] at e; cases e; cases q
  refine S.turn (W := [a]) (fun b hb => .inr (by rw [List.mem_singleton.mp hb]; exact ha)) (fun b o q e => kb b o (fun z => q (by simp [z])) e) (fun b o q e nf => ?_) (fun b o q e vs q' => ?_) (fun b o q e v q' => nc b o e ⟨v, q'⟩ (List.mem_singleton.mp q)) (fun b hb => .inl hb) (fun b hb => hb)
    ⟨m, fun _ => none, n.sameBut hs (Ne.symm oas.2.2.2.1), fun _ _ _ e => (nomatch e), fun _ _ e => (nomatch e), fun y lv e => ?_⟩
  · rw [List.mem_singleton.mp q]
    obtain ⟨k, e'⟩ := hl
    exact ⟨_, e', fun vs q => nomatch q⟩
  · rw [List.mem_singleton.mp q] at e
    obtain ⟨k, e'⟩ := hl0
    rw [e'] at e; cases e; cases q'
  · obtain ⟨d, rfl⟩ := hd y lv e
    obtain ⟨u, V, r⟩ := vars y _ e
    exact ⟨u, V.at (fun _ w => w) fun c o hc e q => kb c o (nc c o e q) e, r.up (fun b o p e => kb b o (fun z => p.2.2 (z ▸ ha)) e) fun _ _ p _ => p⟩

/-- the loop of a comprehension, its step over a tuple looked at -/
theorem comp_loop {prog : Program} {w : World} {it acc : Value} {cenv : Env} {R : Result → Shared → Prop} (I : Nat → Shared → Prop)
    (turn : ∀ k s, I k s → wpAny (model prog w) A (pyNext it) (fun r s₁ => match r with
      | none => R (.ok .next) s₁
      | some v => wpAny (model prog w) A (letOwnedTupleGo target it v) (fun _ s₁ => wpAny (model prog w) A (assign target cenv v) (fun _ s₂ =>
          wpAny (model prog w) A (forIn ifs true fun c r => if r = true then do let ok ← isTrue c cenv (eval c cenv); pure (ForInStep.yield ok) else pure (ForInStep.yield r)) (fun ok s₃ =>
            if ok = true then wpAny (model prog w) A (eval elt cenv) (fun x s₄ =>
              wpAny (model prog w) A (call (.builtin "list.append") [acc, x]) (fun _ s₅ => ∃ m, m < k ∧ I m s₅) (fun _ _ => False) s₄) (fun _ _ => False) s₃
            else ∃ m, m < k ∧ I m s₃) (fun _ _ => False) s₂) (fun _ _ => False) s₁) (fun _ _ => False) s₁) (fun _ _ => False) s)
    (k : Nat) (h : I k s) : codeAny (model prog w) A (.compLoop (.ListComp elt [⟨target, iter, ifs, 0⟩] scope pos) 0 it acc cenv) R s := by
  refine codeAny_loop rfl I (fun k s hI => ?_) k h
  show wpAny _ A ((compTurn (.ListComp elt [⟨target, iter, ifs, 0⟩] scope pos) 0 it acc cenv).onRaise (fun x => do noteFrame x cenv; theTreesLotGoes x)) _ _ s
  refine wpAny_noted (wpAny_noRaise ?_)
  rw [compTurn_list]
  refine wpAny_bind (wpAny_standAt (wpAny_bind (wpAny_mono (turn k s hI) (fun r s₁ h₁ => ?_) fun _ _ h' => h')))
  cases r with
  | none => exact wpAny_pure h₁
  | some v =>
    refine wpAny_bind (wpAny_mono h₁ (fun _ s₁ h₁ => ?_) fun _ _ h' => h')
    refine wpAny_bind (wpAny_mono h₁ (fun _ s₂ h₂ => wpAny_bind (wpAny_mono h₂ (fun ok s₃ h₃ => ?_) fun _ _ h' => h')) fun _ _ h' => h')
    cases ok with
    | false => exact wpAny_pure ⟨rfl, h₃⟩
    | true =>
      exact wpAny_bind (wpAny_bind (wpAny_mono h₃ (fun x s₄ h₄ => wpAny_bind (wpAny_mono h₄ (fun _ s₅ h₅ => wpAny_pure (wpAny_pure ⟨rfl, h₅⟩)) fun _ _ h' => h')) fun _ _ h' => h'))
end
end Mine
end

section
set_option maxRecDepth 100000
namespace Mine

section
variable {B : Wd} {X : String → Prop} {nm nm' : List (Str × NameKind)} {n : Nat} {ρ ρ' : Loc} {fs : List Env} {env : Env} {h₀ : Heap} {own : List Addr} {s : Shared} {A : Around} {d : PyData} {x y z : Str} {e elt target iter : Expr} {ifs : List Expr} {pos px cpos : Pos} {E : Value → Shared → Prop} {xs ys ds : List PyData} {scope : Scope} {fz xc : Option Str} {md : Md}

theorem tests_run {b : Bool} {nm : List (Str × NameKind)} {Q : Bool → Shared → Prop} {B : Wd} {s : Shared} {own : List Addr} {ρ : Loc} (S : Sta B nm n A fs env h₀ own ρ s) (ht : Tst B nm n ρ ifs b)
    (k : ∀ h' tk, s.toks ≤ tk → Stay (adr fs) [] s.heap h' → Sta B nm n A fs env h₀ own ρ { s with heap := h', toks := tk } → Q b { s with heap := h', toks := tk }) :
    wpAny (model B.prog B.w) A (forIn ifs true fun c r => if r = true then do let ok ← isTrue c env (eval c env); pure (ForInStep.yield ok) else pure (ForInStep.yield r)) Q E s := by
  rcases ht with ⟨rfl, rfl⟩ | ⟨c, rfl, hc⟩
  · exact wpAny_tests_nil (k s.heap s.toks (Nat.le_refl _) (.refl _ _ _) S)
  · exact wpAny_tests_one (hc.thenT S k)

theorem filter_take {p : PyData → Bool} {f : PyData → PyData} {i : Nat} {d : PyData} (h : ds[i]? = some d) : ((ds.take (i + 1)).filter p).map f = ((ds.take i).filter p).map f ++ (if p d then [f d] else []) := by
  rw [take_succ_filter p ds i d h, List.map_append]
  cases p d <;> simp

structure CompAt (B : Wd) (md : Md) (h₀ : Heap) (fs : List Env) (env' : Env) (own' wr : List Addr) (ρ : Loc) (fz : Option Str) (D C : Addr) (h H3 : Heap) (St' : Nat → Heap → Prop) (p : PyData → Bool) (f : PyData → PyData) (ds : List PyData) (T kk : Nat) (h' : Heap) (tk' : Nat) (ρ' : Loc) (i : Nat) (vs : Array Value) : Prop where
  toks : T ≤ tk'
  st : St' i h'
  sr : SR B h₀ fs env' own' ρ' h'
  inn : Inn ρ fz ρ'
  pl : h'.PlainList D vs
  rds : Rds B (md.P h₀ fs env'.locals own') h' vs.toList (((ds.take i).filter p).map f)
  stA : Stay (adr fs) [] h h'
  stB : Stay (adr fs) (D :: C :: (C + 1) :: wr) H3 h'
  le : i ≤ ds.length
  eq : kk = ds.length + 1 - i
theorem Md.cn {md : Md} {h₀ : Heap} {fs : List Env} {L : Addr} {own : List Addr} {b : Addr} (hmd : md = .C ∨ md = .N) : md.P h₀ fs L own b ↔ (b ∉ adr fs ∧ b ≠ L ∧ b ∉ own) ∧ (md = .N → h₀.get? b = none) := by
  rcases hmd with rfl | rfl
  · exact ⟨fun p => ⟨⟨p.1, p.2⟩, fun q => nomatch q⟩, fun p => ⟨p.1.1, p.1.2⟩⟩
  · exact ⟨fun p => ⟨⟨p.1, p.2.1⟩, fun _ => p.2.2⟩, fun p => ⟨p.1.1, p.1.2, p.2 rfl⟩⟩
theorem comp_core {use : Option (Value → Sem Unit)} {Q : Value → Shared → Prop} (S : Sta B nm n A fs env h₀ own ρ s) (ok : CompOk nm scope nm' fz xc) (hi : EvI B false nm n ρ iter ds) (hlen : ds.length ≤ 1000000) (hmd : md = .C ∨ md = .N)
    (hz : ∀ z, fz = some z → ∃ d, ρ z = some (.dat d)) (p : PyData → Bool) (f : PyData → PyData)
    (turn : ∀ d ρ', d ∈ ds → Inn ρ fz ρ' → ∃ ρ₁, AsZ B nm' n xc.toList target d ρ' ρ₁ ∧ Inn ρ fz ρ₁ ∧ Tst B nm' n ρ₁ ifs (p d) ∧ (p d = true → Ev B nm' n md ρ₁ elt (f d)))
    (hs : ∀ env x, foldedSetIterable iter env x = pure x)
    (k : ∀ h' tk C D vs m, s.toks ≤ tk → Stay (adr fs) [] s.heap h' → s.heap.get? D = none → s.heap.get? C = none → D ≠ C → h'.Ns C m → h'.PlainList D vs → Rds B (fun b => md.P h₀ fs env.locals own b ∧ b ≠ D ∧ b ≠ C) h' vs.toList ((ds.filter p).map f) →
      compPost B.M A E use Q (.ref D) C (.ok .next) { s with heap := h', toks := tk }) :
    wpAny B.M A (comprehension (.ListComp elt [⟨target, iter, ifs, 0⟩] scope pos) scope env cpos (newList []) false (eval iter env) use) Q E s := by
  obtain ⟨m₀, oa₀, hn₀, inj₀, sub₀, vars₀⟩ := S.sr.vars
  obtain ⟨cl, hclos, hcl0, hcl1⟩ : ∃ cl, closureFor scope env = pure cl ∧ (fz = none → cl = []) ∧ ∀ z, fz = some z → ∃ c v d, cl = [(z, c)] ∧ env.cells.lookup z = some c ∧ s.heap.IsCell c (some v) ∧ ρ z = some (.dat d) ∧ Rd B (Md.C.P h₀ fs env.locals own) s.heap v d := by
    cases hfz : fz with
    | none => exact ⟨[], ok.clos0 hfz env, fun _ => rfl, fun z e => nomatch e⟩
    | some z =>
      obtain ⟨d, hd⟩ := hz z hfz
      obtain ⟨k1, nd, k2, hc⟩ := ok.clos1 z hfz
      obtain ⟨v, V, r⟩ := vars₀ z _ hd
      rcases V with ⟨V, _⟩ | ⟨_, _, c, hcc, hic⟩
      · have := kind_of (x := z) (k := .local) S
        unfold Env.kindOf at V
        rw [S.sit.names] at V
        rcases k1 with k1 | k1 <;> · rw [k1] at V; cases V
      · exact ⟨[(z, c)], hc env c hcc, (fun e => nomatch e), fun z' e => by cases e; exact ⟨c, v, d, rfl, hcc, hic, hd, r⟩⟩
  refine wpAny_comprehension_free (g := ⟨target, iter, ifs, 0⟩) (gs := []) rfl (hs env) hclos ok.kind ok.names ?_
  refine no_raise (wpAny_mono (hi A fs env h₀ own s S) (fun xv s₁ h₁ => no_raise (wpAny_mono h₁ (fun it s₂ h₂ => ?_) fun _ _ x => x)) fun _ _ x => x)
  obtain ⟨hh, tk, rfl, t, st, J, fp, wr, P, St', rfl, W, hst, hfp, hwr, hwf, hit, hP⟩ := h₂
  have S₁ := S.grow st t
  refine wpAny_newObj_type (new_comp_env ?_)
  dsimp only
  generalize hD : hh.objs.size = D
  generalize hH1 : hh.push { cls := .type "list", data := .seq ([] : List Value).toArray } = H1
  generalize hC : H1.objs.size = C
  generalize hH2 : H1.push { cls := .type "dict", data := .dict #[] } = H2
  generalize hH3 : pushCells H2 scope.names = H3
  have eC : C = D + 1 := by rw [← hC, ← hH1, Heap.size_push, hD]
  have eH2 : H2.objs.size = C + 1 := by rw [← hH2, Heap.size_push, hC]
  have nD : hh.get? D = none := hD ▸ get_size hh
  have none_ge : ∀ b, D ≤ b → hh.get? b = none := fun b hb => by
    cases e : hh.get? b with
    | none => rfl
    | some o => exact absurd (Heap.lt_size e) (by rw [hD]; exact Nat.not_lt.mpr hb)
  have nC : hh.get? C = none := none_ge C (by omega)
  have nC1 : hh.get? (C + 1) = none := none_ge _ (by omega)
  have ne_of : ∀ b c o, hh.get? c = none → hh.get? b = some o → b ≠ c := fun b c o e1 e2 q => by rw [q, e1] at e2; cases e2
  have k23 : ∀ b o, H2.get? b = some o → H3.get? b = some o := fun b o e => hH3 ▸ pushCells_keeps _ _ b o e
  have k12 : ∀ b o, H1.get? b = some o → H2.get? b = some o := fun b o e => hH2 ▸ Heap.get?_push_of_some _ e
  have old : ∀ b o, hh.get? b = some o → H3.get? b = some o := fun b o e => k23 b o (k12 b o (hH1 ▸ Heap.get?_push_of_some _ e))
  have hpD : H3.PlainList D #[] := ⟨0, k23 _ _ (k12 _ _ (by rw [← hH1, ← hD]; exact Heap.get?_push_size _ rfl))⟩
  have hnC : H3.Ns C (fun _ => none) := by
    have := (Heap.Ns.new H1 (.type "dict"))
    rw [hH2, hC] at this
    exact this.keeps k23
  have hwrO : ∀ b ∈ wr, b ∉ own ∧ b ≠ env.locals ∧ B.base.get? b = none ∧ h₀.get? b = none ∧ b ∉ adr fs := fun b hb => by
    have f := S.sr.freshO (hwr b hb)
    have g := S.sr.fresh .C (hwr b hb)
    exact ⟨g.2.2, g.2.1, f.1, f.2.1, g.1⟩
  have fo : ∀ b, hh.get? b = none → B.base.get? b = none ∧ h₀.get? b = none ∧ b ≠ env.locals ∧ b ∉ adr fs ∧ b ∉ own := fun b e => by
    have f := S₁.sr.freshO e
    exact ⟨f.1, f.2.1, f.2.2.1, f.2.2.2, (S₁.sr.fresh .C e).2.2⟩
  obtain ⟨own', ho'⟩ : ∃ own' : List Addr, ∀ a, a ∈ own' ↔ (a = D ∨ (xc.isSome = true ∧ a = C + 1) ∨ (a = env.locals ∧ env.locals ∉ adr fs) ∨ a ∈ own) := by
    refine ⟨[D] ++ ((if xc.isSome = true then [C + 1] else []) ++ ((if env.locals ∉ adr fs then [env.locals] else []) ++ own)), fun a => ?_⟩
    by_cases q1 : xc.isSome = true <;> by_cases q2 : env.locals ∉ adr fs <;> simp [q1, q2]
  generalize hE' : ({ (newEnv scope C env.globals (cellsFrom (C + 1) scope.names cl) env.qual none .none (some env) builtinsNs) with scope := relabel scope env } : Env) = env'
  have eL' : env'.locals = C := by rw [← hE']; rfl
  have eN' : env'.scope.names = nm' := by rw [← hE']; exact ok.rel env S.sit.kind S.sit.names
  have eK' : env'.scope.kind = .function := by rw [← hE']; exact ok.kind
  have eg' : env'.globals = mainGlobals := by rw [← hE']; exact S.sit.globals
  have eb' : env'.builtins = builtinsNs := by rw [← hE']; exact S.sit.builtins
  have eC' : env'.cells = cellsFrom (C + 1) scope.names cl := by rw [← hE']; rfl
  -- the cells
  have hclm : ∀ p ∈ cl, p.2 ∈ own ∧ ∃ v, hh.IsCell p.2 v := fun p hp => by
    cases hfz : fz with
    | none => rw [hcl0 hfz] at hp; cases hp
    | some z =>
      obtain ⟨c, v, d, e1, e2, e3, _⟩ := hcl1 z hfz
      rw [e1] at hp
      rw [List.mem_singleton.mp hp]
      have hm : (z, c) ∈ env.cells := mem_of_lookup e2
      have := S₁.sr.cellish.1 _ hm
      exact ⟨S.sr.cells _ hm, this⟩
  have hcl1' : ∀ p ∈ cl, ∀ q ∈ cl, p.2 = q.2 → p.1 = q.1 := fun p hp q hq e => by
    cases hfz : fz with
    | none => rw [hcl0 hfz] at hp; cases hp
    | some z =>
      obtain ⟨c, v, d, e1, _⟩ := hcl1 z hfz
      rw [e1] at hp hq
      rw [List.mem_singleton.mp hp, List.mem_singleton.mp hq]
  have cellsC : ∀ p ∈ env'.cells, p ∈ cl ∨ (∃ x, xc = some x ∧ p = (x, C + 1)) := fun p hp => by
    rw [eC'] at hp
    cases hxc : xc with
    | none => rw [(ok.cel0 hxc).2] at hp; exact .inl hp
    | some x =>
      rw [(ok.cel1 x hxc).2.2.2] at hp
      rcases List.mem_cons.mp hp with e | e
      · exact .inr ⟨x, rfl, e⟩
      · exact .inl e
  have hcC1 : xc.isSome = true → H3.IsCell (C + 1) none := fun q => by
    obtain ⟨x, hx⟩ := Option.isSome_iff_exists.mp q
    have := (ok.cel1 x hx).2.2.1 H2
    rw [← hH3, this, ← eH2]
    exact ⟨_, Heap.get?_push_size _ rfl, rfl⟩
  have upC : ∀ b o, Md.C.P h₀ fs env.locals own b → hh.get? b = some o → Md.C.P h₀ fs env'.locals own' b := fun b o p e => by
    refine ⟨p.1, by rw [eL']; exact ne_of b C o nC e, fun q => ?_⟩
    rcases (ho' b).mp q with q | ⟨_, q⟩ | ⟨q, _⟩ | q
    · exact ne_of b D o nD e q
    · exact ne_of b _ o nC1 e q
    · exact p.2.1 q
    · exact p.2.2 q
  have downP : ∀ b, md.P h₀ fs env'.locals own' b → md.P h₀ fs env.locals own b ∧ b ≠ D ∧ b ≠ C := fun b p => by
    have go : b ∉ adr fs → b ≠ env'.locals → b ∉ own' → (b ≠ env.locals ∧ b ∉ own) ∧ b ≠ D ∧ b ≠ C := fun a1 a2 a3 => by
      refine ⟨⟨fun q => ?_, fun q => a3 ((ho' b).mpr (.inr (.inr (.inr q))))⟩, fun q => a3 ((ho' b).mpr (.inl q)), by rw [← eL']; exact a2⟩
      exact a3 ((ho' b).mpr (.inr (.inr (.inl ⟨q, q ▸ a1⟩))))
    have p' := (Md.cn hmd).mp p
    have g := go p'.1.1 p'.1.2.1 p'.1.2.2
    exact ⟨(Md.cn hmd).mpr ⟨⟨p'.1.1, g.1⟩, p'.2⟩, g.2⟩
  have mdC : ∀ b, md.P h₀ fs env'.locals own' b → b ∉ adr fs ∧ b ≠ env'.locals ∧ b ∉ own' := fun b p => by
    exact ((Md.cn hmd).mp p).1
  have R₀ : SR B h₀ fs env' own' (inn0 ρ fz) H3 := by
    refine ⟨fun b o e => old b o (S₁.sr.stays b o e), S₁.sr.frames.of_keeps fun b o e _ => ⟨o, old b o e, rfl⟩, S₁.sr.kept.tr (.of_all old), fun a ha => ?_, ⟨by rw [eL']; exact (fo C nC).1, by rw [eL']; exact (fo C nC).2.1⟩, fun p hp => ?_, ⟨fun p hp => ?_, fun p hp q hq e => ?_⟩,
      _, fun _ => none, (by rw [eL']; exact hnC), fun _ _ _ e => (nomatch e), fun _ _ e => (nomatch e), fun y lv e => ?_⟩
    · rcases (ho' a).mp ha with q | ⟨q', q⟩ | ⟨q, q'⟩ | q
      · rw [q]; obtain ⟨k1, e1⟩ := id hpD
        exact ⟨⟨_, e1⟩, (fo _ nD).1, (fo _ nD).2.1, by rw [eL', eC]; exact Nat.ne_of_lt (Nat.lt_succ_self _), (fo _ nD).2.2.2.1⟩
      · rw [q]; obtain ⟨o, e1, _⟩ := hcC1 q'
        exact ⟨⟨_, e1⟩, (fo _ nC1).1, (fo _ nC1).2.1, by rw [eL']; exact Nat.ne_of_gt (Nat.lt_succ_self _), (fo _ nC1).2.2.2.1⟩
      · rw [q]; obtain ⟨o, e1⟩ := S₁.sr.loc_live
        exact ⟨⟨_, old _ o e1⟩, S.sr.loc.1, S.sr.loc.2, by rw [eL']; exact ne_of _ C o nC e1, q'⟩
      · obtain ⟨⟨o, e1⟩, b1, b2, b3, b4⟩ := S₁.sr.owns a q
        exact ⟨⟨o, old a o e1⟩, b1, b2, by rw [eL']; exact ne_of _ C o nC e1, b4⟩
    · rcases cellsC p hp with q | ⟨x, q1, q2⟩
      · exact (ho' _).mpr (.inr (.inr (.inr (hclm p q).1)))
      · rw [q2]; exact (ho' _).mpr (.inr (.inl ⟨by rw [q1]; rfl, rfl⟩))
    · rcases cellsC p hp with q | ⟨x, q1, q2⟩
      · obtain ⟨v, o, e, d⟩ := (hclm p q).2; exact ⟨v, o, old _ o e, d⟩
      · rw [q2]; exact ⟨none, hcC1 (by rw [q1]; rfl)⟩
    · rcases cellsC p hp with p1 | ⟨x, p1, p2⟩ <;> rcases cellsC q hq with q1 | ⟨x', q1, q2⟩
      · exact hcl1' p p1 q q1 e
      · obtain ⟨v, o, e', d⟩ := (hclm p p1).2
        rw [q2] at e; rw [e, nC1] at e'; cases e'
      · obtain ⟨v, o, e', d⟩ := (hclm q q1).2
        rw [p2] at e; rw [← e, nC1] at e'; cases e'
      · rw [p1] at q1; cases q1; rw [p2, q2]
    · unfold inn0 at e
      by_cases q : fz = some y
      · rw [if_pos q] at e
        obtain ⟨c, v, d, e1, e2, e3, e4, e5⟩ := hcl1 y q
        rw [e4] at e; cases e
        obtain ⟨_, nd, k2, _⟩ := ok.clos1 y q
        have hic : H3.IsCell c (some v) := by
          obtain ⟨o, ho, hdd⟩ := e3
          exact ⟨o, old c o (st.keep c o (S.sr.owns c (S.sr.cells _ (mem_of_lookup e2))).2.2.2.2 (fun q => nomatch q) ho), hdd⟩
        refine ⟨v, .inr ⟨?_, nd, c, ?_, hic⟩, (e5.grow st).up (fun b o _ e => old b o e) upC⟩
        · unfold Env.kindOf; rw [eN']; exact k2
        · rw [eC']
          cases hxc : xc with
          | none => rw [(ok.cel0 hxc).2, e1]; simp
          | some x =>
            rw [(ok.cel1 x hxc).2.2.2, e1]
            have : (y == x) = false := by
              rw [beq_eq_false_iff_ne]; intro z; exact (ok.cel1 x hxc).1 (by rw [← z]; exact q)
            simp [List.lookup_cons, this]
      · rw [if_neg q] at e; cases e
  have sit' : Sit nm' n A fs env' := ⟨eK', eN', eg', eb', S.sit.handled, S.sit.frames, S.sit.depth, S.sit.units, fun q => (ok.dot q).elim, fun q => (ok.dot q).elim⟩
  have zc : ∀ z ∈ xc.toList, env'.cells.lookup z = some (C + 1) := fun z hz' => by
    cases hxc : xc with
    | none => rw [hxc] at hz'; cases hz'
    | some x => rw [hxc] at hz'; rw [eC', (ok.cel1 x hxc).2.2.2, List.mem_singleton.mp hz']; simp
  have hfpN : ∀ b ∈ fp, b ≠ C ∧ b ≠ D ∧ b ≠ C + 1 := fun b hb => by
    obtain ⟨_, _, _, o, e⟩ := hfp b hb
    exact ⟨ne_of _ _ o nC e, ne_of _ _ o nD e, ne_of _ _ o nC1 e⟩
  have wrO : ∀ b ∈ wr, b ∉ own' := fun b hb q => by
    obtain ⟨f1, f2, f3⟩ := hfpN b (W.sub b hb)
    rcases (ho' b).mp q with q | ⟨_, q⟩ | ⟨q, _⟩ | q
    · exact f2 q
    · exact f3 q
    · exact (hwrO b hb).2.1 q
    · exact (hwrO b hb).1 q
  have nw0 : ∀ b o, s.heap.get? b = some o → b ∉ wr := fun b o e q => by rw [hwr b q] at e; cases e
  have noS : ∀ a, a ∈ D :: C :: (C + 1) :: wr → s.heap.get? a = none := fun a ha => by
    rcases List.mem_cons.mp ha with q | ha
    · rw [q]; exact not_before st nD
    · rcases List.mem_cons.mp ha with q | ha
      · rw [q]; exact not_before st nC
      · rcases List.mem_cons.mp ha with q | ha
        · rw [q]; exact not_before st nC1
        · exact hwr a ha
  have toA : ∀ {h'' : Heap}, Stay (adr fs) (D :: C :: (C + 1) :: wr) H3 h'' → Stay (adr fs) [] s.heap h'' := fun x => (st.tr (.of_all old)).trans x fun a ha => .inr (noS a ha)
  have loop : codeAny B.M A (.compLoop (.ListComp elt [⟨target, iter, ifs, 0⟩] scope pos) 0 (.ref J) (.ref D) env') (compPost B.M A E use Q (.ref D) C) { s with heap := H3, toks := tk } := by
    refine comp_loop (fun kk s' => ∃ h' tk' ρ' i vs, s' = { s with heap := h', toks := tk' } ∧ CompAt B md h₀ fs env' own' wr ρ fz D C s.heap H3 St' p f ds s.toks kk h' tk' ρ' i vs) ?_ (ds.length + 1)
      ⟨H3, tk, inn0 ρ fz, 0, #[], rfl, t, W.frame _ _ _ hst (fun b _ o e => old b o e), R₀, ⟨fun y lv e => ?_, fun z e => ?_⟩, hpD, .nil, st.tr (.of_all old), .refl _ _ _, Nat.zero_le _, rfl⟩
    · rintro kk s' ⟨h', tk', ρ', i, vs, rfl, t', hst', R, hI, hpl, hr, stA, stB, hi', rfl⟩
      have stepSR : ∀ h₁ : Heap, (∀ b o, b ∉ wr → h'.get? b = some o → h₁.get? b = some o) → SR B h₀ fs env' own' ρ' h₁ := fun h₁ k₁ =>
        R.iter k₁ fun b hb => ⟨hwf i h' hst' b hb, (hwrO b hb).2.2.1, (hwrO b hb).2.2.2.1, wrO b hb, (hwrO b hb).2.2.2.2⟩
      have Dw : D ∉ wr := fun q => (hfpN D (W.sub D q)).2.1 rfl
      by_cases hlt : i < ds.length
      · refine toks_up (W.item i _ _ _ hlt hst' fun v h₁ tk₁ hPv hst₁ hk₁ ht₁ => ?_)
        have S₂ : Sta B nm' n A fs env' h₀ own' ρ' { s with heap := h₁, toks := tk₁ } := ⟨S.ok, sit', stepSR h₁ hk₁, Nat.le_trans S.tok (Nat.le_trans t' ht₁)⟩
        have lw : ∀ b ∈ wr, ∃ o, h₁.get? b = some o := fun b hb => let ⟨o, _, e, _⟩ := hwf _ _ hst₁ b hb; ⟨o, e⟩
        obtain ⟨d, ed, rd⟩ := hP i v hPv
        obtain ⟨ρ₁, ht, hI₁, hT, hEl⟩ := turn d ρ' (List.mem_of_getElem? ed) hI
        obtain ⟨o, nn, vs', e1, e2, e3, e4⟩ := hit (i + 1) h₁ hst₁
        have rd' : Rd B (Md.C.P h₀ fs env'.locals own') h₁ v d := by
          refine rd.upN (fun b o p e nf => ?_) fun b o p e nf => upC b o p e
          have nw : b ∉ wr := fun q => by
            obtain ⟨o', us, e', dd⟩ := hwf 0 hh hst b q
            rw [e] at e'; cases e'; exact nf us dd
          refine hk₁ b o nw (stB.keep b o p.1 (fun q => ?_) (old b o e))
          rcases List.mem_cons.mp q with q | q
          · exact ne_of b D o nD e q
          · rcases List.mem_cons.mp q with q | q
            · exact ne_of b C o nC e q
            · rcases List.mem_cons.mp q with q | q
              · exact ne_of b _ o nC1 e q
              · exact nw q
        refine go_plain (s := { s with heap := h₁, toks := tk₁ }) e1 e2 e3 e4 ?_
        refine ht A fs env' h₀ own' _ v _ _ S₂ (fun z hz => ⟨_, zc z hz⟩) rd' fun h₂ tk₂ S₃ st₂ k₂ t₂ => ?_
        have nz : ∀ b, b ≠ C + 1 → ∀ z ∈ xc.toList, env'.cells.lookup z ≠ some b := fun b nb z hz e => by rw [zc z hz] at e; exact nb (Option.some.inj e).symm
        have hDC : D ≠ C := by rw [eC]; exact Nat.ne_of_lt (Nat.lt_succ_self _)
        have hDC1 : D ≠ C + 1 := by rw [eC]; exact Nat.ne_of_lt (Nat.lt_succ_of_lt (Nat.lt_succ_self _))
        have pl₂ : h₂.PlainList D vs := by
          obtain ⟨k1, e1⟩ := hpl
          exact ⟨k1, k₂ _ _ (by rw [eL']; exact hDC) (nz D hDC1) (hk₁ _ _ Dw e1)⟩
        have stI : Stay (adr fs) wr h' h₁ := ⟨fun b o _ w e => hk₁ b o w e, fun b o w e => ⟨o.slots, hk₁ b o w e⟩, fun b o e => by
          by_cases q : b ∈ wr
          · exact lw b q
          · exact ⟨o, hk₁ b o q e⟩⟩
        have st₂' : Stay (adr fs) [C, C + 1] h₁ h₂ := ⟨fun b o _ w e => k₂ b o (by rw [eL']; exact fun q => w (by simp [q])) (nz b fun q => w (by simp [q])) e, fun b o w e => ⟨o.slots, k₂ b o (by rw [eL']; exact fun q => w (by simp [q])) (nz b fun q => w (by simp [q])) e⟩, st₂.live⟩
        have hr₂ : Rds B (md.P h₀ fs env'.locals own') h₂ vs.toList (((ds.take i).filter p).map f) := by
          refine (hr.upN (P' := md.P h₀ fs env'.locals own') (h' := h₁) (fun b o p e nf => hk₁ b o (fun q => ?_) e) fun _ _ p _ _ => p).up (fun b o p e => st₂.keep b o (mdC b p).1 (fun q => ?_) e) fun _ _ p _ => p
          · obtain ⟨o', us, e', dd⟩ := hwf i h' hst' b q
            rw [e] at e'; cases e'; exact nf us dd
          · rcases List.mem_cons.mp q with q | q
            · exact (mdC b p).2.1 q
            · exact (mdC b p).2.2 q
        have st2B : Stay (adr fs) (D :: C :: (C + 1) :: wr) H3 h₂ := (stB.trans stI fun a ha => .inl (.tail _ (.tail _ (.tail _ ha)))).trans st₂' fun a ha => .inl (by
          rcases List.mem_cons.mp ha with q | q
          · rw [q]; exact .tail _ (.head _)
          · rw [List.mem_singleton.mp q]; exact .tail _ (.tail _ (.head _)))
        have keepF : ∀ b ∈ fp, ∀ o, h₁.get? b = some o → h₂.get? b = some o := fun b hb o e => k₂ b o (by rw [eL']; exact (hfpN b hb).1) (nz b (hfpN b hb).2.2) e
        refine tests_run S₃ hT fun h₃ tk₃ t₃ st₃ S₄ => ?_
        have pl₃ : h₃.PlainList D vs := plainList_keep pl₂ fun o e => st₃.keep D o (fo D nD).2.2.2.1 (fun q => nomatch q) e
        have hr₃ := hr₂.grow st₃
        have st3B : Stay (adr fs) (D :: C :: (C + 1) :: wr) H3 h₃ := st2B.trans st₃ fun _ q => nomatch q
        show if p d = true then _ else _
        cases hp : p d with
        | false =>
          rw [if_neg (by decide)]
          refine ⟨ds.length + 1 - (i + 1), by omega, h₃, tk₃, ρ₁, i + 1, vs, rfl, Nat.le_trans t' (Nat.le_trans ht₁ (Nat.le_trans t₂ t₃)), W.frame _ _ _ hst₁ (fun b hb o e => st₃.keep b o (hfp b hb).2.2.1 (fun q => nomatch q) (keepF b hb o e)), S₄.sr, hI₁, pl₃, ?_, toA st3B, st3B, hlt, rfl⟩
          rw [filter_take ed, hp]
          simpa using hr₃
        | true =>
          rw [if_pos rfl]
          refine (hEl hp).thenT S₄ fun v' h₄ tk₄ t₄ st₄ S₅ rv => ?_
          have pl₄ : h₄.PlainList D vs := plainList_keep pl₃ fun o e => st₄.keep D o (fo D nD).2.2.2.1 (fun q => nomatch q) e
          have hsz : vs.size ≤ 1000000 := by
            have := hr.length
            rw [List.length_map] at this
            have l1 := List.length_filter_le p (ds.take i)
            have l2 := List.length_take_le i ds
            rw [Array.length_toList] at this
            have l3 : (ds.take i).length ≤ ds.length := by rw [List.length_take]; omega
            omega
          refine wpAny_list_append_plain (s := { s with heap := h₄, toks := tk₄ }) pl₄ (fun h₅ hp₅ hs₅ => ?_) (by rw [sizeLine_eq]; omega)
          have kD : ∀ b o, b ≠ D → h₄.get? b = some o → h₅.get? b = some o := fun b o nb e => (hs₅.2 b nb).trans e
          have Dm : D ∈ own' := (ho' D).mpr (.inl rfl)
          have st₅ : Stay (adr fs) [D] h₄ h₅ := ⟨fun b o _ w e => kD b o (fun q => w (by simp [q])) e, fun b o w e => ⟨o.slots, kD b o (fun q => w (by simp [q])) e⟩, fun b o e => by
            by_cases q : b = D
            · obtain ⟨k1, e1⟩ := hp₅; exact ⟨_, q ▸ e1⟩
            · exact ⟨o, kD b o q e⟩⟩
          have st5B : Stay (adr fs) (D :: C :: (C + 1) :: wr) H3 h₅ := (st3B.trans st₄ fun _ q => nomatch q).trans st₅ fun a ha => .inl (by rw [List.mem_singleton.mp ha]; exact .head _)
          refine ⟨ds.length + 1 - (i + 1), by omega, h₅, _, ρ₁, i + 1, _, rfl, Nat.le_trans t' (Nat.le_trans ht₁ (Nat.le_trans t₂ (Nat.le_trans t₃ t₄))), W.frame _ _ _ hst₁ (fun b hb o e => kD b o (hfpN b hb).2.1 (st₄.keep b o (hfp b hb).2.2.1 (fun q => nomatch q) (st₃.keep b o (hfp b hb).2.2.1 (fun q => nomatch q) (keepF b hb o e)))), S₅.sr.free_change hI₁.1 Dm hs₅ pl₄ hp₅, hI₁, hp₅, ?_, toA st5B, st5B, hlt, rfl⟩
          rw [filter_take ed, hp]
          simp only [if_true, Array.toList_push]
          exact ((hr₃.grow st₄).snoc rv).up (fun b o p e => kD b o (fun q => (mdC b p).2.2 (q ▸ Dm)) e) fun _ _ p _ => p
      · have hin : i = ds.length := by omega
        subst hin
        refine toks_up (W.done _ _ _ hst' fun h₁ tk₁ hk₁ ht₁ => ?_)
        have R₁ := stepSR h₁ hk₁
        obtain ⟨m₁, hm₁⟩ := R₁.ns
        rw [eL'] at hm₁
        have stF : Stay (adr fs) [] s.heap h₁ := ⟨fun b o f w e => hk₁ b o (nw0 b o e) (stA.keep b o f w e), fun b o w e => let ⟨sl, e'⟩ := stA.slot b o w e; ⟨sl, hk₁ b _ (nw0 b o e) e'⟩, fun b o e => let ⟨o', e'⟩ := stA.live b o e; ⟨o', hk₁ b _ (nw0 b o e) e'⟩⟩
        · refine k h₁ tk₁ C D vs m₁ (Nat.le_trans t' ht₁) stF (not_before st nD) (not_before st nC) (by rw [eC]; exact Nat.ne_of_lt (Nat.lt_succ_self _)) hm₁ (plainList_keep hpl fun o e => hk₁ D o Dw e) ?_
          rw [List.take_length] at hr
          refine hr.upN (fun b o p e nf => hk₁ b o (fun q => ?_) e) fun b _ p _ _ => downP b p
          obtain ⟨o', us, e', dd⟩ := hwf _ h' hst' b q
          rw [e] at e'; cases e'; exact nf us dd
    · unfold inn0 at e
      by_cases q : fz = some y
      · rw [if_pos q] at e
        obtain ⟨d, hd⟩ := hz y q
        rw [hd] at e; cases e; exact ⟨d, rfl⟩
      · rw [if_neg q] at e; cases e
    · unfold inn0; rw [if_pos e]
  have key : ({ (newEnv scope C env.globals (cellsFrom (C + 1) scope.names cl) env.qual none .none (some env) builtinsNs) with scope := relabel scope env } : Env).locals = C := rfl
  exact codeAny_compStart_list loop (W.self 0 _ _ _ (W.frame _ _ _ hst (fun b _ o e => old b o e)) loop)
end
end Mine
end

section
set_option maxRecDepth 100000
namespace Mine

section
variable {B : Wd} {X : String → Prop} {nm nm' : List (Str × NameKind)} {n : Nat} {ρ ρ' : Loc} {Q : Fl → Loc → Prop} {fs : List Env} {env : Env} {h₀ : Heap} {own : List Addr} {s : Shared} {A : Around} {d : PyData} {x y z f : Str} {e e1 e2 e3 elt target iter : Expr} {es ifs : List Expr} {pos px cpos p : Pos} {E : Value → Shared → Prop} {xs ys ds : List PyData} {scope : Scope} {fz xc : Option Str} {md : Md}

theorem evg_comp (ok : CompOk nm scope nm' fz xc) (hi : EvI B false nm n ρ iter ds) (hlen : ds.length ≤ 1000000) (hmd : md = .C ∨ md = .N)
    (hz : ∀ z, fz = some z → ∃ d, ρ z = some (.dat d)) (p : PyData → Bool) (g : PyData → PyData)
    (turn : ∀ d ρ', d ∈ ds → Inn ρ fz ρ' → ∃ ρ₁, AsZ B nm' n xc.toList target d ρ' ρ₁ ∧ Inn ρ fz ρ₁ ∧ Tst B nm' n ρ₁ ifs (p d) ∧ (p d = true → Ev B nm' n md ρ₁ elt (g d)))
    (hs : ∀ env x, foldedSetIterable iter env x = pure x := by intro _ _; rfl) : EvG B nm n md ρ (.ListComp elt [⟨target, iter, ifs, 0⟩] scope pos) ((ds.filter p).map g) := fun A fs env h₀ own s S => by
  rw [eval_ListComp]
  refine comp_core (use := none) S ok hi hlen hmd hz p g turn hs fun h' tk C D vs m t st nD nC ne hm hp hr => ⟨m, hm, fun h'' hsb => ?_⟩
  have kb : ∀ b o, b ≠ C → h'.get? b = some o → h''.get? b = some o := fun b o nb e => (hsb.2 b nb).trans e
  have nb : ∀ b o, s.heap.get? b = some o → b ≠ C := fun b o e q => by rw [q, nC] at e; cases e
  refine ⟨h'', tk, D, vs, rfl, ⟨fun b o f w e => kb b o (nb b o e) (st.keep b o f w e), fun b o w e => let ⟨sl, e'⟩ := st.slot b o w e; ⟨sl, kb b _ (nb b o e) e'⟩, fun b o e => let ⟨o', e'⟩ := st.live b o e; ⟨o', kb b _ (nb b o e) e'⟩⟩, rfl, nD,
    plainList_keep hp fun o e => kb D o ne e, hr.up (fun b o p e => kb b o p.2.2 e) fun b o p _ => ⟨p.1, p.2.1⟩⟩

theorem ns_unique {h : Heap} {L : Addr} {m m₂ : Str → Option Value} (hns : h.Ns L m) (hn₂ : h.Ns L m₂) : m₂ = m := by
  funext y
  obtain ⟨o, es, ep, e, dd, _, f⟩ := hns
  obtain ⟨o', es', ep', e', dd', _, f'⟩ := hn₂
  rw [e] at e'; cases e'; rw [dd] at dd'; cases dd'
  rw [← f, ← f']

/-- x = [...], where the machine keeps the list before it lets the variables go -/
theorem ex_comp (ok : CompOk nm scope nm' fz xc) (hi : EvI B false nm n ρ iter ds) (hlen : ds.length ≤ 1000000) (hmd : md = .C ∨ md = .N)
    (hz : ∀ z, fz = some z → ∃ d, ρ z = some (.dat d)) (p : PyData → Bool) (g : PyData → PyData)
    (turn : ∀ d ρ', d ∈ ds → Inn ρ fz ρ' → ∃ ρ₁, AsZ B nm' n xc.toList target d ρ' ρ₁ ∧ Inn ρ fz ρ₁ ∧ Tst B nm' n ρ₁ ifs (p d) ∧ (p d = true → Ev B nm' n md ρ₁ elt (g d)))
    (hx : nm.lookup x = some .local) (q : Q .next (put x (.dat (.list ((ds.filter p).map g))) ρ))
    (hsw : ∀ env : Env, env.scope.kind = .function → env.scope.names = nm → swapsWith (.ListComp elt [⟨target, iter, ifs, 0⟩] scope pos) (some (.Name x px)) cpos.line env = pure true)
    (hs : ∀ env x, foldedSetIterable iter env x = pure x := by intro _ _; rfl) : Ex1 B X nm n ρ (.Assign [.Name x px] (.ListComp elt [⟨target, iter, ifs, 0⟩] scope pos) cpos) Q := fun A fs env h₀ own s E S ac => by
  rw [exec_Assign_Name_used _ _ _ _ (hsw env S.sit.kind S.sit.names)]
  refine wpAny_bind (wpAny_standAt (wpAny_bind ?_))
  show wpAny B.M A (do let _ ← comprehension (.ListComp elt [⟨target, iter, ifs, 0⟩] scope pos) scope env (firstIterPos [⟨target, iter, ifs, 0⟩] pos) (newList []) false (eval iter env) (some (assign (.Name x px) env))) _ E s
  refine wpAny_bind (comp_core (use := some _) S ok hi hlen hmd hz p g turn hs fun h' tk C D vs m t st nD nC ne hm hp hr => ?_)
  obtain ⟨mL, hL⟩ := (S.sr.grow st).ns
  have hLl : ∃ o, s.heap.get? env.locals = some o := S.sr.loc_live
  have nCL : C ≠ env.locals := fun q => by obtain ⟨o, e⟩ := hLl; rw [← q, nC] at e; cases e
  have nDL : D ≠ env.locals := fun q => by obtain ⟨o, e⟩ := hLl; rw [← q, nD] at e; cases e
  show wpAny B.M A (assign (.Name x px) env (.ref D)) _ E _
  refine wpAny_assign_Name (wpAny_storeName_local (s := { s with heap := h', toks := tk }) (kind_of S hx) hL (fun h₁ hn₁ hs₁ => ⟨m, hm.sameBut hs₁ nCL, fun h₂ hs₂ => wpAny_pure (wpAny_pure ?_)⟩) (notClass S))
  obtain ⟨oL, esL, epL, eL, dL, rL⟩ := id hL
  obtain ⟨oL2, _, _, eL2, _⟩ := id hn₁
  have eL3 : h₂.get? env.locals = some oL2 := (hs₂.2 _ (Ne.symm nCL)).trans eL2
  have fr : oL.isFreed = false := (Heap.get?_some_iff.mp eL).2
  have k1 : ∀ b o, b ≠ env.locals → b ≠ C → h'.get? b = some o → h₂.get? b = some o := fun b o nb nc e => (hs₂.2 b nc).trans ((hs₁.2 b nb).trans e)
  generalize hg : h₂.update env.locals (fun _ => oL) = gg
  have gL : gg.get? env.locals = some oL := by rw [← hg]; exact Heap.get?_update_self _ eL3 fr
  have gO : ∀ b, b ≠ env.locals → gg.get? b = h₂.get? b := fun b nb => by rw [← hg]; exact Heap.get?_update_other _ _ (Ne.symm nb)
  have k2 : ∀ b o, b ≠ C → h'.get? b = some o → gg.get? b = some o := fun b o nc e => by
    by_cases q : b = env.locals
    · rw [q] at e ⊢; rw [eL] at e; rw [gL]; exact e
    · rw [gO b q]; exact k1 b o q nc e
  have nbC : ∀ b o, s.heap.get? b = some o → b ≠ C := fun b o e q => by rw [q, nC] at e; cases e
  have stG : Stay (adr fs) [] s.heap gg := ⟨fun b o f w e => k2 b o (nbC b o e) (st.keep b o f w e), fun b o w e => let ⟨sl, e'⟩ := st.slot b o w e; ⟨sl, k2 b _ (nbC b o e) e'⟩, fun b o e => let ⟨o', e'⟩ := st.live b o e; ⟨o', k2 b _ (nbC b o e) e'⟩⟩
  have hrC : Rds B (Md.C.P h₀ fs env.locals own) gg vs.toList ((ds.filter p).map g) := hr.up (fun b o p e => k2 b o p.2.2 e) fun b o p _ => by
    rcases hmd with rfl | rfl
    · exact p.1
    · exact ⟨p.1.1, p.1.2.1⟩
  have rD : Rd B (Md.C.P h₀ fs env.locals own) gg (.ref D) (.list ((ds.filter p).map g)) := .list (S.sr.fresh .C nD) (plainList_keep hp fun o e => k2 D o ne e).isList hrC
  have sb : Heap.SameBut env.locals gg h₂ := by
    have q := Heap.SameBut.update h₂ env.locals (fun _ => oL)
    rw [← hg]; exact ⟨q.1.symm, fun b nb => (q.2 b nb).symm⟩
  have R : SR B h₀ fs env own (put x (.dat (.list ((ds.filter p).map g))) ρ) h₂ := (S.sr.grow stG).put_dat rD (kind_of S hx) (fun m₂ hn₂ => by
    have : m₂ = mL := ns_unique (h := h') hL (by obtain ⟨o, es, ep, e, r⟩ := hn₂; rw [gL] at e; cases e; exact ⟨oL, es, ep, eL, r⟩)
    rw [this]; exact hn₁.sameBut hs₂ (Ne.symm nCL)) sb
  have kf : Stay (adr fs) (env.locals :: own) s.heap h₂ := ⟨fun b o f w e => k1 b o (fun q => w (by simp [q])) (nbC b o e) (st.keep b o f (fun q => nomatch q) e), fun b o w e => let ⟨sl, e'⟩ := st.slot b o (fun q => nomatch q) e; ⟨sl, k1 b _ (fun q => w (by simp [q])) (nbC b o e) e'⟩, fun b o e => by
    by_cases q : b = env.locals
    · exact ⟨_, q ▸ eL3⟩
    · obtain ⟨o', e'⟩ := st.live b o e; exact ⟨o', k1 b _ q (nbC b o e) e'⟩⟩
  exact ⟨.next, _, own, h₂, _, rfl, Nat.le_succ_of_le t, q, kf, fun _ h => .inl h, R, trivial⟩

theorem walks_lt {prog : Program} {w : World} {I : Addr} {fp wr : List Addr} {N : Nat} {P : Nat → Value → Prop} {St : Nat → Heap → Prop} (W : Walks prog w A I fp wr N P St) : Walks prog w A I fp wr N (fun i v => i < N ∧ P i v) St :=
  ⟨W.sub, W.frame, fun i s Q E hi st hQ => W.item i s Q E hi st fun v h' tk p => hQ v h' tk ⟨hi, p⟩, W.done, W.self⟩

/-- a range at hand -/
theorem src_range {h' : Heap} {tk : Nat} {r : Addr} {a b c : Int} {t u v : Tok} {N : Nat} (S : Sta B nm n A fs env h₀ own ρ s) (st : Stay (adr fs) [] s.heap h') (ht : s.toks ≤ tk) (hr : IsRange h' r a b c t u v) (hsm : Builtin.Range.small a b c = true) (hN : Builtin.Range.rangeSize a b c = N) :
    wpAny B.M A (pyIter (.ref r)) (fun it s₂ => ∃ h'' tk', s₂ = { s with heap := h'', toks := tk' } ∧ s.toks ≤ tk' ∧ Stay (adr fs) [] s.heap h'' ∧ Src B true A fs env h₀ own s.heap h'' it ((List.range N).map fun i => PyData.int (a + (i : Nat) * c))) (fun _ _ => False) { s with heap := h', toks := tk } := by
  refine wpAny_pyIter_range (s := { s with heap := h', toks := tk }) hr hsm ?_
  rw [hN]
  have S' := S.grow st ht
  have fr := S'.sr.fresh .N (get_size h')
  refine ⟨_, tk, rfl, ht, st.tr (.push _ _ _ _), h'.objs.size, [h'.objs.size], [h'.objs.size], fun i v => i < N ∧ ∃ t, v = .int (a + i * c) t, fun i h => IsRangeIter h h'.objs.size (a + (i : Nat) * c) ((N : Int) - (i : Nat)) c, rfl, ?_, ?_, ?_, ?_, ?_, ?_, ?_⟩
  · simpa using walks_lt (Walks.range (prog := B.prog) (w := B.w) S.sit.handled h'.objs.size a c N)
  · have := Heap.get?_push_size h' (o := { cls := .type "range_iterator", data := .fields #[rawInt a, rawInt (N : Int), rawInt c] }) rfl
    simpa [IsRangeIter] using this
  · intro b hb; rw [List.mem_singleton.mp hb]; exact ⟨fr.2.1.1, fun _ => fr.2.1.2, fr.1, _, Heap.get?_push_size _ rfl⟩
  · intro b hb; rw [List.mem_singleton.mp hb]; exact not_before st (get_size h')
  · intro i h hi b hb; rw [List.mem_singleton.mp hb]; exact ⟨_, _, hi, rfl⟩
  · intro i h hi; exact ⟨_, _, _, hi, rfl, rfl, rfl⟩
  · rintro i v ⟨hi, t, rfl⟩
    exact ⟨.int (a + i * c), by simp [hi], .int _ _⟩

theorem evi_range1 {k : Int} (hf : BName B nm f (.type "range")) (ha : Ev B nm n .O ρ e (.int k)) (h1 : -1000000000 < k) (h2 : k < 1000000000)
    (he : ∀ env, starEach [e] env = [(false, eval e env)] := by intro _; rfl)
    (hc : ∀ env, eval (.Call (.Name f p) [e] [] pos) env = (do callWith pos (← eval (.Name f p) env) [] (backTo pos (starEach [e] env)) (backToKw pos (keywordEach [] env))) := by intro _; rfl) :
    EvI B true nm n ρ (.Call (.Name f p) [e] [] pos) ((List.range k.toNat).map fun i => PyData.int (i : Nat)) := fun A fs env h₀ own s S => by
  have es : Evs B nm n .O ρ [e] [.int k] := evs_cons ha evs_nil (fun env => he env)
  refine Call_ (name_builtin S hf.kind hf.none hf.boot hf.main hf.debug (PyProof.Rows.callWith_type1 (wpAny_mono (wpAny_toks_of (n := s.toks) (Nat.le_refl _) (es A fs env h₀ own s pos S)) (fun vs s' ⟨ht, h', tk, q, st, rs⟩ => ?_) fun _ _ x => x.2) (he env) rfl)) (hc env)
  subst q
  obtain ⟨v, ws, rfl, rv, rw'⟩ := rs.cons_inv
  obtain rfl := rw'.nil_inv
  obtain ⟨t, rfl⟩ := rv.int_inv
  refine call_range_1 ?_
  have := src_range (a := 0) (b := k) (c := 1) (N := k.toNat) (tk := tk + 1 + 1) S (st.tr (.push _ _ _ _)) (by have : s.toks ≤ tk := ht; omega) (IsRange.new h' 0 k 1 tk t (tk + 1)) (small_one (by decide) (by decide) (by omega) (by omega)) (by rw [rangeSize_nat]; simp)
  simpa using this

end
end Mine
end

section
set_option maxRecDepth 100000
namespace Mine

theorem Rd.dict_inv {B : Wd} {P : Addr → Prop} {h : Heap} {v : Value} {kvs : List (PyData × PyData)} (r : Rd B P h v (.dict kvs)) : ∃ a kvs' ds, v = .ref a ∧ P a ∧ h.DictOf (PySem.strKind B.prog B.w) a kvs' ∧ (a == sysModules) = false ∧ Rds B P h (kvs'.map (·.2)) ds ∧ kvs = (kvs'.map fun kv => PyData.str kv.1).zip ds := by
  generalize hd : PyData.dict kvs = dd at r
  cases r with
  | dict pa l na r => cases hd; exact ⟨_, _, _, rfl, pa, l, na, r, rfl⟩
  | _ => cases hd

/-- a new text stored in a table of data -/
noncomputable def dput (kvs : List (Str × PyData)) (k : Str) (d : PyData) : List (Str × PyData) := if kvs.any (fun kv => kv.1 = k) then kvs.map (fun kv => if kv.1 = k then (kv.1, d) else kv) else kvs ++ [(k, d)]

theorem dput_at {B : Wd} {P : Addr → Prop} {h : Heap} {k : Str} {v : Value} {d : PyData} (rv : Rd B P h v d) : ∀ {ws : List (Str × Value)} {kvs : List (Str × PyData)}, ws.map (·.1) = kvs.map (·.1) → Rds B P h (ws.map (·.2)) (kvs.map (·.2)) →
    (stored ws k v).map (·.1) = (dput kvs k d).map (·.1) ∧ Rds B P h ((stored ws k v).map (·.2)) ((dput kvs k d).map (·.2)) := by
  intro ws kvs hk hr
  have any : ws.any (fun kv => kv.1 = k) = kvs.any (fun kv => kv.1 = k) := by
    have e1 : ws.any (fun kv => kv.1 = k) = (ws.map (·.1)).any (fun x => x = k) := by simp [List.any_map, Function.comp_def]
    have e2 : kvs.any (fun kv => kv.1 = k) = (kvs.map (·.1)).any (fun x => x = k) := by simp [List.any_map, Function.comp_def]
    rw [e1, e2, hk]
  unfold stored dput
  rw [any]
  split
  · rename_i hany
    clear any hany
    induction ws generalizing kvs with
    | nil => cases kvs with | nil => exact ⟨rfl, .nil⟩ | cons a r => cases hk
    | cons w ws ih =>
      cases kvs with
      | nil => cases hk
      | cons kv kvs =>
        simp only [List.map_cons, List.cons.injEq] at hk hr ⊢
        cases hr with
        | cons a r =>
          obtain ⟨i1, i2⟩ := ih hk.2 r
          refine ⟨⟨?_, i1⟩, .cons ?_ i2⟩
          · rw [hk.1]; split <;> simp [hk.1]
          · rw [hk.1]; split
            · exact rv
            · exact a
  · simp only [List.map_append, List.map_cons, List.map_nil]
    exact ⟨by rw [hk], hr.snoc rv⟩

theorem zip_back {α β : Type} (l : List (α × β)) : (l.map (·.1)).zip (l.map (·.2)) = l := by
  induction l with
  | nil => rfl
  | cons a l ih => simp [ih]

section
variable {B : Wd} {X : String → Prop} {nm nm' : List (Str × NameKind)} {n : Nat} {ρ ρ' : Loc} {Q : Fl → Loc → Prop} {fs : List Env} {env : Env} {h₀ : Heap} {own : List Addr} {s : Shared} {A : Around} {d : PyData} {x y z f : Str} {e e1 e2 e3 : Expr} {pos px cpos p apos ipos : Pos} {E : Value → Shared → Prop} {xs ys ds : List PyData} {md : Md}

/-- the keys of a dict -/
theorem evi_dict {kvs : List (PyData × PyData)} (he : Ev B nm n .C ρ e (.dict kvs)) : EvI B true nm n ρ e (kvs.map (·.1)) := fun A fs env h₀ own s S =>
  he.thenT S fun v h' tk t st S' r => by
    obtain ⟨a, kvs', ds', rfl, pa, hd, na, q, e'⟩ := r.dict_inv
    obtain ⟨ep, hat⟩ := hd.dictAt
    have hlen : kvs'.length = ds'.length := by simpa using q.length
    have hk : kvs.map (·.1) = kvs'.map fun kv => PyData.str kv.1 := by
      rw [e', List.map_fst_zip (by simp [hlen])]
    obtain ⟨oa, ea⟩ : ∃ o, h'.get? a = some o := by obtain ⟨o, _, e, _⟩ := hat; exact ⟨o, e⟩
    have hne : a ≠ h'.objs.size := Ne.symm (fresh_ne ea)
    have fr := S'.sr.fresh .N (get_size h')
    rw [hk]
    refine wpAny_pyIter_dict na hat ⟨_, tk, rfl, t, st.tr (.push _ _ _ _), h'.objs.size, [h'.objs.size, a], [h'.objs.size], fun i v => ∃ k x, kvs'[i]? = some (k, x) ∧ (PySem.strKind B.prog B.w).is k v = true, fun i h => h.IsKeyIter h'.objs.size a i kvs'.length ep ∧ h.DictAt (PySem.strKind B.prog B.w) a kvs' ep, rfl, ?_, ⟨⟨_, Heap.get?_push_size _ rfl, rfl, rfl⟩, hat.push _⟩, ?_, ?_, ?_, ?_, ?_⟩
    · simpa using Walks.dictKeys S.sit.handled h'.objs.size a hne kvs' ep
    · intro b hb
      rcases List.mem_cons.mp hb with rfl | hb
      · exact ⟨fr.2.1.1, fun _ => fr.2.1.2, fr.1, _, Heap.get?_push_size _ rfl⟩
      · rw [List.mem_singleton.mp hb]
        exact ⟨pa.2.1, fun _ => pa.2.2, pa.1, oa, Heap.get?_push_of_some _ ea⟩
    · intro b hb; rw [List.mem_singleton.mp hb]; exact not_before st (get_size h')
    · rintro i h ⟨⟨o, e, c, d⟩, _⟩ b hb; rw [List.mem_singleton.mp hb]; exact ⟨o, _, e, d⟩
    · rintro i h ⟨⟨o, e, c, d⟩, _⟩; exact ⟨o, _, _, e, c, rfl, d⟩
    · rintro i v ⟨k, x, ek, hv⟩
      obtain ⟨t, rfl⟩ := Value.isStrOf_shape hv
      exact ⟨.str k, by simp [ek], .str _ _⟩

/-- x = {} -/
theorem ex_dict (hx : nm.lookup x = some .local) (q : Q .next (put x (.dct []) ρ)) : Ex1 B X nm n ρ (.Assign [.Name x px] (.Dict [] [] p) pos) Q := fun A fs env h₀ own s E S ac => by
  obtain ⟨m, hns⟩ := S.sr.ns
  have st : Stay (adr fs) [] s.heap (s.heap.push { cls := .type "dict", data := .dict #[] }) := .push _ _ _ _
  have hns1 : (s.heap.push { cls := .type "dict", data := .dict #[] }).Ns env.locals m := hns.push _
  refine wpAny_Assign_Name (wpAny_Dict_empty (wpAny_storeName_local (kind_of S hx) hns1 (fun h' hn' hsb => ?_) (notClass S))) rfl
  have hn : s.heap.get? s.heap.objs.size = none := get_size _
  have fo := S.sr.freshO hn
  have kb : ∀ b o, b ≠ env.locals → (s.heap.push { cls := .type "dict", data := .dict #[] }).get? b = some o → h'.get? b = some o := fun b o nb e => (hsb.2 b nb).trans e
  have nsm : (s.heap.objs.size == sysModules) = false := by
    rw [beq_eq_false_iff_ne]
    obtain ⟨b, o, hb, e⟩ := S.ok.big
    exact Nat.ne_of_gt (Nat.lt_trans hb (Heap.lt_size (S.sr.stays b o e)))
  have R : SR B h₀ fs env (s.heap.objs.size :: own) (put x (.dct []) ρ) h' := S.sr.put_own st hn ⟨_, Heap.get?_push_size _ rfl⟩ (kind_of S hx) (fun m₂ hn₂ => by rw [ns_unique hns1 hn₂]; exact hn') hsb fun m₃ oa₃ e1 e2 kb' =>
    ⟨_, [], e2, .inl ⟨kind_of S hx, e1⟩, dictOf_keep (h := s.heap.push { cls := .type "dict", data := .dict #[] }) (Heap.DictOf.new ..) fun o e => kb' _ o fo.2.2.1 e, nsm, .nil⟩
  have st' : Stay (adr fs) (env.locals :: own) (s.heap.push { cls := .type "dict", data := .dict #[] }) h' := ⟨fun b o _ w e => kb b o (fun q => w (by simp [q])) e, fun b o w e => ⟨o.slots, kb b o (fun q => w (by simp [q])) e⟩, fun b o e => by
    by_cases q : b = env.locals
    · rw [q]; exact let ⟨o, _, _, e, _⟩ := hn'; ⟨o, e⟩
    · exact ⟨o, kb b o q e⟩⟩
  exact ⟨.next, _, s.heap.objs.size :: own, h', _, rfl, Nat.le_succ _, q, st.thenS st', fun b hb => (List.mem_cons.mp hb).elim (fun e => .inr (e ▸ hn)) .inl, R, trivial⟩
end
end Mine
end

section
set_option maxRecDepth 100000
namespace Mine
section
variable {B : Wd} {X : String → Prop} {nm nm' : List (Str × NameKind)} {n : Nat} {ρ ρ' : Loc} {Q : Fl → Loc → Prop} {fs : List Env} {env : Env} {h₀ : Heap} {own : List Addr} {s : Shared} {A : Around} {d : PyData} {x y z f : Str} {e e1 e2 e3 value slice : Expr} {pos px cpos p apos ipos : Pos} {E : Value → Shared → Prop} {xs ys ds : List PyData} {md : Md}

theorem SR.own_any {h h' : Heap} {a : Addr} {oa : Str → Option Addr} {m : Str → Option Value} {lv : LV} (S : SR B h₀ fs env own ρ h) (hn : h.Ns env.locals m) (inj : ∀ x y a, oa x = some a → oa y = some a → x = y) (sub : ∀ x a, oa x = some a → a ∈ own)
    (vars : ∀ x lv, ρ x = some lv → VarAt B h₀ fs env own oa m h x lv) (ea : oa x = some a) (hs : Heap.SameBut a h h') (o0 : ∀ o, h.get? a = some o → (∀ vs, o.data ≠ .fields vs) ∧ ∀ v, o.data ≠ .cell v) (o1 : ∃ o, h'.get? a = some o ∧ ∀ vs, o.data ≠ .fields vs)
    (hV : (∀ u, VarIs env m h x u → VarIs env m h' x u) → (∀ b o, b ≠ a → h.get? b = some o → h'.get? b = some o) → VarAt B h₀ fs env own oa m h' x lv) :
    SR B h₀ fs env own (put x lv ρ) h' := by
  have oas := S.owns a (sub x a ea)
  have kb : ∀ b o, b ≠ a → h.get? b = some o → h'.get? b = some o := fun b o nb e => (hs.2 b nb).trans e
  have nc : ∀ c o, h.get? c = some o → (∃ v, o.data = .cell v) → c ≠ a := fun c o e ⟨v, q⟩ z => (o0 o (z ▸ e)).2 v q
  have hv : ∀ y u, VarIs env m h y u → VarIs env m h' y u := fun y u W => W.at (fun _ w => w) fun c o hc e q => kb c o (nc c o e q) e
  refine S.turn (W := [a]) (fun b hb => .inr (by rw [List.mem_singleton.mp hb]; exact sub x a ea)) (fun b o q e => kb b o (fun z => q (by simp [z])) e) (fun b o q e nf => by rw [List.mem_singleton.mp q]; exact o1) (fun b o q e => (o0 o (List.mem_singleton.mp q ▸ e)).1) (fun b o q e v q' => nc b o e ⟨v, q'⟩ (List.mem_singleton.mp q)) (fun b hb => .inl hb) (fun b hb => hb)
    ⟨m, oa, hn.sameBut hs (Ne.symm oas.2.2.2.1), inj, sub, fun y lv' e => ?_⟩
  by_cases q : y = x
  · subst q
    rw [put_eq] at e; cases e
    exact hV (hv _) kb
  · rw [put_ne _ _ q] at e
    exact (vars y lv' e).at (hv y) (fun _ e => e) (fun b o _ _ no e => ⟨kb b o (fun z => no (z ▸ sub x a ea)) e, no⟩) (fun c o ec e => kb c o (fun z => q (inj y x a (z ▸ ec) ea)) e) fun c hc hz _ => ⟨fun o e => kb c o (fun z => hz x (z ▸ ea)) e, hc, hz⟩

/-- x[k] = v -/
theorem ex_setItem {kvs : List (Str × PyData)} {k : Str} (h0 : ρ x = some (.dct kvs)) (hv : Ev B nm n .N ρ value d) (hi : Ev B nm n .O ρ slice (.str k)) (hz : kvs.length ≤ 1000000) (q : Q .next (put x (.dct (dput kvs k d)) ρ))
    (hd : (x == ("__debug__" : Str)) = false := by decide) (hs : ∀ env, swapsWith value (some (.Subscript (.Name x px) slice p)) pos.line env = pure false := by intro _; rfl) :
    Ex1 B X nm n ρ (.Assign [.Subscript (.Name x px) slice p] value pos) Q := fun A fs env h₀ own s E S ac => by
  refine wpAny_Assign_Subscript (hv.thenT S fun v h₁ tk₁ t₁ st₁ S₁ rv => ?_) (hs env)
  obtain ⟨m, oa, hn0, inj, sub, vars⟩ := S₁.sr.vars
  obtain ⟨a, ws, ea, V, hp, na, r⟩ := vars x _ h0
  refine wpAny_Name (load_var S₁ hn0 V (hi.thenT S₁ fun iv h₂ tk₂ t₂ st₂ S₂ ri => ?_)) hd
  obtain ⟨t, rfl⟩ := ri.str_inv
  have oas := S₁.sr.owns a (sub x a ea)
  have hp₂ : h₂.DictOf (PySem.strKind B.prog B.w) a ((kvs.map (·.1)).zip ws) := dictOf_keep hp fun o e => st₂.keep a o oas.2.2.2.2 (fun q => nomatch q) e
  have hlen : (kvs.map (·.1)).length = ws.length := by have := r.length; simp at this ⊢; exact this.symm
  refine wpAny_setItem_pairs (s := { s with heap := h₂, toks := tk₂ }) (strKind_is _ _ k t) hp₂ (fun h' hp' hs' => ?_) (by rw [sizeLine_eq]; simp; omega)
  have st12 := st₁.tr st₂
  have n₂ : h₂.Ns env.locals m := ns_slot hn0 fun o e => st₂.slot _ o (fun q => nomatch q) e
  have va := vars_grow S₁.sr sub vars st₂
  have fst : ((kvs.map (·.1)).zip ws).map (·.1) = kvs.map (·.1) := List.map_fst_zip (by rw [hlen]; exact Nat.le_refl _)
  have snd : ((kvs.map (·.1)).zip ws).map (·.2) = ws := List.map_snd_zip (by rw [hlen]; exact Nat.le_refl _)
  have kb : ∀ b o, b ≠ a → h₂.get? b = some o → h'.get? b = some o := fun b o nb e => (hs'.2 b nb).trans e
  have nA : ∀ b, Md.N.P h₀ fs env.locals own b → b ≠ a := fun b p z => p.2.1.2 (z ▸ sub x a ea)
  obtain ⟨d1, d2⟩ := dput_at (k := k) (rv.grow st₂) fst (by rw [snd]; exact r.grow st₂)
  have R : SR B h₀ fs env own (put x (.dct (dput kvs k d)) ρ) h' := by
    refine S₂.sr.own_any n₂ inj sub va ea hs' (fun o e => ?_) ?_ fun hVV kb' => ⟨a, (stored ((kvs.map (·.1)).zip ws) k v).map (·.2), ea, ?_, ?_, na, ?_⟩
    · obtain ⟨o', e', es, ep, _, d', _⟩ := Heap.dictOf_iff.mp hp₂
      rw [e] at e'; cases e'; exact ⟨(fun vs z => by rw [d'] at z; cases z), (fun v z => by rw [d'] at z; cases z)⟩
    · obtain ⟨o', e', es, ep, _, d', _⟩ := Heap.dictOf_iff.mp hp'
      exact ⟨o', e', fun vs z => by rw [d'] at z; cases z⟩
    · obtain ⟨_, _, ea', V', _⟩ := va x _ h0
      rw [ea] at ea'; cases ea'; exact hVV _ V'
    · rw [← d1, zip_back]; exact hp'
    · exact d2.up (fun b o p e => kb b o (nA b p) e) fun _ _ p _ => p
  exact post_own (tk₁ := tk₂) (Nat.le_trans t₁ (Nat.le_succ_of_le t₂)) q st12 (sub x a ea) hs' (let ⟨o', e', _⟩ := Heap.dictOf_iff.mp hp'; ⟨o', e'⟩) R

theorem valueAt_of {K : Type} [DecidableEq K] : ∀ {kvs : List (K × Value)} {k : K} {v : Value}, (kvs.map (·.1)).Nodup → (k, v) ∈ kvs → valueAt kvs k = some v
  | [], _, _, _, h => nomatch h
  | kv :: kvs, k, v, hn, h => by
    simp only [List.map_cons, List.nodup_cons] at hn
    unfold valueAt
    rw [List.find?_cons]
    rcases List.mem_cons.mp h with e | h
    · subst e; simp
    · have : kv.1 ≠ k := fun q => hn.1 (by rw [q]; exact List.mem_map.mpr ⟨(k, v), h, rfl⟩)
      simp only [this, decide_false]
      have := valueAt_of hn.2 h
      unfold valueAt at this; exact this

/-- d[k] -/
theorem ev_itemD {kvs : List (PyData × PyData)} {k : Str} (hv : Ev B nm n md ρ value (.dict kvs)) (hi : Ev B nm n .O ρ slice (.str k)) (hm : (PyData.str k, d) ∈ kvs)
    (hs : ∀ a u, subscripted slice false (.ref a) (.str k u) = operate [.ref a, .str k u] (getItem (.ref a) (.str k u)) := by intro _ _; with_unfolding_all rfl) : Ev B nm n md ρ (.Subscript value slice pos) d := fun A fs env h₀ own s S =>
  ev_sub_ S hv hi fun va vb h' tk st S' ra rb => by
    obtain ⟨a, kvs', ds', rfl, pa, hd, na, q, e'⟩ := ra.dict_inv
    obtain ⟨u, rfl⟩ := rb.str_inv
    have hlen : kvs'.length = ds'.length := by simpa using q.length
    rw [e'] at hm
    obtain ⟨i, hi'⟩ := List.mem_iff_getElem?.mp hm
    rw [List.getElem?_zip_eq_some] at hi'
    obtain ⟨h1, h2⟩ := hi'
    obtain ⟨v, hv', rv⟩ := q.get' h2
    have hkv : kvs'[i]? = some (k, v) := by
      rw [List.getElem?_map] at h1 hv'
      cases hq : kvs'[i]? with
      | none => rw [hq] at h1; cases h1
      | some kv => rw [hq] at h1 hv'; simp at h1 hv'; rw [← h1, ← hv']
    have hd' : (Shared.heap { s with heap := h', toks := tk }).DictOf (PySem.strKind B.prog B.w) a kvs' := hd
    have nd : (kvs'.map (·.1)).Nodup := let ⟨_, _, _, _, _, _, _, _, hn⟩ := hd; hn
    exact tail_any (T := "dict") hd'.typeIs slot_dict_getitem.lookup (wpAny_getItem_of (strKind_is _ _ k u) hd'.mapOf (valueAt_of nd (List.mem_of_getElem? hkv)) ⟨h', _, rfl, st, rv⟩) (hs _ _)

end
end Mine
end

section
set_option maxRecDepth 100000
namespace Mine

/-- a test that raises a new exception -/
noncomputable def TrR (B : Wd) (nm : List (Str × NameKind)) (n : Nat) (ρ : Loc) (e : Expr) (cls : String) : Prop :=
  ∀ A fs env h₀ own s (E : Value → Shared → Prop) (R : Bool → Shared → Prop), Sta B nm n A fs env h₀ own ρ s → (∀ h1 h2 tk ex, Stay (adr fs) [] s.heap h1 → Heap.NewExc h1 h2 ex cls → E (.ref ex) { s with heap := h2, toks := tk }) → wpAny B.M A (isTrue e env (eval e env)) R E s

section
variable {B : Wd} {X : String → Prop} {nm nm' : List (Str × NameKind)} {n : Nat} {ρ ρ' : Loc} {Q : Fl → Loc → Prop} {fs : List Env} {env : Env} {h₀ : Heap} {own : List Addr} {s : Shared} {A : Around} {d d₁ d₂ : PyData} {x y z f : Str} {e e1 e2 e3 value slice test l r : Expr} {pos px py cpos p apos ipos spos : Pos} {E : Value → Shared → Prop} {xs ys ds : List PyData} {md : Md} {cls : String} {op : CmpOp} {body orelse : List Stmt}

/-- value[0] of an empty text, compared -/
theorem trr_item (hv : Ev B nm n .O ρ value (tx [])) (hi : Ev B nm n .O ρ slice (.int 0))
    (hs : ∀ y t u, subscripted slice false (.str y t) (.int 0 u) = operate [.str y t, .int 0 u] (getItem (.str y t) (.int 0 u)) := by intro _ _ _; with_unfolding_all rfl)
    (hm : behindInMarks op r = false := by with_unfolding_all rfl) : TrR B nm n ρ (.Compare (.Subscript value slice spos) [op] [r] pos) "IndexError" := fun A fs env h₀ own s E R S k => by
  refine wpAny_isTrue_Compare1 (Subscript_ (hv.thenT S fun va h' tk t st S' ra => hi.thenT S' fun vb h'' tk' t' st' S'' rb => ?_)) hm
  obtain ⟨t', rfl⟩ := ra.str_inv
  obtain ⟨u, rfl⟩ := rb.int_inv
  refine tail_any (T := "str") (typeIs_str _ _ _) PySem.F.slot_str_getitem.lookup (getItem_slot (typeIs_str _ _ _) (by decide) PySem.F.slot_str_getitem (call_meets PySem.F.slot_str_getitem (typeIs_str _ _ _) PySem.F.entry_str_getitem (PySem.F.args_str_getitem_2 _ _) (raises_str_getitem _ 0 _ u (by decide) rfl) ⟨S.sit.handled, fun h2 tk2 ex N => ?_⟩)) (hs _ _ _)
  exact k _ _ _ _ (st.tr st') N
theorem trr_and (hx : TrR B nm n ρ l cls) : TrR B nm n ρ (.BoolOp .And [l, r] pos) cls := fun A fs env h₀ own s E R S k =>
  wpAny_isTrue_BoolOp (wpAny_allTrue_And_cons (hx A fs env h₀ own s E _ S k))
theorem ex_ifR (ht : TrR B nm n ρ test cls) (hX : X cls) : Ex1 B X nm n ρ (.If test body orelse pos) Q := fun A fs env h₀ own s E S ac =>
  wpAny_If (ht A fs env h₀ own s E _ S fun h1 h2 tk ex st N => ac.new h1 h2 tk ex cls own ρ hX (S.sr.grow st) N)

/-- a list of one item unpacked into two names -/
theorem unpack_short {a : Addr} {v : Value} {R : List Value → Shared → Prop} (hh : A.handled = none) (hl : s.heap.IsList a #[v]) (k : ∀ h1 h2 tk ex, (∀ b o, s.heap.get? b = some o → h1.get? b = some o) → Heap.NewExc h1 h2 ex "ValueError" → E (.ref ex) { s with heap := h2, toks := tk }) :
    wpAny B.M A (unpackItems (.ref a) 2 none) R E s := by
  have hlt : a ≠ s.heap.objs.size := by obtain ⟨o, ho, _⟩ := hl; exact Nat.ne_of_lt (Heap.lt_size ho)
  unfold unpackItems
  refine wpAny_bind ?_
  unfold notIterableAtAll
  refine wpAny_bind (wpAny_specialOf hl.typeIs slot_list_iter.lookup ?_)
  refine wpAny_pure ?_
  simp only [Bool.false_eq_true, if_false]
  refine wpAny_bind (wpAny_holding (wpAny_pyIter_list hl ?_))
  refine wpAny_bind (wpAny_holding ?_)
  show wpAny _ _ (pyNext (.ref s.heap.objs.size) >>= _) _ _ _
  refine wpAny_bind (wpAny_pyNext_list_item (i := 0) (items := #[v]) (x := v) ⟨_, Heap.get?_push_size _ rfl, rfl, rfl⟩ (hl.push _) rfl fun h₁ hit₁ hs₁ => ?_)
  have hl₁ : h₁.IsList a #[v] := (hl.push _).extBut hs₁.extBut hlt
  refine wpAny_bind (wpAny_holding ?_)
  show wpAny _ _ (pyNext (.ref s.heap.objs.size) >>= _) _ _ _
  refine wpAny_bind (wpAny_pyNext_list_end hh hit₁ hl₁ rfl fun h₂ he₂ => ?_)
  refine wpAny_pure (wpAny_pure ?_)
  rw [if_pos (show [v].length < 2 from Nat.lt_succ_self 1)]
  refine wpAny_bind (wpAny_rule ?_)
  have kp : ∀ b o, s.heap.get? b = some o → h₂.get? b = some o := fun b o e => he₂ b o (Ne.symm (fresh_ne e)) (hs₁.extBut b o (Ne.symm (fresh_ne e)) (Heap.get?_push_of_some _ e))
  refine wpAny_bind (wpAny_raiseErrorMade plainExc_ValueError hh (fun h' tk e N => k h₂ h' tk e kp N) ?_)
  show (Str.ofString _).length ≤ sizeLine
  rw [List.length_singleton]
  decide +kernel

theorem as_list2 {k : Nat} {a : Addr} {vs : Array Value} {v : Value} {R : Unit → Shared → Prop} (S : Sta B nm n A fs env h₀ own ρ s) (hx : nm.lookup x = some .local) (hy : nm.lookup y = some .local) (hl : s.heap.IsList a vs) (q : Rds B (Md.C.P h₀ fs env.locals own) s.heap vs.toList [d₁, d₂])
    (kk : ∀ h' tk, Sta B nm n A fs env h₀ own (put y (.dat d₂) (put x (.dat d₁) ρ)) { s with heap := h', toks := tk } → Stay (adr fs) (env.locals :: own) s.heap h' → s.toks ≤ tk → R () { s with heap := h', toks := tk }) :
    wpAny B.M A (assign (.Tuple [.Name x px, .Name y py] k pos) env (.ref a)) R E s := by
  obtain ⟨v1, ws, e1, r1, q⟩ := q.cons_inv
  obtain ⟨v2, ws', e2, r2, q⟩ := q.cons_inv
  obtain rfl := q.nil_inv
  subst e2
  have hsz : vs.size = 2 := by rw [← Array.length_toList, e1]; rfl
  rw [arm_assign_Tuple]
  refine wpAny_bind (wpAny_standAt ?_)
  unfold unpack
  show wpAny B.M A (holding [.ref a] (unpackItems (.ref a) 2 none) >>= _) _ _ _
  rw [← hsz]
  refine wpAny_bind (wpAny_holding (kun_itemsOf S.sit.handled hl fun h' hk => ?_))
  rw [e1]
  have st := ext_stay (fs := fs) hk
  have S₁ := S.grow st (Nat.le_refl _)
  show wpAny _ _ (assignInOrder [assign (.Name x px) env, assign (.Name y py) env] [v1, v2]) _ _ _
  refine wpAny_bind (wpAny_holding (wpAny_assign_Name (store_dat S₁ hx (r1.grow st) fun h₂ tk₂ S₂ st₂ k₂ t₂ => ?_)))
  refine wpAny_bind (wpAny_holding (wpAny_assign_Name (store_dat S₂ hy ((r2.grow st).up (fun b o p e => k₂ b o p.2.1 e) fun _ _ p _ => p) fun h₃ tk₃ S₃ st₃ k₃ t₃ => wpAny_pure ?_)))
  exact kk h₃ tk₃ S₃ (st.thenS (st₂.trans st₃ fun _ h => .inl h)) (Nat.le_trans t₂ t₃)

/-- x, y = a new list of two -/
theorem ex_unpackL {k : Nat} (he : EvG B nm n .C ρ value [d₁, d₂]) (hx : nm.lookup x = some .local) (hy : nm.lookup y = some .local) (q : Q .next (put y (.dat d₂) (put x (.dat d₁) ρ))) (hs : ∀ env, swapsWithSole [.Tuple [.Name x px, .Name y py] k p] value pos.line env = pure false := by intro _; rfl)
    (hw : ∀ env, swappedStores [.Tuple [.Name x px, .Name y py] k p] value env = pure none := by intro _; rfl) : Ex1 B X nm n ρ (.Assign [.Tuple [.Name x px, .Name y py] k p] value pos) Q := fun A fs env h₀ own s E S ac => by
  refine Assign_Tuple (no_raise (wpAny_mono (wpAny_toks_of (n := s.toks) (Nat.le_refl _) (he A fs env h₀ own s S)) (fun v s' ⟨ht, h₁, tk, a, vs, es, st, ev, hn, hp, hr⟩ => ?_) fun _ _ x => x.2)) (hs env) (hw env)
  subst es ev
  exact as_list2 (v := .none) (S.grow st ht) hx hy hp.isList (hr.up (fun _ _ _ e => e) fun _ _ p _ => p.1) fun h₂ tk₂ S₂ st₂ t₂ => post_next (s := s) S₂ (Nat.le_trans ht t₂) q (st.thenS st₂) fun _ h => .inl h
/-- x, y = a new list of one -/
theorem ex_unpackR {k : Nat} (he : EvG B nm n .C ρ value [d]) (hX : X "ValueError") (hs : ∀ env, swapsWithSole [.Tuple [.Name x px, .Name y py] k p] value pos.line env = pure false := by intro _; rfl)
    (hw : ∀ env, swappedStores [.Tuple [.Name x px, .Name y py] k p] value env = pure none := by intro _; rfl) : Ex1 B X nm n ρ (.Assign [.Tuple [.Name x px, .Name y py] k p] value pos) Q := fun A fs env h₀ own s E S ac => by
  refine Assign_Tuple (no_raise (wpAny_mono (wpAny_toks_of (n := s.toks) (Nat.le_refl _) (he A fs env h₀ own s S)) (fun v s' ⟨ht, h₁, tk, a, vs, es, st, ev, hn, hp, hr⟩ => ?_) fun _ _ x => x.2)) (hs env) (hw env)
  subst es ev
  obtain ⟨v1, ws, e1, r1, q⟩ := hr.cons_inv
  obtain rfl := q.nil_inv
  obtain rfl : vs = #[v1] := by rw [← Array.toList_inj, e1]
  rw [arm_assign_Tuple]
  refine wpAny_bind (wpAny_standAt ?_)
  unfold unpack
  show wpAny B.M A (holding [.ref a] (unpackItems (.ref a) 2 none) >>= _) _ _ _
  exact wpAny_bind (wpAny_holding (unpack_short S.sit.handled hp.isList fun h1 h2 tk2 ex kp N => ac.new h1 h2 tk2 ex "ValueError" own ρ hX ((S.sr.grow st).grow (.of_all kp)) N))
end
end Mine
end

section
set_option maxRecDepth 100000
namespace Mine

/-- an exception comes out of a call -/
noncomputable def Out (B : Wd) (fs : List Env) (s : Shared) (cls : String) (E : Value → Shared → Prop) : Prop :=
  ∀ h' tk e base, s.toks ≤ tk → Stay (adr fs) [] s.heap h' → Heap.Flying base fs e (.type cls) h' → (∀ b o, b ∉ adr fs → s.heap.get? b = some o → base.get? b = some o) → E (.ref e) { s with heap := h', toks := tk }
noncomputable def EvX (B : Wd) (nm : List (Str × NameKind)) (n : Nat) (ρ : Loc) (e : Expr) (cls : String) : Prop :=
  ∀ A fs env h₀ own s (E : Value → Shared → Prop) (R : Value → Shared → Prop), Sta B nm n A fs env h₀ own ρ s → Out B fs s cls E → wpAny B.M A (eval e env) R E s
noncomputable def ExX (B : Wd) (nm : List (Str × NameKind)) (n : Nat) (ρ : Loc) (ss : List Stmt) (cls : String) : Prop :=
  ∀ A fs env h₀ own s (E : Value → Shared → Prop) (R : Flow → Shared → Prop), Sta B nm n A fs env h₀ own ρ s → Out B fs s cls E → wpAny B.M A (execs ss env) R E s
/-- constants, whatever is being handled -/
noncomputable def EvK (B : Wd) (e : Expr) (d : PyData) : Prop :=
  ∀ (A : Around) (env : Env) (s : Shared), wpAny B.M A (eval e env) (fun v s' => ∃ h' tk, s' = { s with heap := h', toks := tk } ∧ (∀ b o, s.heap.get? b = some o → h'.get? b = some o) ∧ Rd B (fun b => s.heap.get? b = none) h' v d) (fun _ _ => False) s

section
variable {B : Wd} {X : String → Prop} {nm nm' : List (Str × NameKind)} {n : Nat} {ρ ρ' : Loc} {Q : Fl → Loc → Prop} {fs : List Env} {env : Env} {h₀ : Heap} {own : List Addr} {s : Shared} {A : Around} {d d₁ d₂ : PyData} {x y z f : Str} {e e1 e2 e3 value slice test l r : Expr} {es : List Expr} {pos px py cpos p apos ipos spos p1 p2 q1 q2 hp1 hp2 : Pos} {E : Value → Shared → Prop} {xs ys ds : List PyData} {md : Md} {cls : String} {op : CmpOp} {body orelse : List Stmt} {fa : Addr} {r1 r2 : Expr} {k k1 k2 : Nat}

theorem evx_call (hf : DName B nm f fa) (ha : Evs B nm n .O ρ (e :: es) ds) (hF : FnX B fa n ds (.error cls))
    (he : ∀ env, starEach (e :: es) env = (false, eval e env) :: starEach es env := by intro _; rfl)
    (hc : ∀ env, eval (.Call (.Name f p) (e :: es) [] pos) env = (do callWith pos (← eval (.Name f p) env) [] (backTo pos (starEach (e :: es) env)) (backToKw pos (keywordEach [] env))) := by intro _; rfl) :
    EvX B nm n ρ (.Call (.Name f p) (e :: es) [] pos) cls := fun A fs env h₀ own s E R S k => by
  obtain ⟨o, fd, hl, hd⟩ := hf.fn
  refine Call_ (name_def S hf.kind hf.glob hf.debug (callWith_def hd (no_raise (wpAny_mono (wpAny_toks_of (n := s.toks) (Nat.le_refl _) (ha A fs env h₀ own s pos S)) (fun vs s' ⟨ht, h', tk, q, st, rs⟩ => ?_) fun _ _ x => x.2)) (he env))) (hc env)
  subst q
  have S' := S.grow st ht
  refine ⟨S'.sr.stays _ _ (S.ok.inK _ _ hl), wpAny_call (codeAny_mono (codeAny_toks_of (n := tk) (Nat.le_refl _) (hF A fs _ vs S.ok S.sit.handled S.sit.frames S.sit.depth S.sit.units S'.sr.stays S'.sr.frames S'.tok (rs.up (fun _ _ _ e => e) fun _ _ p _ => p.1))) fun r s' h => ?_)⟩
  obtain ⟨ht2, h'', tk', rfl, st', ex, base, rfl, fly, kb⟩ := h
  exact k h'' tk' ex base (Nat.le_trans ht ht2) (st.tr st') fly fun b o nb e => kb b o nb (st.keep b o nb (fun q => nomatch q) e)

theorem exx_assign (he : EvX B nm n ρ value cls) (hs : ∀ env, swapsWith value (some (.Name x p)) pos.line env = pure false := by intro _; rfl) : ExX B nm n ρ [.Assign [.Name x p] value pos] cls := fun A fs env h₀ own s E R S k =>
  wpAny_execs_cons (wpAny_Assign_Name (he A fs env h₀ own s E _ S k) (hs env))

theorem evk_list2 {t u : Str} : EvK B (.List [.Constant (.str t) k1 p1, .Constant (.str u) k2 p2] p) (.list [.str t, .str u]) := fun A env s => by
  refine wpAny_List (wpAny_items_cons (wpAny_Constant_str (wpAny_items_cons (wpAny_Constant_str (wpAny_items_nil ⟨by rw [sizeLine_eq]; simp, _, _, rfl, fun b o e => Heap.get?_push_of_some _ e, .list (vs := #[_, _]) (get_size _) ⟨_, Heap.get?_push_size _ rfl, rfl, 0, rfl⟩ (.cons (.str _ _) (.cons (.str _ _) .nil))⟩)) rfl)) rfl)

theorem flyingW_of {base h : Heap} {l : List Env} {e : Addr} {cls : Value} (x : Heap.Flying base l e cls h) : ∃ a0, Heap.FlyingW base l e cls a0 h := by
  obtain ⟨f1, f2, f3, oe, vs, T, oT, ts, he, hc, hd, h1, r⟩ := x
  have : 0 < vs.size := by
    have := (Array.getElem?_eq_some_iff.mp h1).1; omega
  exact ⟨vs[0], f1, f2, f3, oe, vs, T, oT, ts, he, ⟨hc, by simp [this]⟩, hd, h1, r⟩

theorem stay_slots {base h h' h'' B₀ : Heap} {fs : List Env} (st : Stay (adr fs) [] h h') (ff : h.FunFrames B₀ fs) (kb : ∀ b o, b ∉ adr fs → h.get? b = some o → base.get? b = some o) (bs : base.StaysIn h'') (us : h'.UpToSlots h'') : Stay (adr fs) [] h h'' := by
  have nf : ∀ b, b ∈ adr fs → ∀ o, h.get? b = some o → ∀ vs, o.data ≠ .fields vs := fun b hb o e => by
    obtain ⟨_, o', e', nf⟩ := ff.mem hb
    rw [e] at e'; cases e'; exact nf
  have slot : ∀ b o, h.get? b = some o → ∃ sl, h''.get? b = some { o with slots := sl } := fun b o e => by
    by_cases q : b ∈ adr fs
    · obtain ⟨sl, e'⟩ := st.slot b o (fun q => nomatch q) e
      obtain ⟨sl', e''⟩ := us b _ e' (nf b q o e)
      exact ⟨sl', e''⟩
    · exact ⟨o.slots, bs b o (kb b o q e)⟩
  exact ⟨fun b o nb _ e => bs b o (kb b o nb e), fun b o _ e => slot b o e, fun b o e => let ⟨sl, e'⟩ := slot b o e; ⟨_, e'⟩⟩

theorem name_exc {M : Model} {A' : Around} {R : Value → Shared → Prop} {v : Value} (hf : BName B nm f v) (S : Sit nm n A fs env) (ok : B.Ok) (st : B.base.StaysIn s.heap) (h : R v s) : wpAny M A' (eval (.Name f p) env) R E s := by
  have hg : s.heap.Ns env.globals B.mg := by rw [S.globals]; exact ok.top.g.keeps st
  have hb' : s.heap.Ns env.builtins B.mb := by rw [S.builtins]; exact ok.top.b.keeps st
  have hk' : env.kindOf f = some .globalImplicit := by unfold Env.kindOf; rw [S.names]; exact hf.kind
  exact Calls.Name_function_global S.kind hk' (Calls.loadGlobal_builtin hg (mg_none_of ok.inK ok.top.g hf.none) hb' ((ok.top.builtins f hf.main).trans hf.boot) h) hf.debug

theorem ex_tryX (hb : ExX B nm n ρ body cls) (hw : (cls = "ValueError" ∧ EvK B r1 d) ∨ (cls = "IndexError" ∧ EvK B r2 d)) (hv : BName B nm "ValueError" (.type "ValueError")) (hi : BName B nm "IndexError" (.type "IndexError")) (h0 : nm.lookup (".0" : Str) = none) (q : Q (.ret d) ρ) :
    Ex1 B X nm n ρ (.Try body [.ExceptHandler (some (.Name "ValueError" p1)) none [.Return (some r1) q1] hp1, .ExceptHandler (some (.Name "IndexError" p2)) none [.Return (some r2) q2] hp2] [] [] pos) Q := fun A fs env h₀ own s E S ac => by
  refine wpAny_Try_except (hb A fs env h₀ own s _ _ S fun h' tk ex base t st fly kb => ?_)
  obtain ⟨⟨outer, rfl⟩, eF⟩ := S.sit.top h0
  obtain ⟨a0, flyW⟩ := flyingW_of fly
  refine wpAny_looks_onW S.sit.frames eF flyW fun h₄ held₄ sm₄ => wpAny_landsW held₄ fun h₅ fly₅ sm₅ => ?_
  have us5 : h'.UpToSlots h₅ := sm₄.trans sm₅
  have st5 : Stay (adr (env :: outer)) [] s.heap h₅ := stay_slots st S.sr.frames kb fly₅.1 us5
  have R5 := S.sr.grow st5
  have run : ∀ (rr : Expr) (qq : Pos) (h₅ : Heap) (us5 : h'.UpToSlots h₅) (fly₅ : Heap.FlyingW base (env :: outer) ex (.type cls) a0 h₅), EvK B rr d → wpAny B.M (A.mark (some (.ref ex))) (setFlight (.ref ex) none) (fun _ s₂ => wpAny B.M (A.mark (some (.ref ex))) (execs [.Return (some rr) qq] env) (Post B (env :: outer) env h₀ own s Q) (notedBy B.M (A.mark (some (.ref ex))) env (cameBackBy B.M A env E)) s₂) (notedBy B.M (A.mark (some (.ref ex))) env (cameBackBy B.M A env E)) { s with heap := h₅, toks := tk } := fun rr qq h₅ us5 fly₅ hk => by
    refine lands_againW fly₅ fun h₆ fly₆ sm₆ => ?_
    have st6 : Stay (adr (env :: outer)) [] s.heap h₆ := stay_slots st S.sr.frames kb fly₆.1 (us5.trans sm₆)
    have R6 := S.sr.grow st6
    refine wpAny_execs_cons (wpAny_Return_some (no_raise (wpAny_mono (wpAny_toks_of (n := tk) (Nat.le_refl _) (hk (A.mark (some (.ref ex))) env { s with heap := h₆, toks := tk })) (fun v s' ⟨ht, h₇, tk₇, e, kp, rv⟩ => ?_) fun _ _ x => x.2)))
    subst e
    have st7 : Stay (adr (env :: outer)) [] s.heap h₇ := st6.tr (.of_all kp)
    exact ⟨.ret d, ρ, own, h₇, tk₇, rfl, Nat.le_trans t ht, q, st7.mono (fun _ h => nomatch h), fun _ h => .inl h, S.sr.grow st7, rv.up (fun _ _ _ e => e) fun b o p e => R6.fresh .F p⟩
  obtain ⟨ob, hob, hobc⟩ := fly₅.there
  rcases hw with ⟨rfl, hk⟩ | ⟨rfl, hk⟩
  · refine wpAny_handleBy_builtin (X := "ValueError") (T := "ValueError") (b := true) PySem.F.isExc_ValueError PySem.F.notTuple_ValueError (by rw [isSubtype_type]; kernel_rfl) (name_exc hv S.sit S.ok R5.stays ⟨rfl, ⟨ob, hob, hobc⟩, ?_⟩)
    exact run r1 q1 h₅ us5 fly₅ hk
  · refine wpAny_handleBy_builtin (X := "IndexError") (T := "ValueError") (b := false) PySem.F.isExc_ValueError PySem.F.notTuple_ValueError (by rw [isSubtype_type]; kernel_rfl) (name_exc hv S.sit S.ok R5.stays ⟨rfl, ⟨ob, hob, hobc⟩, ?_⟩)
    refine wpAny_handleBy_builtin (X := "IndexError") (T := "IndexError") (b := true) PySem.F.isExc_IndexError PySem.F.notTuple_IndexError (by rw [isSubtype_type]; kernel_rfl) (name_exc hi S.sit S.ok R5.stays ⟨rfl, ⟨ob, hob, hobc⟩, ?_⟩)
    exact run r2 q2 h₅ us5 fly₅ hk

theorem ex_tryO {hh : ExceptHandler} {hs : List ExceptHandler} (hb : Ex B (fun _ => False) nm n ρ body Q) : Ex1 B X nm n ρ (.Try body (hh :: hs) [] [] pos) Q := fun A fs env h₀ own s E S ac => by
  refine wpAny_Try_except (wpAny_mono (hb A fs env h₀ own s _ S ⟨PassesOwn.looking, fun _ _ _ _ _ _ _ x => x.elim⟩) (fun f s' p => ?_) fun _ _ x => x)
  cases f with
  | next => exact wpAny_execs_nil p
  | cont => exact p
  | brk => exact p
  | ret v => exact p
end
end Mine
end

section
set_option maxRecDepth 100000
namespace Mine

/-- what follows a statement -/
noncomputable def Kq (B : Wd) (X : String → Prop) (nm : List (Str × NameKind)) (n : Nat) (rest : List Stmt) (Q : Fl → Loc → Prop) : Fl → Loc → Prop := fun fl ρ' => match fl with | .next => Ex B X nm n ρ' rest Q | fl => Q fl ρ'
theorem ex_go {B : Wd} {X : String → Prop} {nm : List (Str × NameKind)} {n : Nat} {ρ : Loc} {st : Stmt} {rest : List Stmt} {Q : Fl → Loc → Prop} (h : Ex1 B X nm n ρ st (Kq B X nm n rest Q)) : Ex B X nm n ρ (st :: rest) Q :=
  ex_cons h fun fl ρ' q => by cases fl <;> exact q
theorem ex_last {B : Wd} {X : String → Prop} {nm : List (Str × NameKind)} {n : Nat} {ρ : Loc} {st : Stmt} {Q : Fl → Loc → Prop} (h : Ex1 B X nm n ρ st Q) : Ex B X nm n ρ [st] Q :=
  ex_cons h fun fl ρ' q => by cases fl with
    | next => exact ex_nil q
    | _ => exact q

/-- what a statement leaves -/
noncomputable def Nx (P : Loc → Prop) : Fl → Loc → Prop := fun fl ρ' => fl = .next ∧ P ρ'
theorem ex_mid {B : Wd} {X : String → Prop} {nm : List (Str × NameKind)} {n : Nat} {ρ : Loc} {st : Stmt} {rest : List Stmt} {Q : Fl → Loc → Prop} (P : Loc → Prop) (h : Ex1 B X nm n ρ st (Nx P)) (k : ∀ ρ', P ρ' → Ex B X nm n ρ' rest Q) : Ex B X nm n ρ (st :: rest) Q :=
  ex_cons h fun fl ρ' q => by obtain ⟨rfl, q⟩ := q; exact k ρ' q

section
variable {B : Wd} {nm : List (Str × NameKind)} {n : Nat} {md : Md} {ρ : Loc} {k : Nat} {pos : Pos}
theorem ev_tx {x : Str} {l : List Nat} (h : x = ⟨l.toArray⟩) : Ev B nm n md ρ (.Constant (.str x) k pos) (tx l) := by rw [h]; exact ev_str
end
section
variable {B : Wd} {f : Addr} {n : Nat} {x y : Str} {nm : List (Str × NameKind)} {body : List Stmt} {d d₁ d₂ : PyData} {res : Except String PyData} {oc : Value} {od : Option Addr} {osl : Array (Option Value)} {name : Str} {params : Arguments} {scope : Scope} {dV kV doc pm : Value} {an : Option Addr} {cdv ct : Value}
theorem fn_intro1 (hlk : B.K.lookup f = some ⟨oc, od, .func (fnOf name name params body scope dV kV doc pm an cdv ct), osl⟩) (hcd : codeIn B.K cdv name = true) (hnm : scope.names = nm)
    (hb : ∀ v, bindArgs (fnOf name name params body scope dV kV doc pm an cdv ct) ⟨[v], []⟩ = pure [(x, v)]) (h1 : scope.isCoroutine = false) (h2 : scope.isGenerator = false) (h3 : scope.kind = .function) (hx : nm.lookup x = some .local) (hc : ∀ n, cellsFrom n nm [] = [])
    (h : Ex B (fun c => res = .error c) nm n (put x (.dat d) fun _ => none) body (fun fl _ => match res with | .ok d => fl = .ret d ∨ (fl = .next ∧ d = .none) | .error _ => False)) : FnX B f (n + 1) [d] res :=
  fn_intro (ps := [x]) ⟨⟨_, _, _, _, _, _, _, _, _, _, _, _, _, hlk, hcd, hnm, fun vs hv => (match vs, hv with | [v], _ => hb v), h1, h2, h3⟩, fun y hy => .inl (List.mem_singleton.mp hy ▸ hx), fun n p hp => by rw [hc] at hp; cases hp⟩ rfl h
theorem fn_intro2 (hlk : B.K.lookup f = some ⟨oc, od, .func (fnOf name name params body scope dV kV doc pm an cdv ct), osl⟩) (hcd : codeIn B.K cdv name = true) (hnm : scope.names = nm)
    (hb : ∀ u v, bindArgs (fnOf name name params body scope dV kV doc pm an cdv ct) ⟨[u, v], []⟩ = pure [(x, u), (y, v)]) (h1 : scope.isCoroutine = false) (h2 : scope.isGenerator = false) (h3 : scope.kind = .function) (hx : nm.lookup x = some .local) (hy : nm.lookup y = some .local) (hc : ∀ n, cellsFrom n nm [] = [])
    (h : Ex B (fun c => res = .error c) nm n (put y (.dat d₂) (put x (.dat d₁) fun _ => none)) body (fun fl _ => match res with | .ok d => fl = .ret d ∨ (fl = .next ∧ d = .none) | .error _ => False)) : FnX B f (n + 1) [d₁, d₂] res :=
  fn_intro (ps := [x, y]) ⟨⟨_, _, _, _, _, _, _, _, _, _, _, _, _, hlk, hcd, hnm, fun vs hv => (match vs, hv with | [u, v], _ => hb u v), h1, h2, h3⟩, fun z hz => .inl (by
    rcases List.mem_cons.mp hz with e | e
    · rw [e]; exact hx
    · rw [List.mem_singleton.mp e]; exact hy), fun n p hp => by rw [hc] at hp; cases hp⟩ rfl h
theorem fn_introC (hlk : B.K.lookup f = some ⟨oc, od, .func (fnOf name name params body scope dV kV doc pm an cdv ct), osl⟩) (hcd : codeIn B.K cdv name = true) (hnm : scope.names = nm)
    (hb : ∀ v, bindArgs (fnOf name name params body scope dV kV doc pm an cdv ct) ⟨[v], []⟩ = pure [(x, v)]) (h1 : scope.isCoroutine = false) (h2 : scope.isGenerator = false) (h3 : scope.kind = .function) (hx : nm.lookup x = some .cell ∨ nm.lookup x = some .local) (hc : ∀ n, cellsFrom n nm [] = [(y, n)]) (hy : nm.lookup x = some .cell → x = y) (nd : x ≠ "__classdict__")
    (h : Ex B (fun c => res = .error c) nm n (put x (.dat d) fun _ => none) body (fun fl _ => match res with | .ok d => fl = .ret d ∨ (fl = .next ∧ d = .none) | .error _ => False)) : FnX B f (n + 1) [d] res :=
  fn_intro (ps := [x]) ⟨⟨_, _, _, _, _, _, _, _, _, _, _, _, _, hlk, hcd, hnm, fun vs hv => (match vs, hv with | [v], _ => hb v), h1, h2, h3⟩, fun z hz => by
    rw [List.mem_singleton.mp hz]
    rcases hx with q | q
    · exact .inr ⟨q, nd, fun n => by rw [hc, hy q]; simp⟩
    · exact .inl q, fun n p hp => by rw [hc] at hp ⊢; rw [List.mem_singleton.mp hp]; simp⟩ rfl h
end
theorem map_id_of {α : Type} {f : α → α} : ∀ {l : List α}, (∀ x ∈ l, f x = x) → l.map f = l
  | [], _ => rfl
  | a :: l, h => by rw [List.map_cons, h a (.head _), map_id_of fun x hx => h x (.tail _ hx)]
theorem push_none : ∀ (l : List (Str × NameKind)), (∀ x ∈ l, x.2 ≠ .cell) → (∀ h, pushCells h l = h) ∧ ∀ k cl, cellsFrom k l cl = cl
  | [], _ => ⟨fun _ => rfl, fun _ _ => rfl⟩
  | (n, k) :: l, h => by
    have hk : (k == NameKind.cell) = false := by simpa using h (n, k) (.head _)
    have ih := push_none l fun x hx => h x (.tail _ hx)
    refine ⟨fun hh => ?_, fun q cl => ?_⟩
    · unfold pushCells; rw [hk, if_neg Bool.false_ne_true]; exact ih.1 hh
    · unfold cellsFrom; rw [hk, if_neg Bool.false_ne_true]; exact ih.2 q cl
/-- the side conditions of a plain comprehension -/
theorem compOk_plain {nm : List (Str × NameKind)} {scope : Scope} (hk : scope.kind = .function) (hf : ∀ x ∈ scope.names, x.2 ≠ .free) (hc : ∀ x ∈ scope.names, x.2 ≠ .cell) (hn : ∀ x ∈ scope.names, x.2 = .local → scope.names.lookup x.1 = some .local) (hd : scope.names.lookup (".0" : Str) ≠ none) : CompOk nm scope scope.names none none where
  kind := hk
  names := hn
  rel := fun env _ _ => map_id_of fun x hx => by
    obtain ⟨n, k⟩ := x
    have : (k == NameKind.free) = false := by simpa using hf _ hx
    simp [this]
  clos0 := fun _ env => closureFor_none hf
  clos1 := fun _ q => nomatch q
  dot := hd
  cel0 := fun _ => push_none _ hc
  cel1 := fun _ q => nomatch q
noncomputable def relab (names nm : List (Str × NameKind)) : List (Str × NameKind) := names.map fun x => if (x.2 == .free && nm.lookup x.1 == some .cell) then (x.1, .cell) else (x.1, x.2)
theorem relab_eq {scope : Scope} {nm : List (Str × NameKind)} {env : Env} (hk : env.scope.kind = .function) (hn : env.scope.names = nm) : (relabel scope env).names = relab scope.names nm := by
  unfold relabel relab Env.kindOf
  rw [hk, hn]
  refine List.map_congr_left fun x _ => ?_
  obtain ⟨a, b⟩ := x
  simp
/-- the side conditions of a comprehension that sees one name of the outer block -/
theorem compOk_free {nm : List (Str × NameKind)} {scope : Scope} {z : Str} {xc : Option Str} (hk : scope.kind = .function) (hn : ∀ x ∈ scope.names, x.2 = .local → scope.names.lookup x.1 = some .local) (k1 : nm.lookup z = some .cell ∨ nm.lookup z = some .free) (nd : z ≠ "__classdict__")
    (k2 : (relab scope.names nm).lookup z = some .cell ∨ (relab scope.names nm).lookup z = some .free) (hcl : ∀ (env : Env) (c : Addr), env.cells.lookup z = some c → closureFor scope env = pure [(z, c)]) (hd : (relab scope.names nm).lookup (".0" : Str) ≠ none)
    (h0 : xc = none → (∀ h, pushCells h scope.names = h) ∧ ∀ k cl, cellsFrom k scope.names cl = cl)
    (h1 : ∀ x, xc = some x → z ≠ x ∧ (relab scope.names nm).lookup x = some .cell ∧ (∀ h, pushCells h scope.names = h.push { cls := .type "cell", data := .cell none }) ∧ ∀ k cl, cellsFrom k scope.names cl = (x, k) :: cl) : CompOk nm scope (relab scope.names nm) (some z) xc where
  kind := hk
  names := hn
  rel := fun env hk hn => relab_eq hk hn
  clos0 := fun q => nomatch q
  clos1 := fun z' q => by cases q; exact ⟨k1, nd, k2, hcl⟩
  dot := hd
  cel0 := h0
  cel1 := fun x q => let r := h1 x q; ⟨fun e => r.1 (Option.some.inj e), r.2⟩
theorem seq_last {n : Nat} (h : 0 < n) : seqIndex? (-1) n = some (n - 1) := by
  unfold seqIndex?
  simp only [show ((-1 : Int) < 0) from by decide, if_true]
  rw [if_pos (by simp; omega)]
  congr 1; omega
theorem seq_nat {i n : Nat} (h : i < n) : seqIndex? (i : Nat) n = some i := by
  unfold seqIndex?
  simp only [show ¬ ((i : Int) < 0) from by omega, if_false]
  rw [if_pos (by simp; omega)]
  rfl
/-- a function of texts, on data -/
noncomputable def onTx (g : List Nat → PyData) : PyData → PyData
  | .str s => g s.cps.toList
  | d => d
theorem onTx_map (g : List Nat → List Nat) (l : List (List Nat)) : (((l.map tx).filter fun _ => true).map (onTx fun x => tx (g x))) = (l.map g).map tx := by
  rw [List.filter_eq_self.mpr (fun _ _ => rfl), List.map_map, List.map_map]
  exact List.map_congr_left fun x _ => rfl
theorem truth_tx (p : List Nat) : truth (tx p) = true ↔ p ≠ [] := by
  show ((⟨p.toArray⟩ : Str).length != 0) = true ↔ _
  rw [tx_len]; cases p <;> simp
theorem truth_txF (p : List Nat) : truth (tx p) = false ↔ p = [] := by
  show ((⟨p.toArray⟩ : Str).length != 0) = false ↔ _
  rw [tx_len]; cases p <;> simp
theorem small_tx {p : List Nat} (h : p.length ≤ 16777216) : strSmall (tx p) := by
  show (⟨p.toArray⟩ : Str).length ≤ _
  rw [tx_len]; exact h
section
variable {B : Wd} {nm : List (Str × NameKind)} {n : Nat} {md : Md} {ρ : Loc} {o : Expr} {apos pos p1 p2 : Pos} {k1 k2 : Nat} {t : List Nat} {c : Nat}
theorem evg_split2 (hm : c ∈ t) (ho : Ev B nm n .O ρ o (tx t)) (hc' : c < 256) (hz : t.length ≤ 1000000) (hc : MCall o "split" apos [.Constant (.str ⟨#[c]⟩) k1 p1, .Constant (.int 1) k2 p2] pos := by intro _; rfl) :
    EvG B nm n md ρ (.Call (.Attribute o "split" apos) [.Constant (.str ⟨#[c]⟩) k1 p1, .Constant (.int 1) k2 p2] [] pos) [tx (upTo c t), tx (past c t)] := by
  have := evg_split (md := md) ho hc' hz hc
  rw [if_pos hm] at this; exact this
theorem evg_split1 (hm : c ∉ t) (ho : Ev B nm n .O ρ o (tx t)) (hc' : c < 256) (hz : t.length ≤ 1000000) (hc : MCall o "split" apos [.Constant (.str ⟨#[c]⟩) k1 p1, .Constant (.int 1) k2 p2] pos := by intro _; rfl) :
    EvG B nm n md ρ (.Call (.Attribute o "split" apos) [.Constant (.str ⟨#[c]⟩) k1 p1, .Constant (.int 1) k2 p2] [] pos) [tx t] := by
  have := evg_split (md := md) ho hc' hz hc
  rw [if_neg hm] at this; exact this
end
theorem Ev.cast {B : Wd} {nm : List (Str × NameKind)} {n : Nat} {md : Md} {ρ : Loc} {e : Expr} {d d' : PyData} (q : d = d') (h : Ev B nm n md ρ e d) : Ev B nm n md ρ e d' := q ▸ h
end Mine
end

section
set_option maxRecDepth 100000
namespace Mine

/-- what is left of the names behind a change of raw things -/
noncomputable def clr (ks : List Str) (ρ : Loc) : Loc := fun y => match ρ y with
  | some (.raw R) => if R.as.isEmpty || ks.contains y then some (.raw R) else none
  | o => o
theorem clr_raw {ks : List Str} {ρ : Loc} {y : Str} {R : Raw} (h : ρ y = some (.raw R)) (ha : R.as = [] ∨ y ∈ ks) : clr ks ρ y = some (.raw R) := by
  unfold clr; rw [h]
  dsimp only
  rw [if_pos (by
    rw [Bool.or_eq_true]
    exact ha.imp (fun e => by rw [e]; rfl) fun e => by simpa using e)]
theorem clr_inv {ks : List Str} {ρ : Loc} {y : Str} {lv : LV} (e : clr ks ρ y = some lv) : ρ y = some lv ∧ ∀ R, lv = .raw R → R.as = [] ∨ y ∈ ks := by
  unfold clr at e
  split at e
  · rename_i R h
    split at e
    · rename_i c
      cases e
      refine ⟨h, fun R' q => ?_⟩
      cases q
      rw [Bool.or_eq_true] at c
      exact c.imp (fun c => by simpa using c) fun c => by simpa using c
    · cases e
  · rename_i h
    exact ⟨e, fun R q => (h R (by rw [e, q])).elim⟩

section
variable {B : Wd} {X : String → Prop} {nm : List (Str × NameKind)} {n : Nat} {ρ : Loc} {Q : Fl → Loc → Prop} {fs : List Env} {env : Env} {h₀ : Heap} {own : List Addr} {s : Shared} {A : Around} {d : PyData} {x : Str} {e value : Expr} {pos p apos cpos : Pos} {E : Value → Shared → Prop} {md : Md} {ss : List Stmt}

theorem SR.raw_at {h : Heap} {R : Raw} (S : SR B h₀ fs env own ρ h) (h0 : ρ x = some (.raw R)) : ∃ v, R.φ B (Md.N.P h₀ fs env.locals own) h v ∧ (∀ a ∈ R.as, a ∈ own ∧ ∀ p ∈ env.cells, p.2 ≠ a) ∧ ∃ m, h.Ns env.locals m ∧ VarIs env m h x v := by
  obtain ⟨m, oa, n, inj, sub, vs⟩ := S.vars
  obtain ⟨v, X, ho, r⟩ := vs x _ h0
  exact ⟨v, r, fun a ha => ⟨(ho a ha).1, (ho a ha).2.2⟩, m, n, X⟩

theorem SR.put_raw {h h₁ h' : Heap} {v : Value} {R : Raw} {new : List Addr} (S : SR B h₀ fs env own ρ h) (st : Stay (adr fs) [] h h₁) (hnew : ∀ a ∈ new, h.get? a = none ∧ ∃ o, h₁.get? a = some o) (hk : env.kindOf x = some .local)
    (hn : ∀ m, h₁.Ns env.locals m → h'.Ns env.locals (fun y => if y = x then some v else m y)) (hs : Heap.SameBut env.locals h₁ h')
    (has : ∀ a ∈ R.as, a ∈ new ∨ ∃ y R2, ρ y = some (.raw R2) ∧ a ∈ R2.as) (hφ : R.φ B (Md.N.P h₀ fs env.locals (new ++ own)) h' v) : SR B h₀ fs env (new ++ own) (put x (.raw R) ρ) h' := by
  obtain ⟨m, oa, n, inj, sub, vs⟩ := S.vars
  have n₁ : h₁.Ns env.locals m := ns_slot n fun o e => st.slot _ o (fun q => nomatch q) e
  have kb : ∀ b o, b ≠ env.locals → h₁.get? b = some o → h'.get? b = some o := fun b o nb e => (hs.2 b nb).trans e
  have nsl := hn m n₁
  have nn : ∀ a ∈ new, a ∉ own := fun a ha q => by obtain ⟨⟨o, e⟩, _⟩ := S.owns a q; rw [(hnew a ha).1] at e; cases e
  refine (S.grow st).turn (W := [env.locals]) (fun b hb => .inl (List.mem_singleton.mp hb)) (fun b o q e => kb b o (fun z => q (by simp [z])) e) (fun b o q e nf => ?_) (fun b o q e => ?_) (fun b o q e => ns_nocell n₁ o (List.mem_singleton.mp q ▸ e))
    (fun b hb => ?_) (fun b hb => List.mem_append_right _ hb) ⟨_, oa, nsl, inj, fun y c e => List.mem_append_right _ (sub y c e), fun y lv e => ?_⟩
  · rw [List.mem_singleton.mp q]
    obtain ⟨o', es, ep, e', d', rr⟩ := id nsl
    exact ⟨o', e', fun vs q => by rw [q] at d'; cases d'⟩
  · rw [List.mem_singleton.mp q] at e; exact ns_nofields n₁ o e
  · rcases List.mem_append.mp hb with hb | hb
    · have fo := S.freshO (hnew b hb).1
      obtain ⟨o, e⟩ := (hnew b hb).2
      exact .inr ⟨⟨o, kb b o fo.2.2.1 e⟩, fo⟩
    · exact .inl hb
  · by_cases q : y = x
    · subst q
      rw [put_eq] at e; cases e
      refine ⟨v, .inl ⟨hk, by simp⟩, fun a ha => ?_, hφ⟩
      rcases has a ha with q | ⟨y', R2, e2, q⟩
      · exact ⟨List.mem_append_left _ q, fun z hz => nn a q (sub z a hz), fun p hp z => nn a q (z ▸ S.cells p hp)⟩
      · obtain ⟨_, _, ho, _⟩ := vs y' _ e2
        exact ⟨List.mem_append_right _ (ho a q).1, (ho a q).2⟩
    · rw [put_ne _ _ q] at e
      have kk : ∀ b o, b ∉ adr fs → b ≠ env.locals → h.get? b = some o → h'.get? b = some o := fun b o nf nl e => kb b o nl (st.keep b o nf (fun q => nomatch q) e)
      refine (vs y lv e).at (fun u V => V.at (fun _ w => by simpa [q] using w) fun c o hc e _ => ?_) (fun c e => e) (fun b o nf nl no e => ⟨kk b o nf nl e, fun z => ?_⟩) (fun c o ec e => ?_) fun c hc hz _ => ⟨fun o e => kk c o (S.owns c hc).2.2.2.2 (S.owns c hc).2.2.2.1 e, List.mem_append_right _ hc, hz⟩
      · obtain ⟨z, hz⟩ := mem_lookup hc
        obtain ⟨_, _, _, n1, n2⟩ := S.owns _ (S.cells _ hz)
        exact kk c o n2 n1 e
      · rcases List.mem_append.mp z with z | z
        · rw [(hnew b z).1] at e; cases e
        · exact no z
      · obtain ⟨_, _, _, n1, n2⟩ := S.owns c (sub y c ec)
        exact kk c o n2 n1 e

/-- a raw thing stored -/
theorem post_raw {h₁ : Heap} {tk : Nat} {v : Value} {R : Raw} {new : List Addr} (S : Sta B nm n A fs env h₀ own ρ s) (hx : nm.lookup x = some .local) (t : s.toks ≤ tk) (st : Stay (adr fs) [] s.heap h₁) (hnew : ∀ a ∈ new, s.heap.get? a = none ∧ ∃ o, h₁.get? a = some o)
    (has : ∀ a ∈ R.as, a ∈ new ∨ ∃ y R2, ρ y = some (.raw R2) ∧ a ∈ R2.as) (hφ : ∀ h', (∀ b o, b ≠ env.locals → h₁.get? b = some o → h'.get? b = some o) → R.φ B (Md.N.P h₀ fs env.locals (new ++ own)) h' v) (q : Q .next (put x (.raw R) ρ)) :
    wpAny B.M A (storeName env x v) (fun _ => Post B fs env h₀ own s Q .next) E { s with heap := h₁, toks := tk } := by
  obtain ⟨m, hns⟩ := (S.sr.grow st).ns
  refine wpAny_storeName_local (kind_of S hx) hns (fun h' hn' hsb => ?_) (notClass S)
  have kb : ∀ b o, b ≠ env.locals → h₁.get? b = some o → h'.get? b = some o := fun b o nb e => (hsb.2 b nb).trans e
  have R' : SR B h₀ fs env (new ++ own) (put x (.raw R) ρ) h' := S.sr.put_raw st hnew (kind_of S hx) (fun m₂ hn₂ => by rw [ns_unique hns hn₂]; exact hn') hsb has (hφ h' kb)
  have st' : Stay (adr fs) (env.locals :: own) h₁ h' := ⟨fun b o _ w e => kb b o (fun q => w (by simp [q])) e, fun b o w e => ⟨o.slots, kb b o (fun q => w (by simp [q])) e⟩, fun b o e => by
    by_cases q : b = env.locals
    · rw [q]; exact let ⟨o, _, _, e, _⟩ := hn'; ⟨o, e⟩
    · exact ⟨o, kb b o q e⟩⟩
  exact ⟨.next, _, new ++ own, h', tk + 1, rfl, Nat.le_succ_of_le t, q, st.thenS st', fun b hb => (List.mem_append.mp hb).elim (fun e => .inr (hnew b e).1) .inl, R', trivial⟩

theorem SR.raw_change {h h' : Heap} {R R' : Raw} {W : List Addr} {ks : List Str} (S : SR B h₀ fs env own ρ h) (h0 : ρ x = some (.raw R)) (hW : ∀ a ∈ W, a ∈ R.as)
    (kb : ∀ b o, b ∉ W → h.get? b = some o → h'.get? b = some o) (k0 : ∀ a ∈ W, ∃ vs, h.PlainList a vs) (k1 : ∀ a ∈ W, ∃ vs, h'.PlainList a vs)
    (hks : ∀ y ∈ ks, ∀ R2, ρ y = some (.raw R2) → ∀ a ∈ W, a ∉ R2.as) (has : ∀ a ∈ R'.as, ∃ y R2, ρ y = some (.raw R2) ∧ a ∈ R2.as)
    (hφ : ∀ v, R.φ B (Md.N.P h₀ fs env.locals own) h v → R'.φ B (Md.N.P h₀ fs env.locals own) h' v) : SR B h₀ fs env own (put x (.raw R') (clr ks ρ)) h' := by
  obtain ⟨m, oa, n, inj, sub, vs⟩ := S.vars
  obtain ⟨v, V, ho, r⟩ := vs x _ h0
  have wo : ∀ a ∈ W, a ∈ own := fun a ha => (ho a (hW a ha)).1
  have wz : ∀ a ∈ W, ∀ z, oa z ≠ some a := fun a ha => (ho a (hW a ha)).2.1
  have wl : env.locals ∉ W := fun q => (S.owns _ (wo _ q)).2.2.2.1 rfl
  have hv : ∀ y u, VarIs env m h y u → VarIs env m h' y u := fun y u V => V.at (fun _ w => w) fun c o hc e _ => kb c o (fun q => (ho c (hW c q)).2.2 _ (mem_of_lookup hc) rfl) e
  refine S.turn (W := W) (fun a ha => .inr (wo a ha)) kb (fun b o q e nf => ?_) (fun b o q e us z => ?_) (fun b o q e us z => ?_) (fun a ha => .inl ha) (fun a ha => ha) ⟨m, oa, ?_, inj, sub, fun y lv e => ?_⟩
  · obtain ⟨vs, k, e'⟩ := k1 b q
    exact ⟨_, e', fun vs z => by cases z⟩
  · obtain ⟨vs, k, e'⟩ := k0 b q
    rw [e] at e'; cases e'; cases z
  · obtain ⟨vs, k, e'⟩ := k0 b q
    rw [e] at e'; cases e'; cases z
  · obtain ⟨o, es, ep, e, dd, rr⟩ := n
    exact ⟨o, es, ep, kb _ o wl e, dd, rr⟩
  · by_cases q : y = x
    · subst q
      rw [put_eq] at e; cases e
      refine ⟨v, hv _ _ V, fun a ha => ?_, hφ v r⟩
      obtain ⟨y', R2, e2, q⟩ := has a ha
      obtain ⟨_, _, ho2, _⟩ := vs y' _ e2
      exact ho2 a q
    · rw [put_ne _ _ q] at e
      obtain ⟨e', hr⟩ := clr_inv e
      have V' := vs y lv e'
      cases lv with
      | dat d => obtain ⟨u, X, r'⟩ := V'; exact ⟨u, hv _ _ X, r'.up (fun b o p e => kb b o (fun z => p.2.2 (wo b z)) e) fun _ _ p _ => p⟩
      | lst xs =>
        obtain ⟨a, ws, ea, X, l, r'⟩ := V'
        exact ⟨a, ws, ea, hv _ _ X, plainList_keep l fun o e => kb a o (fun z => wz a z y ea) e, r'.up (fun b o p e => kb b o (fun z => p.2.1.2 (wo b z)) e) fun _ _ p _ => p⟩
      | dct kvs =>
        obtain ⟨a, ws, ea, X, l, na, r'⟩ := V'
        exact ⟨a, ws, ea, hv _ _ X, dictOf_keep l fun o e => kb a o (fun z => wz a z y ea) e, na, r'.up (fun b o p e => kb b o (fun z => p.2.1.2 (wo b z)) e) fun _ _ p _ => p⟩
      | raw R2 =>
        obtain ⟨u, X, ho2, r'⟩ := V'
        refine ⟨u, hv _ _ X, ho2, R2.up r' (fun b o p e _ => kb b o (fun z => ?_) e) fun _ _ p _ _ => p⟩
        rcases p with p | p
        · exact p.2.1.2 (wo b z)
        · rcases hr R2 rfl with w | w
          · rw [w] at p; cases p
          · exact hks y w R2 e' b z p

/-- less is said of a raw thing -/
theorem ex_soft {R R2 : Raw} (h0 : ρ x = some (.raw R)) (has : ∀ a ∈ R2.as, a ∈ R.as) (hφ : ∀ B P h v, R.φ B P h v → R2.φ B P h v) (h : Ex B X nm n (put x (.raw R2) ρ) ss Q) : Ex B X nm n ρ ss Q := fun A fs env h₀ own s E S ac => by
  refine h A fs env h₀ own s E ⟨S.ok, S.sit, ?_, S.tok⟩ ac
  obtain ⟨m, oa, nn, inj, sub, vs⟩ := S.sr.vars
  refine ⟨S.sr.stays, S.sr.frames, S.sr.kept, S.sr.owns, S.sr.loc, S.sr.cells, S.sr.cellish, m, oa, nn, inj, sub, fun y lv e => ?_⟩
  by_cases q : y = x
  · subst q
    rw [put_eq] at e; cases e
    obtain ⟨v, V, ho, r⟩ := vs y _ h0
    exact ⟨v, V, fun a ha => ho a (has a ha), hφ _ _ _ _ r⟩
  · rw [put_ne _ _ q] at e; exact vs y lv e

/-- a raw thing read -/
theorem ev_raw {R : Raw} (h0 : ρ x = some (.raw R)) (hr : ∀ P h v, R.φ B P h v → Rd B (fun b => P b ∨ b ∈ R.as) h v d) (hm : md = .O ∨ md = .F ∨ R.as = []) (hd : (x == ("__debug__" : Str)) = false := by decide) : Ev B nm n md ρ (.Name x pos) d := fun A fs env h₀ own s S => by
  obtain ⟨v, r, ho, m, hn, V⟩ := S.sr.raw_at h0
  refine wpAny_Name (load_var S hn V ⟨s.heap, s.toks, rfl, .refl _ _ _, ?_⟩) hd
  refine (hr _ _ _ r).up (fun _ _ _ e => e) fun b o p _ => ?_
  rcases hm with rfl | rfl | hm
  · rcases p with p | p
    · exact ⟨p.1, trivial⟩
    · exact ⟨(S.sr.owns b (ho b p).1).2.2.2.2, trivial⟩
  · rcases p with p | p
    · exact ⟨p.1, p.2.2⟩
    · exact ⟨(S.sr.owns b (ho b p).1).2.2.2.2, (S.sr.owns b (ho b p).1).2.2.1⟩
  · rcases p with p | p
    · exact Md.P.le (md := .N) (by cases md <;> rfl) p
    · rw [hm] at p; cases p

/-- a new datum, known to be new -/
noncomputable def DatN (d : PyData) : Raw := ⟨[], fun B P h v => Rd B P h v d, fun r k p => r.upN (fun b o q e nf => k b o (.inl q) e nf) p⟩
theorem ex_assignN (he : Ev B nm n .N ρ value d) (hx : nm.lookup x = some .local) (q : Q .next (put x (.raw (DatN d)) ρ)) (hs : ∀ env, swapsWith value (some (.Name x p)) pos.line env = pure false := by intro _; rfl) :
    Ex1 B X nm n ρ (.Assign [.Name x p] value pos) Q := fun A fs env h₀ own s E S a =>
  wpAny_Assign_Name (he.thenT S fun v h₁ tk₁ t₁ st₁ S₁ r => post_raw (new := []) S hx t₁ st₁ (fun _ h => nomatch h) (fun _ (h : _ ∈ ([] : List Addr)) => nomatch h) (fun h' kb => Rd.up (fun b o p e => kb b o p.2.1.1 e) (fun _ _ p _ => p) r) q) (hs env)
theorem ev_datN (h0 : ρ x = some (.raw (DatN d))) (hd : (x == ("__debug__" : Str)) = false := by decide) : Ev B nm n md ρ (.Name x pos) d :=
  ev_raw h0 (fun P h v r => Rd.up (fun _ _ _ e => e) (fun _ _ p _ => .inl p) r) (.inr (.inr rfl)) hd
end
end Mine
end

section
namespace Mine

/-- the header's reader, one sign -/
noncomputable def hstep (st : List (List Nat) × List Nat × Bool × Bool) (c : Nat) : List (List Nat) × List Nat × Bool × Bool :=
  match st with
  | (res, part, esc, quo) =>
    if esc = true then (res, part ++ [c], false, quo)
    else if quo = true then (if c = 92 then (res, part, true, quo) else if c = 34 then (res, part ++ [c], esc, false) else (res, part ++ [c], esc, quo))
    else if c = 44 then (res ++ [part], [], esc, quo)
    else if c = 34 then (res, part ++ [c], esc, true) else (res, part ++ [c], esc, quo)
noncomputable def hrun (t : List Nat) : List (List Nat) × List Nat × Bool × Bool := t.foldl hstep ([], [], false, false)
noncomputable def hraw (t : List Nat) : List (List Nat) := if (hrun t).2.1 = [] then (hrun t).1 else (hrun t).1 ++ [(hrun t).2.1]
noncomputable def http (t : List Nat) : List (List Nat) := (hraw t).map trim

theorem hrun_take {t : List Nat} {i c : Nat} (h : t[i]? = some c) : hrun (t.take (i + 1)) = hstep (hrun (t.take i)) c := by
  unfold hrun
  rw [List.take_add_one, h, List.foldl_append]; rfl
theorem hstep_size (st : List (List Nat) × List Nat × Bool × Bool) (c k : Nat) (h : st.1.length + st.2.1.length ≤ k) (h2 : ∀ p ∈ st.1, p.length ≤ k) : (hstep st c).1.length + (hstep st c).2.1.length ≤ k + 1 ∧ ∀ p ∈ (hstep st c).1, p.length ≤ k + 1 := by
  obtain ⟨res, part, esc, quo⟩ := st
  simp only at h h2
  unfold hstep
  dsimp only
  repeat' split
  all_goals first
    | (refine ⟨by simp; omega, fun p hp => Nat.le_succ_of_le (h2 p hp)⟩)
    | (refine ⟨by simp; omega, fun p hp => ?_⟩
       simp at hp
       rcases hp with hp | hp
       · exact Nat.le_succ_of_le (h2 p hp)
       · subst hp; omega)
theorem hrun_size (t : List Nat) : (hrun t).1.length + (hrun t).2.1.length ≤ t.length ∧ ∀ p ∈ (hrun t).1, p.length ≤ t.length := by
  unfold hrun
  suffices H : ∀ (t : List Nat) st k, st.1.length + st.2.1.length ≤ k → (∀ p ∈ st.1, p.length ≤ k) → (t.foldl hstep st).1.length + (t.foldl hstep st).2.1.length ≤ k + t.length ∧ ∀ p ∈ (t.foldl hstep st).1, p.length ≤ k + t.length by
    simpa using H t ([], [], false, false) 0 (by simp) (by simp)
  intro t
  induction t with
  | nil => intro st k h h2; exact ⟨h, h2⟩
  | cons c t ih =>
    intro st k h h2
    obtain ⟨a, b⟩ := hstep_size st c k h h2
    have := ih (hstep st c) (k + 1) a b
    rw [List.foldl_cons, List.length_cons]
    rw [show k + (t.length + 1) = k + 1 + t.length by omega]
    exact this
theorem hraw_size (t : List Nat) : (hraw t).length ≤ t.length + 1 ∧ ∀ p ∈ hraw t, p.length ≤ t.length := by
  obtain ⟨a, b⟩ := hrun_size t
  unfold hraw
  split
  · exact ⟨by omega, b⟩
  · refine ⟨by simp; omega, fun p hp => ?_⟩
    rcases List.mem_append.mp hp with q | q
    · exact b p q
    · rw [List.mem_singleton.mp q]; omega
end Mine
end

section
namespace Mine

/-- what a value stands for -/
noncomputable def unq (v : List Nat) : List Nat := if v.head? = some 34 ∧ v.getLast? = some 34 then (v.take (v.length - 1)).drop 1 else v
/-- an item: its key and its value, or its fault -/
noncomputable def kvOf (it : List Nat) : Except String (List Nat × List Nat) :=
  if 61 ∈ it then (if past 61 it = [] then .error "IndexError" else .ok (upTo 61 it, unq (past 61 it))) else .error "ValueError"
/-- a value stored in a table -/
noncomputable def tput (kvs : List (List Nat × List Nat)) (k v : List Nat) : List (List Nat × List Nat) := if kvs.any (fun kv => kv.1 = k) then kvs.map (fun kv => if kv.1 = k then (kv.1, v) else kv) else kvs ++ [(k, v)]
noncomputable def keqv : List (List Nat × List Nat) → List (List Nat) → Except String (List (List Nat × List Nat))
  | acc, [] => .ok acc
  | acc, it :: r => match kvOf it with
    | .error c => .error c
    | .ok (k, v) => keqv (tput acc k v) r
theorem tput_length (kvs : List (List Nat × List Nat)) (k v : List Nat) : (tput kvs k v).length ≤ kvs.length + 1 := by unfold tput; split <;> simp

/-- the leading white space -/
noncomputable def lead (t : List Nat) : Nat := (t.takeWhile sp).length
/-- where the trimmed text ends -/
noncomputable def tail' (t : List Nat) : Nat := t.length - ((t.dropWhile sp).reverse.takeWhile sp).length
theorem drop_len (t : List Nat) : (t.dropWhile sp).length = t.length - lead t := by rw [← drop_takeWhile]; simp [lead]
theorem trim_eq (t : List Nat) : trim t = (t.take (tail' t)).drop (lead t) := by
  unfold trim
  rw [rev_drop, drop_len, ← drop_takeWhile, List.drop_take]
  show (t.drop (lead t)).take (t.length - lead t - _) = _
  congr 1
  unfold tail'
  rw [← drop_takeWhile]
  show _ = t.length - _ - lead t
  omega
theorem trim_length (t : List Nat) : (trim t).length ≤ t.length := by rw [trim_eq]; simp; omega
end Mine
end

section
namespace Mine

end Mine
end

section
namespace Mine
/-- the keys where they first come -/
noncomputable def keysOf : List (List Nat × List Nat) → List (List Nat) → List (List Nat)
  | [], acc => acc
  | (k, _) :: r, acc => keysOf r (if k ∈ acc then acc else acc ++ [k])
/-- what was said last of a key -/
noncomputable def lastOf (pairs : List (List Nat × List Nat)) (k : List Nat) : List Nat := ((pairs.filter fun p => p.1 = k).map (·.2)).getLast?.getD []
noncomputable def table (pairs : List (List Nat × List Nat)) : List (List Nat × List Nat) := (keysOf pairs []).map fun k => (k, lastOf pairs k)
end Mine
end

section
namespace Mine
end Mine
end

section
namespace Mine
/-- a sign ahead of the first part -/
noncomputable def addH (c : Nat) : List (List Nat) → List (List Nat)
  | [] => []
  | p :: r => (c :: p) :: r
noncomputable def rstep (c : Nat) (st : List (List Nat) × List (List Nat) × List (List Nat)) : List (List Nat) × List (List Nat) × List (List Nat) :=
  if c = 34 then (addH c st.2.1, addH c st.1, addH c st.2.1)
  else if c = 92 then (addH c st.1, st.2.2, addH c st.2.1)
  else if c = 44 then ([] :: st.1, addH c st.2.1, addH c st.2.1)
  else (addH c st.1, addH c st.2.1, addH c st.2.1)
noncomputable def rrun (t : List Nat) : List (List Nat) × List (List Nat) × List (List Nat) := t.foldr rstep ([[]], [[]], [[]])
/-- a list of parts in its bounds -/
noncomputable def POk (k : Nat) (l : List (List Nat)) : Prop := l ≠ [] ∧ l.length ≤ k + 1 ∧ ∀ p ∈ l, p.length ≤ k
theorem addH_ok {c k : Nat} {l : List (List Nat)} (h : POk k l) : POk (k + 1) (addH c l) := by
  obtain ⟨h1, h2, h3⟩ := h
  cases l with
  | nil => exact (h1 rfl).elim
  | cons p r =>
    refine ⟨(fun q => nomatch q), by simp [addH] at h2 ⊢; omega, fun x hx => ?_⟩
    rcases List.mem_cons.mp hx with rfl | hx
    · have := h3 p (.head _); simp; omega
    · have := h3 x (.tail _ hx); omega
theorem POk.up {k : Nat} {l : List (List Nat)} (h : POk k l) : POk (k + 1) l := ⟨h.1, by have := h.2.1; omega, fun p hp => by have := h.2.2 p hp; omega⟩
theorem rstep_ok {c k : Nat} {st : List (List Nat) × List (List Nat) × List (List Nat)} (h : POk k st.1 ∧ POk k st.2.1 ∧ POk k st.2.2) : POk (k + 1) (rstep c st).1 ∧ POk (k + 1) (rstep c st).2.1 ∧ POk (k + 1) (rstep c st).2.2 := by
  unfold rstep
  repeat' split
  · exact ⟨addH_ok h.2.1, addH_ok h.1, addH_ok h.2.1⟩
  · exact ⟨addH_ok h.1, h.2.2.up, addH_ok h.2.1⟩
  · refine ⟨⟨(fun q => nomatch q), by have := h.1.2.1; simp; omega, fun p hp => ?_⟩, addH_ok h.2.1, addH_ok h.2.1⟩
    rcases List.mem_cons.mp hp with rfl | hp
    · simp
    · exact h.1.up.2.2 p hp
  · exact ⟨addH_ok h.1, addH_ok h.2.1, addH_ok h.2.1⟩
theorem rrun_ok : ∀ t : List Nat, POk t.length (rrun t).1 ∧ POk t.length (rrun t).2.1 ∧ POk t.length (rrun t).2.2
  | [] => ⟨⟨by simp [rrun], by simp [rrun], by simp [rrun]⟩, ⟨by simp [rrun], by simp [rrun], by simp [rrun]⟩, ⟨by simp [rrun], by simp [rrun], by simp [rrun]⟩⟩
  | c :: t => rstep_ok (rrun_ok t)
end Mine
end

section
namespace Mine

theorem keysOf_append : ∀ (a b : List (List Nat × List Nat)) (acc : List (List Nat)), keysOf (a ++ b) acc = keysOf b (keysOf a acc)
  | [], b, acc => rfl
  | (k, v) :: a, b, acc => by rw [List.cons_append, keysOf, keysOf, keysOf_append a b]
theorem keysOf_snoc (ps : List (List Nat × List Nat)) (k v : List Nat) : keysOf (ps ++ [(k, v)]) [] = if k ∈ keysOf ps [] then keysOf ps [] else keysOf ps [] ++ [k] := by
  rw [keysOf_append]; rfl
theorem lastOf_snoc (ps : List (List Nat × List Nat)) (k v x : List Nat) : lastOf (ps ++ [(k, v)]) x = if x = k then v else lastOf ps x := by
  unfold lastOf
  rw [List.filter_append]
  by_cases h : x = k
  · subst h; simp
  · have : ¬ k = x := fun q => h q.symm
    simp [h, this]
theorem table_snoc (ps : List (List Nat × List Nat)) (k v : List Nat) : table (ps ++ [(k, v)]) = tput (table ps) k v := by
  have any : (table ps).any (fun kv => decide (kv.1 = k)) = decide (k ∈ keysOf ps []) := by
    unfold table
    rw [List.any_map, Bool.eq_iff_iff]
    simp only [Function.comp_def, List.any_eq_true, decide_eq_true_eq]
    exact ⟨fun ⟨x, h, e⟩ => e ▸ h, fun h => ⟨k, h, rfl⟩⟩
  unfold tput
  rw [any]
  by_cases h : k ∈ keysOf ps []
  · rw [if_pos (by simpa using h)]
    unfold table
    rw [keysOf_snoc, if_pos h, List.map_map]
    refine List.map_congr_left fun x _ => ?_
    simp only [Function.comp_def, lastOf_snoc]
    by_cases q : x = k <;> simp [q]
  · rw [if_neg (by simpa using h)]
    unfold table
    rw [keysOf_snoc, if_neg h, List.map_append]
    congr 1
    · refine List.map_congr_left fun x hx => ?_
      rw [lastOf_snoc, if_neg (fun q : x = k => h (by rw [← q]; exact hx))]
    · simp [lastOf_snoc]
theorem table_foldl (ps : List (List Nat × List Nat)) : ps.foldl (fun a p => tput a p.1 p.2) [] = table ps := by
  suffices H : ∀ n (ps : List (List Nat × List Nat)), ps.length = n → ps.foldl (fun a p => tput a p.1 p.2) [] = table ps from H _ ps rfl
  intro n
  induction n with
  | zero => intro ps h; rw [List.eq_nil_of_length_eq_zero h]; rfl
  | succ n ih =>
    intro ps h
    rcases List.eq_nil_or_concat ps with e | ⟨qs, q, e⟩
    · rw [e] at h; simp at h
    · have e : ps = qs ++ [q] := by simpa using e
      subst e
      obtain ⟨k, v⟩ := q
      rw [List.foldl_append, ih qs (by simpa using h), table_snoc]; rfl
theorem keqvC (acc : List (List Nat × List Nat)) (it : List Nat) (r : List (List Nat)) : keqv acc (it :: r) = match kvOf it with | .error c => .error c | .ok (k, v) => keqv (tput acc k v) r := rfl
end Mine
end

section
namespace Mine

/-- the reader's states: outside, inside quotes, behind a backslash there -/
inductive Rs where | out | held | esc
  deriving DecidableEq
noncomputable def partsOf (st : List (List Nat) × List (List Nat) × List (List Nat)) : Rs → List (List Nat)
  | .out => st.1
  | .held => st.2.1
  | .esc => st.2.2
/-- the parts of a text that is read from a state -/
noncomputable def parts (r : Rs) (t : List Nat) : List (List Nat) := partsOf (rrun t) r
theorem rrun_cons (c : Nat) (t : List Nat) : rrun (c :: t) = rstep c (rrun t) := rfl
/-- a beginning ahead of the first part -/
noncomputable def addF (p : List Nat) : List (List Nat) → List (List Nat)
  | [] => [p]
  | x :: r => (p ++ x) :: r
theorem addF_addH (p : List Nat) (c : Nat) (l : List (List Nat)) (h : l ≠ []) : addF p (addH c l) = addF (p ++ [c]) l := by
  cases l with
  | nil => exact (h rfl).elim
  | cons x r => simp [addF, addH]
theorem addF_nil (l : List (List Nat)) (h : l ≠ []) : addF [] l = l := by
  cases l with
  | nil => exact (h rfl).elim
  | cons x r => rfl
noncomputable def stateOf : Bool → Bool → Rs
  | true, _ => .esc
  | false, true => .held
  | false, false => .out
theorem parts_ne (r : Rs) (t : List Nat) : parts r t ≠ [] := by
  cases r
  · exact (rrun_ok t).1.1
  · exact (rrun_ok t).2.1.1
  · exact (rrun_ok t).2.2.1
theorem parts_out (c : Nat) (t : List Nat) : parts .out (c :: t) = if c = 34 then addH c (parts .held t) else if c = 44 then [] :: parts .out t else addH c (parts .out t) := by
  unfold parts
  rw [rrun_cons]
  unfold rstep partsOf
  by_cases h : c = 34 <;> by_cases h2 : c = 92 <;> by_cases h3 : c = 44 <;> simp [h, h2, h3]
theorem parts_held (c : Nat) (t : List Nat) : parts .held (c :: t) = if c = 34 then addH c (parts .out t) else if c = 92 then parts .esc t else addH c (parts .held t) := by
  unfold parts
  rw [rrun_cons]
  unfold rstep partsOf
  by_cases h : c = 34 <;> by_cases h2 : c = 92 <;> by_cases h3 : c = 44 <;> simp [h, h2, h3]
theorem parts_esc (c : Nat) (t : List Nat) : parts .esc (c :: t) = addH c (parts .held t) := by
  unfold parts
  rw [rrun_cons]
  unfold rstep partsOf
  by_cases h : c = 34 <;> by_cases h2 : c = 92 <;> by_cases h3 : c = 44 <;> simp [h, h2, h3]
/-- reading from the left and from the right -/
theorem hrun_parts : ∀ (t : List Nat) (res : List (List Nat)) (part : List Nat) (esc quo : Bool), (esc = true → quo = true) →
    (t.foldl hstep (res, part, esc, quo)).1 ++ [(t.foldl hstep (res, part, esc, quo)).2.1] = res ++ addF part (parts (stateOf esc quo) t)
  | [], res, part, esc, quo, _ => by
    have : parts (stateOf esc quo) [] = [[]] := by cases esc <;> cases quo <;> rfl
    rw [this]; simp [addF]
  | c :: t, res, part, esc, quo, hq => by
    rw [List.foldl_cons]
    cases esc with
    | true =>
      have e : hstep (res, part, true, quo) c = (res, part ++ [c], false, quo) := by simp [hstep]
      obtain rfl := hq rfl
      rw [e, hrun_parts t _ _ _ _ (by simp)]
      show _ = res ++ addF part (parts .esc (c :: t))
      rw [parts_esc, addF_addH _ _ _ (parts_ne _ _)]; rfl
    | false =>
      cases quo with
      | true =>
        show _ = res ++ addF part (parts .held (c :: t))
        rw [parts_held]
        by_cases h1 : c = 92
        · have e : hstep (res, part, false, true) c = (res, part, true, true) := by simp [hstep, h1]
          rw [e, hrun_parts t _ _ _ _ (by simp), if_neg (by omega), if_pos h1]; rfl
        · by_cases h2 : c = 34
          · have e : hstep (res, part, false, true) c = (res, part ++ [c], false, false) := by simp [hstep, h2]
            rw [e, hrun_parts t _ _ _ _ (by simp), if_pos h2, addF_addH _ _ _ (parts_ne _ _)]; rfl
          · have e : hstep (res, part, false, true) c = (res, part ++ [c], false, true) := by simp [hstep, h1, h2]
            rw [e, hrun_parts t _ _ _ _ (by simp), if_neg h2, if_neg h1, addF_addH _ _ _ (parts_ne _ _)]; rfl
      | false =>
        show _ = res ++ addF part (parts .out (c :: t))
        rw [parts_out]
        by_cases h1 : c = 44
        · have e : hstep (res, part, false, false) c = (res ++ [part], [], false, false) := by simp [hstep, h1]
          rw [e, hrun_parts t _ _ _ _ (by simp), if_neg (by omega), if_pos h1]
          show (res ++ [part]) ++ addF [] (parts .out t) = _
          rw [addF_nil _ (parts_ne _ _)]
          simp [addF]
        · by_cases h2 : c = 34
          · have e : hstep (res, part, false, false) c = (res, part ++ [c], false, true) := by simp [hstep, h2]
            rw [e, hrun_parts t _ _ _ _ (by simp), if_pos h2, addF_addH _ _ _ (parts_ne _ _)]; rfl
          · have e : hstep (res, part, false, false) c = (res, part ++ [c], false, false) := by simp [hstep, h1, h2]
            rw [e, hrun_parts t _ _ _ _ (by simp), if_neg h2, if_neg h1, addF_addH _ _ _ (parts_ne _ _)]; rfl
/-- without an empty last part -/
noncomputable def shed (l : List (List Nat)) : List (List Nat) := if l.getLast? = some [] then l.dropLast else l
theorem hraw_parts (t : List Nat) : hraw t = shed (parts .out t) := by
  have h := hrun_parts t [] [] false false (by simp)
  rw [List.nil_append, addF_nil _ (parts_ne _ _)] at h
  show hraw t = shed (parts (stateOf false false) t)
  rw [← h]
  unfold hraw shed hrun
  rw [List.getLast?_concat]
  by_cases q : (t.foldl hstep ([], [], false, false)).2.1 = []
  · rw [if_pos q, if_pos (by rw [q])]; simp
  · rw [if_neg q, if_neg (fun z => q (Option.some.inj z))]
end Mine
end

section
namespace Mine

/-- the next state -/
noncomputable def nxt : Rs → Nat → Rs
  | .out, c => if c = 34 then .held else .out
  | .held, c => if c = 34 then .out else if c = 92 then .esc else .held
  | .esc, _ => .held
/-- what a sign gives -/
noncomputable def gives : Rs → Nat → List Nat
  | .held, c => if c = 92 then [] else [c]
  | _, c => [c]
noncomputable def deq : Rs → List Nat → List Nat
  | _, [] => []
  | s, c :: r => gives s c ++ deq (nxt s c) r
noncomputable def fin : Rs → List Nat → Rs
  | s, [] => s
  | s, c :: r => fin (nxt s c) r
/-- no comma outside quotes -/
noncomputable def clean : Rs → List Nat → Prop
  | _, [] => True
  | s, c :: r => ¬ (s = .out ∧ c = 44) ∧ clean (nxt s c) r
theorem fin_append : ∀ (s : Rs) (a b : List Nat), fin s (a ++ b) = fin (fin s a) b
  | s, [], b => rfl
  | s, c :: a, b => fin_append (nxt s c) a b
theorem deq_append : ∀ (s : Rs) (a b : List Nat), deq s (a ++ b) = deq s a ++ deq (fin s a) b
  | s, [], b => rfl
  | s, c :: a, b => by
    show gives s c ++ deq (nxt s c) (a ++ b) = gives s c ++ deq (nxt s c) a ++ _
    rw [deq_append (nxt s c) a b, List.append_assoc]; rfl
theorem clean_append : ∀ (s : Rs) (a b : List Nat), clean s (a ++ b) ↔ clean s a ∧ clean (fin s a) b
  | s, [], b => by simp [clean, fin]
  | s, c :: a, b => by
    show _ ∧ clean (nxt s c) (a ++ b) ↔ (_ ∧ clean (nxt s c) a) ∧ _
    rw [clean_append (nxt s c) a b]
    constructor
    · rintro ⟨h1, h2, h3⟩; exact ⟨⟨h1, h2⟩, h3⟩
    · rintro ⟨⟨h1, h2⟩, h3⟩; exact ⟨h1, h2, h3⟩
/-- one sign of a text that is read -/
theorem parts_step (s : Rs) (c : Nat) (t : List Nat) (h : ¬ (s = .out ∧ c = 44)) : parts s (c :: t) = addF (gives s c) (parts (nxt s c) t) := by
  have one : ∀ l : List (List Nat), l ≠ [] → addH c l = addF [c] l := fun l hl => by
    cases l with
    | nil => exact (hl rfl).elim
    | cons x r => rfl
  cases s with
  | out =>
    have h : c ≠ 44 := fun q => h ⟨rfl, q⟩
    rw [parts_out]
    by_cases h1 : c = 34
    · rw [if_pos h1, one _ (parts_ne _ _)]; simp [gives, nxt, h1]
    · rw [if_neg h1, if_neg h, one _ (parts_ne _ _)]; simp [gives, nxt, h1]
  | held =>
    rw [parts_held]
    by_cases h1 : c = 34
    · rw [if_pos h1, one _ (parts_ne _ _)]; simp [gives, nxt, h1]
    · by_cases h2 : c = 92
      · rw [if_neg h1, if_pos h2]
        have e1 : gives .held c = [] := by simp [gives, h2]
        have e2 : nxt .held c = .esc := by simp [nxt, h2]
        rw [e1, e2, addF_nil _ (parts_ne _ _)]
      · rw [if_neg h1, if_neg h2, one _ (parts_ne _ _)]; simp [gives, nxt, h1, h2]
  | esc => rw [parts_esc, one _ (parts_ne _ _)]; rfl
theorem parts_clean : ∀ (a : List Nat) (s : Rs), clean s a → parts s a = [deq s a]
  | [], s, _ => by cases s <;> rfl
  | c :: a, s, h => by rw [parts_step s c a h.1, parts_clean a _ h.2]; rfl
theorem parts_cut : ∀ (a b : List Nat) (s : Rs), clean s a → fin s a = .out → parts s (a ++ 44 :: b) = deq s a :: parts .out b
  | [], b, s, _, hf => by
    obtain rfl : s = .out := hf
    show parts .out (44 :: b) = _
    rw [parts_out]; rfl
  | c :: a, b, s, h, hf => by
    show parts s (c :: (a ++ 44 :: b)) = _
    rw [parts_step s c _ h.1, parts_cut a b _ h.2 hf]; rfl
/-- the raw parts of a text -/
inductive Segs : List Nat → List (List Nat) → Prop
  | one {a : List Nat} : clean .out a → Segs a [a]
  | cons {a b : List Nat} {l : List (List Nat)} : clean .out a → fin .out a = .out → Segs b l → Segs (a ++ 44 :: b) (a :: l)
theorem Segs.parts {t : List Nat} {l : List (List Nat)} (h : Segs t l) : Mine.parts .out t = l.map (deq .out) := by
  induction h with
  | one h => rw [parts_clean _ _ h]; rfl
  | cons h f _ ih => rw [parts_cut _ _ _ h f, ih]; rfl
end Mine
end

section
namespace Mine

/-- what stands ahead of a thing in a tree: the key as it is written, as it is read, the white space -/
structure Hd where
  kw : List Nat
  kr : List Nat
  gap : List Nat
inductive T where
  | leaf (h : Hd) (x : Bool) (s : List Nat)
  | node (h : Hd) (d : Bool) (cs : List T)
noncomputable def T.hd : T → Hd
  | .leaf h _ _ => h
  | .node h _ _ => h
noncomputable def knd (d : Bool) : List Nat := if d then [100] else [108]
noncomputable def lkn (x : Bool) : List Nat := if x then [120] else [116]
mutual
noncomputable def T.dat : T → PyData
  | .leaf _ x s => .list [tx (lkn x), tx s]
  | .node _ d cs => .list [tx (knd d), .list (kids cs)]
noncomputable def kids : List T → List PyData
  | [] => []
  | t :: r => .tuple [.tuple [tx t.hd.kw, tx t.hd.kr], tx t.hd.gap, t.dat] :: kids r
end
noncomputable def kid (t : T) : PyData := .tuple [.tuple [tx t.hd.kw, tx t.hd.kr], tx t.hd.gap, t.dat]
theorem kids_map : ∀ cs : List T, kids cs = cs.map kid
  | [] => by rw [kids]; rfl
  | t :: r => by rw [kids, kids_map r]; rfl
theorem dat_node (h : Hd) (d : Bool) (cs : List T) : (T.node h d cs).dat = .list [tx (knd d), .list (cs.map kid)] := by rw [T.dat, kids_map]
theorem dat_leaf (h : Hd) (x : Bool) (s : List Nat) : (T.leaf h x s).dat = .list [tx (lkn x), tx s] := by rw [T.dat]

/-- an open level: its own heading, its kind, the children that are closed -/
structure Lv where
  hd : Hd
  d : Bool
  cs : List T
/-- the open levels closed, the innermost first -/
noncomputable def clo (t : T) : List Lv → T
  | [] => t
  | L :: Ls => clo (.node L.hd L.d (L.cs ++ [t])) Ls
end Mine
end

section
set_option maxRecDepth 100000
namespace Mine

noncomputable def Link (B : Wd) (P : Addr → Prop) (h : Heap) (v : Value) (hd : Hd) (a : Addr) : Prop :=
  ∃ t kv gv, v = .ref t ∧ P t ∧ h.IsTuple t #[kv, gv, .ref a] ∧ Rd B P h kv (.tuple [tx hd.kw, tx hd.kr]) ∧ Rd B P h gv (tx hd.gap)
noncomputable def NodeAt (B : Wd) (P : Addr → Prop) (h : Heap) (a c : Addr) (d : Bool) : Prop := ∃ v0, h.PlainList a #[v0, .ref c] ∧ Rd B P h v0 (tx (knd d))
noncomputable def Up (B : Wd) (P : Addr → Prop) (h : Heap) : Addr → Hd → List (Addr × Addr) → List Lv → Prop
  | _, _, [], [] => True
  | a', hd', (a, c) :: as, L :: Ls => NodeAt B P h a c L.d ∧ (∃ (vs : Array Value) (v : Value), h.PlainList c (vs.push v) ∧ Rds B P h vs.toList (L.cs.map kid) ∧ Link B P h v hd' a') ∧ Up B P h a L.hd as Ls
  | _, _, _, _ => False
noncomputable def TopAt (B : Wd) (P : Addr → Prop) (h : Heap) : List (Addr × Addr) → List Lv → Prop
  | (a, c) :: as, L :: Ls => NodeAt B P h a c L.d ∧ (∃ vs : Array Value, h.PlainList c vs ∧ Rds B P h vs.toList (L.cs.map kid)) ∧ Up B P h a L.hd as Ls
  | _, _ => False
noncomputable def flatA : List (Addr × Addr) → List Addr
  | [] => []
  | (a, c) :: r => a :: c :: flatA r

section
variable {B : Wd} {P P' : Addr → Prop} {h h' : Heap}
theorem plain_nf {a : Addr} {vs : Array Value} (x : h.PlainList a vs) : ∀ o, h.get? a = some o → NoFields o := isList_nf x.isList
theorem Link.up {v : Value} {hd : Hd} {a : Addr} (x : Link B P h v hd a) (k : ∀ b o, P b → h.get? b = some o → NoFields o → h'.get? b = some o) (p : ∀ b o, P b → h.get? b = some o → NoFields o → P' b) : Link B P' h' v hd a := by
  obtain ⟨t, kv, gv, e, pt, ht, r1, r2⟩ := x
  obtain ⟨o, eo, _⟩ := id ht
  exact ⟨t, kv, gv, e, p t o pt eo (isTuple_nf ht o eo), isTuple_keep ht fun o eo => k t o pt eo (isTuple_nf ht o eo), r1.upN k p, r2.upN k p⟩
theorem NodeAt.up {a c : Addr} {d : Bool} (x : NodeAt B P h a c d) (k : ∀ b o, b = a → h.get? b = some o → NoFields o → h'.get? b = some o) : NodeAt B P' h' a c d := by
  obtain ⟨v0, l, r⟩ := x
  exact ⟨v0, plainList_keep l fun o e => k a o rfl e (plain_nf l o e), r.flat rfl⟩
theorem Up.up : ∀ {as : List (Addr × Addr)} {Ls : List Lv} {a' : Addr} {hd' : Hd}, Up B P h a' hd' as Ls → (∀ b o, P b ∨ b ∈ flatA as → h.get? b = some o → NoFields o → h'.get? b = some o) → (∀ b o, P b → h.get? b = some o → NoFields o → P' b) → Up B P' h' a' hd' as Ls
  | [], [], _, _, _, _, _ => trivial
  | (a, c) :: as, L :: Ls, a', hd', x, k, p => by
    obtain ⟨x1, ⟨vs, v, l, r, q⟩, x3⟩ := x
    refine ⟨x1.up fun b o e => k b o (.inr (e ▸ .head _)), ⟨vs, v, plainList_keep l fun o e => k c o (.inr (.tail _ (.head _))) e (plain_nf l o e), r.upN (fun b o p => k b o (.inl p)) p, q.up (fun b o p => k b o (.inl p)) p⟩, Up.up x3 (fun b o q => k b o (q.imp id fun q => .tail _ (.tail _ q))) p⟩
  | [], _ :: _, _, _, x, _, _ => x.elim
  | _ :: _, [], _, _, x, _, _ => x.elim
theorem TopAt.up {as : List (Addr × Addr)} {Ls : List Lv} (x : TopAt B P h as Ls) (k : ∀ b o, P b ∨ b ∈ flatA as → h.get? b = some o → NoFields o → h'.get? b = some o) (p : ∀ b o, P b → h.get? b = some o → NoFields o → P' b) : TopAt B P' h' as Ls := by
  match as, Ls, x with
  | (a, c) :: as, L :: Ls, x =>
    obtain ⟨x1, ⟨vs, l, r⟩, x3⟩ := x
    exact ⟨x1.up fun b o e => k b o (.inr (e ▸ .head _)), ⟨vs, plainList_keep l fun o e => k c o (.inr (.tail _ (.head _))) e (plain_nf l o e), r.upN (fun b o p => k b o (.inl p)) p⟩, x3.up (fun b o q => k b o (q.imp id fun q => .tail _ (.tail _ q))) p⟩
end

noncomputable def refs (lst : List Addr) : Array Value := (lst.map Value.ref).toArray
/-- the path: its list, what stands in it, the open nodes (innermost first), those once open, the levels -/
noncomputable def PathR (p : Addr) (lst : List Addr) (as : List (Addr × Addr)) (ret : List Addr) (Ls : List Lv) : Raw where
  as := p :: (flatA as ++ ret)
  φ := fun B P h v => v = .ref p ∧ h.PlainList p (refs lst) ∧ TopAt B (fun b => P b ∨ b ∈ ret) h as Ls
  up := fun {B P P' h h' v} x k p' => ⟨x.1, plainList_keep x.2.1 fun o e => k p o (.inr (.head _)) e (plain_nf x.2.1 o e), x.2.2.up (fun b o q => k b o (by
    rcases q with (q | q) | q
    · exact .inl q
    · exact .inr (.tail _ (List.mem_append_right _ q))
    · exact .inr (.tail _ (List.mem_append_left _ q)))) fun b o q e nf => q.imp (fun q => p' b o q e nf) id⟩
/-- the path while a node hangs in the tree but is not yet in the list -/
noncomputable def PathP (p : Addr) (lst : List Addr) (as : List (Addr × Addr)) (ret : List Addr) (Ls : List Lv) (a' : Addr) (hd' : Hd) : Raw where
  as := p :: (flatA as ++ ret)
  φ := fun B P h v => v = .ref p ∧ h.PlainList p (refs lst) ∧ Up B (fun b => P b ∨ b ∈ ret) h a' hd' as Ls
  up := fun {B P P' h h' v} x k p' => ⟨x.1, plainList_keep x.2.1 fun o e => k p o (.inr (.head _)) e (plain_nf x.2.1 o e), x.2.2.up (fun b o q => k b o (by
    rcases q with (q | q) | q
    · exact .inl q
    · exact .inr (.tail _ (List.mem_append_right _ q))
    · exact .inr (.tail _ (List.mem_append_left _ q)))) fun b o q e nf => q.imp (fun q => p' b o q e nf) id⟩
/-- a new open node -/
noncomputable def NodeR (a c : Addr) (d : Bool) : Raw where
  as := [a, c]
  φ := fun B P h v => v = .ref a ∧ NodeAt B P h a c d ∧ h.PlainList c #[]
  up := fun {B P P' h h' v} x k p' => ⟨x.1, x.2.1.up fun b o e => k b o (.inr (e ▸ .head _)), plainList_keep x.2.2 fun o e => k c o (.inr (.tail _ (.head _))) e (plain_nf x.2.2 o e)⟩
/-- an address, no more -/
noncomputable def RootR (a : Addr) : Raw := ⟨[], fun _ _ _ v => v = .ref a, fun x _ _ => x⟩

section
variable {B : Wd} {X : String → Prop} {nm : List (Str × NameKind)} {n : Nat} {ρ : Loc} {Q : Fl → Loc → Prop} {fs : List Env} {env : Env} {h₀ : Heap} {own : List Addr} {s : Shared} {A : Around} {d : PyData} {x y : Str} {e ke value : Expr} {pos p px py p1 p2 apos cpos : Pos} {E : Value → Shared → Prop} {md : Md} {ss : List Stmt}

/-- x = [kind, []] -/
theorem ex_node {dd : Bool} (hk : Ev B nm n .O ρ ke (tx (knd dd))) (hx : nm.lookup x = some .local) (q : ∀ a c, a ≠ c → (∀ y R, ρ y = some (.raw R) → a ∉ R.as ∧ c ∉ R.as) → Q .next (put x (.raw (NodeR a c dd)) ρ))
    (hn : ∀ env, starEach [ke, .List [] p2] env = (false, eval ke env) :: starEach [.List [] p2] env := by intro _; rfl)
    (hs : ∀ env, swapsWith (.List [ke, .List [] p2] p1) (some (.Name x p)) pos.line env = pure false := by intro _; rfl) :
    Ex1 B X nm n ρ (.Assign [.Name x p] (.List [ke, .List [] p2] p1) pos) Q := fun A fs env h₀ own s E S ac => by
  refine wpAny_Assign_Name (wpAny_List (wpAny_items_cons (hk.thenT S fun v h₁ tk₁ t₁ st₁ S₁ r => wpAny_items_cons (wpAny_List (wpAny_items_nil ⟨by simp [sizeLine_eq], wpAny_items_nil ⟨by simp [sizeLine_eq], ?_⟩⟩)) rfl) (hn env))) (hs env)
  dsimp only
  have nC : s.heap.get? h₁.objs.size = none := not_before st₁ (get_size h₁)
  have st₂ : Stay (adr fs) [] s.heap (h₁.push { cls := .type "list", data := .seq #[] }) := st₁.tr (.push _ _ _ _)
  have nA : s.heap.get? (h₁.push { cls := .type "list", data := .seq #[] }).objs.size = none := not_before st₂ (get_size _)
  have ne : (h₁.push { cls := .type "list", data := .seq #[] }).objs.size ≠ h₁.objs.size := by rw [Heap.size_push]; exact Nat.succ_ne_self _
  refine post_raw (R := NodeR (h₁.push { cls := .type "list", data := .seq #[] }).objs.size h₁.objs.size dd) (new := [(h₁.push { cls := .type "list", data := .seq #[] }).objs.size, h₁.objs.size]) S hx t₁ (st₂.tr (.push _ _ _ _)) (fun a ha => ?_) (fun a ha => .inl ha) (fun h' kb => ?_) (q _ _ ne fun y R e => ?_)
  · rcases List.mem_cons.mp ha with e | ha
    · rw [e]; exact ⟨nA, _, Heap.get?_push_size _ rfl⟩
    · rw [List.mem_singleton.mp ha]; exact ⟨nC, _, Heap.get?_push_of_some _ (Heap.get?_push_size _ rfl)⟩
  · have fa := S.sr.freshO nA
    have fc := S.sr.freshO nC
    refine ⟨rfl, ⟨v, plainList_keep (plain_push _ #[v, .ref h₁.objs.size]) fun o e => kb _ o fa.2.2.1 e, r.flat rfl⟩, ?_⟩
    exact plainList_keep (h := ((h₁.push { cls := .type "list", data := .seq #[] }).push { cls := .type "list", data := .seq #[v, .ref h₁.objs.size] })) (plainList_keep (plain_push h₁ #[]) fun o e => Heap.get?_push_of_some _ e) fun o e => kb _ o fc.2.2.1 e
  · obtain ⟨_, _, ho, _⟩ := S.sr.raw_at e
    refine ⟨fun z => ?_, fun z => ?_⟩
    · obtain ⟨⟨o, eo⟩, _⟩ := S.sr.owns _ (ho _ z).1
      rw [nA] at eo; cases eo
    · obtain ⟨⟨o, eo⟩, _⟩ := S.sr.owns _ (ho _ z).1
      rw [nC] at eo; cases eo

/-- the name of a raw thing, its value at hand -/
theorem raw_name {R : Raw} {K : Value → Shared → Prop} (S : Sta B nm n A fs env h₀ own ρ s) (h0 : ρ x = some (.raw R)) (k : ∀ v, R.φ B (Md.N.P h₀ fs env.locals own) s.heap v → K v s) (hd : (x == ("__debug__" : Str)) = false := by decide) : wpAny B.M A (eval (.Name x px) env) K E s := by
  obtain ⟨v, r, ho, m, hn, V⟩ := S.sr.raw_at h0
  exact wpAny_Name (load_var S hn V (k v r)) hd

/-- x = [y], y a new open node -/
theorem ex_path {a c : Addr} {dd : Bool} (h0 : ρ y = some (.raw (NodeR a c dd))) (hx : nm.lookup x = some .local) (q : ∀ p, p ≠ a → p ≠ c → Q .next (put x (.raw (PathR p [a] [(a, c)] [] [⟨⟨[], [], []⟩, dd, []⟩])) ρ))
    (hs : ∀ env, swapsWith (.List [.Name y py] p1) (some (.Name x p)) pos.line env = pure false := by intro _; rfl) (hd : (y == ("__debug__" : Str)) = false := by decide) :
    Ex1 B X nm n ρ (.Assign [.Name x p] (.List [.Name y py] p1) pos) Q := fun A fs env h₀ own s E S ac => by
  refine wpAny_Assign_Name (wpAny_List (wpAny_items_cons (raw_name S h0 (fun v r => wpAny_items_nil ⟨by simp [sizeLine_eq], ?_⟩) hd) rfl)) (hs env)
  obtain ⟨rfl, na, pc⟩ := r
  have nP := get_size s.heap
  have fp := S.sr.freshO nP
  obtain ⟨_, _, ho, _⟩ := S.sr.raw_at h0
  have la := S.sr.owns a (ho a (.head _)).1
  have lc := S.sr.owns c (ho c (.tail _ (.head _))).1
  refine post_raw (R := PathR s.heap.objs.size [a] [(a, c)] [] [⟨⟨[], [], []⟩, dd, []⟩]) (new := [s.heap.objs.size]) S hx (Nat.le_refl _) (.push _ _ _ _) (fun b hb => ?_) (fun b hb => ?_) (fun h' kb => ?_) (q _ ?_ ?_)
  · rw [List.mem_singleton.mp hb]; exact ⟨nP, _, Heap.get?_push_size _ rfl⟩
  · rcases List.mem_cons.mp hb with e | hb
    · exact .inl (e ▸ .head _)
    · exact .inr ⟨y, _, h0, by simpa [flatA, NodeR] using hb⟩
  · refine ⟨rfl, plainList_keep (plain_push s.heap #[.ref a]) fun o e => kb _ o fp.2.2.1 e, na.up fun b o e eo _ => kb b o (e ▸ la.2.2.2.1) (Heap.get?_push_of_some _ eo), ⟨#[], plainList_keep pc fun o eo => kb c o lc.2.2.2.1 (Heap.get?_push_of_some _ eo), .nil⟩, trivial⟩
  · obtain ⟨⟨o, e⟩, _⟩ := la; exact fresh_ne e
  · obtain ⟨⟨o, e⟩, _⟩ := lc; exact fresh_ne e
end
end Mine
end

section
set_option maxRecDepth 100000
namespace Mine

section
variable {B : Wd} {P P' : Addr → Prop} {h h' : Heap}
theorem node_rd {a c : Addr} {hd : Hd} {d : Bool} {cs : List T} {vs : Array Value} (x : NodeAt B P h a c d) (l : h.PlainList c vs) (r : Rds B P h vs.toList (cs.map kid)) (pa : P a) (pc : P c) : Rd B P h (.ref a) (T.node hd d cs).dat := by
  obtain ⟨v0, la, r0⟩ := x
  rw [dat_node]
  exact .list pa la.isList (.cons r0 (.cons (.list pc l.isList r) .nil))
theorem link_rd {v : Value} {a : Addr} {hd : Hd} {t : T} (x : Link B P h v hd a) (r : Rd B P h (.ref a) t.dat) (e : t.hd = hd) : Rd B P h v (kid t) := by
  obtain ⟨tt, kv, gv, rfl, pt, ht, r1, r2⟩ := x
  unfold kid
  rw [e]
  exact .tuple pt ht (.cons r1 (.cons r2 (.cons r .nil)))
noncomputable def rootA (a : Addr) : List (Addr × Addr) → Addr
  | [] => a
  | (b, _) :: r => rootA b r
theorem up_rd : ∀ {as : List (Addr × Addr)} {Ls : List Lv} {a : Addr} {hd : Hd} {t : T}, Up B P h a hd as Ls → Rd B P h (.ref a) t.dat → t.hd = hd → (∀ b ∈ flatA as, P b) → Rd B P h (.ref (rootA a as)) (clo t Ls).dat
  | [], [], _, _, _, _, r, _, _ => r
  | (a, c) :: as, L :: Ls, a', hd', t, x, r, e, k => by
    obtain ⟨x1, ⟨vs, v, l, q, y⟩, x3⟩ := x
    have z := up_rd (t := .node L.hd L.d (L.cs ++ [t])) x3 (node_rd (hd := L.hd) (cs := L.cs ++ [t]) x1 l (by rw [List.map_append, Array.toList_push]; exact q.snoc (link_rd y r e)) (k _ (.head _)) (k _ (.tail _ (.head _)))) rfl fun b hb => k b (.tail _ (.tail _ hb))
    exact z
  | [], _ :: _, _, _, _, x, _, _, _ => x.elim
  | _ :: _, [], _, _, _, x, _, _, _ => x.elim
end

section
variable {B : Wd} {X : String → Prop} {nm : List (Str × NameKind)} {n : Nat} {ρ : Loc} {Q : Fl → Loc → Prop} {fs : List Env} {env : Env} {h₀ : Heap} {own : List Addr} {s : Shared} {A : Around} {d : PyData} {x y f : Str} {e ke ge value : Expr} {pos p px py p1 p2 p3 p4 p5 apos cpos tpos : Pos} {E : Value → Shared → Prop} {md : Md} {ss : List Stmt} {k1 k2 tk0 : Nat}

/-- len of a raw list -/
theorem ev_lenRaw {R : Raw} {k : Nat} (hf : BName B nm f (.builtin "len")) (h0 : ρ x = some (.raw R)) (hr : ∀ P h v, R.φ B P h v → ∃ a vs, v = .ref a ∧ h.IsList a vs ∧ vs.size = k) (hk : k ≤ 1000)
    (hd : (x == ("__debug__" : Str)) = false := by decide) (hc : ∀ env, eval (.Call (.Name f p) [.Name x px] [] pos) env = (do callWith pos (← eval (.Name f p) env) [] (backTo pos (starEach [.Name x px] env)) (backToKw pos (keywordEach [] env))) := by intro _; rfl) :
    Ev B nm n md ρ (.Call (.Name f p) [.Name x px] [] pos) (.int k) := fun A fs env h₀ own s S => by
  refine Call_ (name_builtin S hf.kind hf.none hf.boot hf.main hf.debug (callWith_builtin1 (wpAny_items_cons (raw_name S h0 (fun v r => wpAny_items_nil ?_) hd) rfl) rfl rfl)) (hc env)
  obtain ⟨a, vs, rfl, hl, hz⟩ := hr _ _ _ r
  refine Calls.call_len_list hl (by omega) ?_
  rw [hz]; exact ⟨s.heap, _, rfl, .refl _ _ _, .int _ _⟩

/-- nothing of P lies in W -/
theorem not_own {b : Addr} (p : Md.N.P h₀ fs env.locals own b) {c : Addr} (hc : c ∈ own) : b ≠ c := fun z => p.2.1.2 (z ▸ hc)

/-- path.pop() -/
theorem ex_popR {pa a c a' c' : Addr} {lst ret : List Addr} {as : List (Addr × Addr)} {L L' : Lv} {Ls : List Lv} (h0 : ρ x = some (.raw (PathR pa (lst ++ [a]) ((a, c) :: (a', c') :: as) ret (L :: L' :: Ls)))) (hnd : (pa :: (flatA ((a, c) :: (a', c') :: as) ++ ret)).Nodup) (hz : lst.length ≤ 1000)
    (q : Q .next (put x (.raw (PathR pa lst ((a', c') :: as) (a :: c :: ret) (⟨L'.hd, L'.d, L'.cs ++ [.node L.hd L.d L.cs]⟩ :: Ls))) (clr [] ρ)))
    (hc : MCall (.Name x px) "pop" apos [] cpos := by intro _; rfl) (hd : (x == ("__debug__" : Str)) = false := by decide) (hsw : ∀ env, swapsWith (.Call (.Attribute (.Name x px) "pop" apos) [] [] cpos) none pos.line env = pure false := by intro _; rfl) :
    Ex1 B X nm n ρ (.Expr (.Call (.Attribute (.Name x px) "pop" apos) [] [] cpos) pos) Q := fun A fs env h₀ own s E S ac => by
  obtain ⟨_, φ0, ho, _⟩ := S.sr.raw_at h0
  refine wpAny_Expr_any (MethodCall_ (raw_name S h0 (fun v r => ?_) hd) (hc env)) (by unfold interactive; rw [S.sit.kind]; rfl) (hsw env)
  obtain ⟨rfl, hp, tp⟩ := r
  refine own_method (o := .Name x px) F.slot_list_pop F.type_list_pop hp (callWith_method0 ?_)
  obtain ⟨k1, e1⟩ := id hp
  have hk : (refs (lst ++ [a])).size - 1 = lst.length := by simp [refs]
  have hy : (refs (lst ++ [a]))[(refs (lst ++ [a])).size - 1]? = some (.ref a) := by rw [hk]; simp [refs]
  refine call_meets PySem.F.slot_list_pop ⟨_, e1, rfl⟩ PySem.F.entry_list_pop (PySem.F.args_list_pop_1 _) (PySem.MeetsSeq.list_pop_last pa _ k1 (.ref a) hy (by simp [refs, sizeLine_eq]; omega)) ⟨e1, ?_⟩
  have hs' := Heap.SameBut.update s.heap pa (Obj.mapSeq fun z => z.eraseIdxIfInBounds ((refs (lst ++ [a])).size - 1))
  have hp' : (s.heap.update pa (Obj.mapSeq fun z => z.eraseIdxIfInBounds ((refs (lst ++ [a])).size - 1))).PlainList pa (refs lst) := by
    have q := PySem.IsL.update e1 (fun z => z.eraseIdxIfInBounds ((refs (lst ++ [a])).size - 1))
    have e2 : (refs (lst ++ [a])).eraseIdxIfInBounds ((refs (lst ++ [a])).size - 1) = refs lst := by
      rw [hk]
      unfold refs
      rw [List.map_append, show lst.length = (lst.map Value.ref).length by simp]
      rw [show List.map Value.ref [a] = [Value.ref a] from rfl, kl_erase, List.append_nil]
    rw [e2] at q
    exact ⟨_, q⟩
  generalize hh : s.heap.update pa (Obj.mapSeq fun z => z.eraseIdxIfInBounds ((refs (lst ++ [a])).size - 1)) = h' at hs' hp'
  have kb : ∀ b o, b ∉ [pa] → s.heap.get? b = some o → h'.get? b = some o := fun b o nb e => (hs'.2 b (fun z => nb (by simp [z]))).trans e
  have po := (ho pa (.head _)).1
  have npa : ∀ b ∈ flatA ((a, c) :: (a', c') :: as) ++ ret, b ≠ pa := fun b hb z => (List.nodup_cons.mp hnd).1 (z ▸ hb)
  have R' : SR B h₀ fs env own (put x (.raw (PathR pa lst ((a', c') :: as) (a :: c :: ret) (⟨L'.hd, L'.d, L'.cs ++ [.node L.hd L.d L.cs]⟩ :: Ls))) (clr [] ρ)) h' := by
    refine S.sr.raw_change (W := [pa]) h0 (fun b hb => by rw [List.mem_singleton.mp hb]; exact .head _) kb (fun b hb => ⟨refs (lst ++ [a]), by rw [List.mem_singleton.mp hb]; exact hp⟩) (fun b hb => ⟨refs lst, by rw [List.mem_singleton.mp hb]; exact hp'⟩) (fun _ h => nomatch h) (fun b hb => ⟨x, _, h0, ?_⟩) (fun v rv => ⟨rv.1, hp', ?_⟩)
    · simp only [PathR, flatA, List.mem_cons, List.cons_append, List.mem_append] at hb ⊢
      rcases hb with q | q | q | q | q | q | q
      · exact .inl q
      · exact .inr (.inr (.inr (.inl q)))
      · exact .inr (.inr (.inr (.inr (.inl q))))
      · exact .inr (.inr (.inr (.inr (.inr (.inl q)))))
      · exact .inr (.inl q)
      · exact .inr (.inr (.inl q))
      · exact .inr (.inr (.inr (.inr (.inr (.inr q)))))
    · obtain ⟨x1, ⟨vs, l, r⟩, y1, ⟨ws, v', l', r', lk⟩, z1⟩ := tp
      have inc : ∀ b o, (Md.N.P h₀ fs env.locals own b ∨ b ∈ ret) → s.heap.get? b = some o → NoFields o → h'.get? b = some o := fun b o q e _ => kb b o (fun z => by
        rcases q with q | q
        · exact not_own q po (List.mem_singleton.mp z)
        · exact npa b (List.mem_append_right _ q) (List.mem_singleton.mp z)) e
      have sub : ∀ b o, (Md.N.P h₀ fs env.locals own b ∨ b ∈ ret) → s.heap.get? b = some o → NoFields o → (Md.N.P h₀ fs env.locals own b ∨ b ∈ a :: c :: ret) := fun b o q _ _ => q.imp id fun q => .tail _ (.tail _ q)
      have fl : ∀ b ∈ flatA ((a, c) :: (a', c') :: as), ∀ o, s.heap.get? b = some o → h'.get? b = some o := fun b hb o e => kb b o (fun z => npa b (List.mem_append_left _ hb) (List.mem_singleton.mp z)) e
      refine ⟨y1.up fun b o e eo _ => fl b (by rw [e]; simp [flatA]) o eo, ⟨ws.push v', plainList_keep l' fun o e => fl c' (by simp [flatA]) o e, ?_⟩, z1.up (fun b o q e nf => ?_) sub⟩
      · rw [Array.toList_push, List.map_append]
        refine (r'.upN inc sub).snoc (link_rd (lk.up inc sub) (node_rd (hd := L.hd) (x1.up fun b o e eo _ => fl b (by rw [e]; simp [flatA]) o eo) (plainList_keep l fun o e => fl c (by simp [flatA]) o e) (r.upN inc sub) (.inr (.head _)) (.inr (.tail _ (.head _)))) rfl)
      · rcases q with q | q
        · exact inc b o q e nf
        · exact fl b (by simp [flatA, q]) o e
  exact post_own (Q := Q) (tk₁ := s.toks) (Nat.le_refl s.toks) q (.refl _ _ _) po hs' (let ⟨k, e⟩ := hp'; ⟨_, e⟩) R'
end
end Mine
end

section
set_option maxRecDepth 100000
namespace Mine

section
variable {B : Wd} {X : String → Prop} {nm : List (Str × NameKind)} {n : Nat} {ρ : Loc} {Q : Fl → Loc → Prop} {fs : List Env} {env : Env} {h₀ : Heap} {own : List Addr} {s : Shared} {A : Around} {d : PyData} {x y f : Str} {e ke ge value : Expr} {pos p px py p1 p2 p3 p4 p5 apos cpos tpos : Pos} {E : Value → Shared → Prop} {md : Md} {ss : List Stmt} {k1 k2 k0 : Nat}

/-- path[-1][1] -/
noncomputable abbrev topE (x : Str) (px : Pos) (k1 : Nat) (p1 p2 p3 : Pos) (k2 : Nat) (p4 p5 : Pos) : Expr := .Subscript (.Subscript (.Name x px) (.UnaryOp .USub (.Constant (.int 1) k1 p1) p2) p3) (.Constant (.int 1) k2 p4) p5
theorem top_list {pa a c : Addr} {lst ret : List Addr} {as : List (Addr × Addr)} {L : Lv} {Ls : List Lv} {K : Value → Shared → Prop} (S : Sta B nm n A fs env h₀ own ρ s) (h0 : ρ x = some (.raw (PathR pa (lst ++ [a]) ((a, c) :: as) ret (L :: Ls)))) (hz : lst.length ≤ 1000)
    (k : ∀ h' tk, s.toks ≤ tk → Stay (adr fs) [] s.heap h' → Sta B nm n A fs env h₀ own ρ { s with heap := h', toks := tk } → K (.ref c) { s with heap := h', toks := tk })
    (hd : (x == ("__debug__" : Str)) = false := by decide) : wpAny B.M A (eval (topE x px k1 p1 p2 p3 k2 p4 p5) env) K E s := by
  refine Subscript_ (Subscript_ (raw_name S h0 (fun v r => (ev_neg (md := .O) (ev_int (i := 1))).thenT S fun i h₁ tk₁ t₁ st₁ S₁ ri => ?_) hd))
  obtain ⟨rfl, _, _⟩ := r
  obtain ⟨u, rfl⟩ := ri.int_inv
  obtain ⟨_, ⟨_, hp, _⟩, _⟩ := S₁.sr.raw_at h0
  have hsz : (refs (lst ++ [a])).size = lst.length + 1 := by simp [refs]
  refine tail_any (T := "list") hp.isList.typeIs slot_list_getitem.lookup (wpAny_getItem_list_neg hp.isList (x := .ref a) (by decide) (by rw [hsz]; omega) (by decide) (by rw [hsz, show ((-1 : Int) + ((lst.length + 1 : Nat) : Int)).toNat = lst.length by omega]; simp [refs]) ?_) (by with_unfolding_all rfl)
  refine (ev_int (md := .O) (i := 1)).thenT S₁ fun i h₂ tk₂ t₂ st₂ S₂ ri => ?_
  obtain ⟨u', rfl⟩ := ri.int_inv
  obtain ⟨_, ⟨_, _, ⟨v0, la, _⟩, _⟩, _⟩ := S₂.sr.raw_at h0
  refine tail_any (T := "list") la.isList.typeIs slot_list_getitem.lookup (wpAny_getItem_list la.isList (x := .ref c) (by decide) (by decide) (by simp) ?_) (by with_unfolding_all rfl)
  exact k h₂ tk₂ (Nat.le_trans t₁ t₂) (st₁.tr st₂) S₂

theorem not_ret {ret : List Addr} {a b c : Addr} {as : List (Addr × Addr)} {pa : Addr} (hnd : (pa :: (flatA ((a, c) :: as) ++ ret)).Nodup) : (pa ≠ a ∧ pa ≠ c ∧ pa ∉ flatA as ∧ pa ∉ ret) ∧ (a ≠ c ∧ a ∉ flatA as ∧ a ∉ ret) ∧ c ∉ flatA as ∧ c ∉ ret := by
  simp only [flatA, List.cons_append, List.nodup_cons, List.mem_cons, List.mem_append, not_or] at hnd
  obtain ⟨⟨q1, q2, q3, q4⟩, ⟨q5, q6, q7⟩, ⟨q8, q9⟩, _⟩ := hnd
  exact ⟨⟨q1, q2, q3, q4⟩, ⟨q5, q6, q7⟩, q8, q9⟩

/-- path[-1][1].append(e), e a new thing -/
theorem ex_kid {pa a c : Addr} {lst ret : List Addr} {as : List (Addr × Addr)} {L : Lv} {Ls : List Lv} {t : T} (h0 : ρ x = some (.raw (PathR pa (lst ++ [a]) ((a, c) :: as) ret (L :: Ls)))) (hnd : (pa :: (flatA ((a, c) :: as) ++ ret)).Nodup) (hz : lst.length ≤ 1000) (hz2 : L.cs.length ≤ 1000)
    (he : Ev B nm n .N ρ e (kid t)) (q : Q .next (put x (.raw (PathR pa (lst ++ [a]) ((a, c) :: as) ret (⟨L.hd, L.d, L.cs ++ [t]⟩ :: Ls))) (clr [] ρ)))
    (hc : MCall (topE x px k1 p1 p2 p3 k2 p4 p5) "append" apos [e] cpos := by intro _; rfl) (hn : ∀ env, starEach [e] env = [(false, eval e env)] := by intro _; rfl) (hd : (x == ("__debug__" : Str)) = false := by decide)
    (hsw : ∀ env, swapsWith (.Call (.Attribute (topE x px k1 p1 p2 p3 k2 p4 p5) "append" apos) [e] [] cpos) none pos.line env = pure false := by intro _; rfl) :
    Ex1 B X nm n ρ (.Expr (.Call (.Attribute (topE x px k1 p1 p2 p3 k2 p4 p5) "append" apos) [e] [] cpos) pos) Q := fun A fs env h₀ own s E S ac => by
  obtain ⟨n1, n2, n3, n4⟩ := not_ret (b := c) hnd
  refine wpAny_Expr_any (MethodCall_ (top_list S h0 hz (fun h₁ tk₁ t₁ st₁ S₁ => ?_) hd) (hc env)) (by unfold interactive; rw [S.sit.kind]; rfl) (hsw env)
  obtain ⟨_, ⟨_, _, _, ⟨vs₁, l₁, _⟩, _⟩, _⟩ := S₁.sr.raw_at h0
  refine own_method (o := e) F.slot_list_append F.type_list_append l₁ (callWith_method1 (args_cons (he.thenT S₁ fun v h₂ tk₂ t₂ st₂ S₂ rv => args_nil ?_) (hn env)) (hn env) rfl)
  obtain ⟨_, ⟨_, hp, x1, ⟨vs, l, r⟩, z1⟩, ho, _⟩ := S₂.sr.raw_at h0
  have hsz : vs.size = L.cs.length := by simpa using r.length
  refine wpAny_list_append_plain (s := { s with heap := h₂, toks := tk₂ }) l (fun h' hl' hs' => ?_) (by rw [hsz, sizeLine_eq]; omega)
  have co : c ∈ own := (ho c (by simp [PathR, flatA])).1
  have kb : ∀ b o, b ∉ [c] → h₂.get? b = some o → h'.get? b = some o := fun b o nb e => (hs'.2 b (fun z => nb (by simp [z]))).trans e
  have R' : SR B h₀ fs env own (put x (.raw (PathR pa (lst ++ [a]) ((a, c) :: as) ret (⟨L.hd, L.d, L.cs ++ [t]⟩ :: Ls))) (clr [] ρ)) h' := by
    refine S₂.sr.raw_change (W := [c]) h0 (fun b hb => by rw [List.mem_singleton.mp hb]; simp [PathR, flatA]) kb (fun b hb => ⟨vs, by rw [List.mem_singleton.mp hb]; exact l⟩) (fun b hb => ⟨vs.push v, by rw [List.mem_singleton.mp hb]; exact hl'⟩) (fun _ h => nomatch h) (fun b hb => ⟨x, _, h0, hb⟩) (fun v' rv' => ⟨rv'.1, plainList_keep hp fun o e => kb pa o (by simpa using n1.2.1) e, ?_⟩)
    have inc : ∀ b o, (Md.N.P h₀ fs env.locals own b ∨ b ∈ ret) → h₂.get? b = some o → NoFields o → h'.get? b = some o := fun b o q e _ => kb b o (fun z => by
      rcases q with q | q
      · exact not_own q co (List.mem_singleton.mp z)
      · exact n4 (List.mem_singleton.mp z ▸ q)) e
    refine ⟨x1.up fun b o e eo _ => kb b o (by rw [e]; simpa using n2.1) eo, ⟨vs.push v, hl', ?_⟩, z1.up (fun b o q e nf => ?_) fun _ _ p _ _ => p⟩
    · rw [Array.toList_push, List.map_append]
      exact (r.upN inc fun _ _ p _ _ => p).snoc (rv.upN (fun b o p => inc b o (.inl p)) fun _ _ p _ _ => .inl p)
    · rcases q with q | q
      · exact inc b o q e nf
      · exact kb b o (fun z => n3 (List.mem_singleton.mp z ▸ q)) e
  exact post_own (Q := Q) (tk₁ := tk₂) (Nat.le_trans t₁ t₂) q (st₁.tr st₂) co hs' (let ⟨k, e⟩ := hl'; ⟨_, e⟩) R'

/-- path[-1][1].append((key, gap, y)), y a new open node -/
theorem ex_kidOpen {pa a c a' c' : Addr} {dd : Bool} {hd' : Hd} {lst ret : List Addr} {as : List (Addr × Addr)} {L : Lv} {Ls : List Lv} (h0 : ρ x = some (.raw (PathR pa (lst ++ [a]) ((a, c) :: as) ret (L :: Ls)))) (hy : ρ y = some (.raw (NodeR a' c' dd))) (hnd : (pa :: (flatA ((a, c) :: as) ++ ret)).Nodup) (hz : lst.length ≤ 1000) (hz2 : L.cs.length ≤ 1000)
    (hac : c ≠ a' ∧ c ≠ c') (hk : Ev B nm n .N ρ ke (.tuple [tx hd'.kw, tx hd'.kr])) (hg : Ev B nm n .N ρ ge (tx hd'.gap)) (q : Q .next (put x (.raw (PathP pa (lst ++ [a]) ((a, c) :: as) ret (L :: Ls) a' hd')) (clr [y] ρ)))
    (hc : MCall (topE x px k1 p1 p2 p3 k2 p4 p5) "append" apos [.Tuple [ke, ge, .Name y py] k0 tpos] cpos := by intro _; rfl)
    (hn1 : ∀ env, starEach [ke, ge, .Name y py] env = (false, eval ke env) :: starEach [ge, .Name y py] env := by intro _; rfl) (hn2 : ∀ env, starEach [ge, .Name y py] env = (false, eval ge env) :: starEach [.Name y py] env := by intro _; rfl)
    (hd : (x == ("__debug__" : Str)) = false := by decide) (hdy : (y == ("__debug__" : Str)) = false := by decide)
    (hsw : ∀ env, swapsWith (.Call (.Attribute (topE x px k1 p1 p2 p3 k2 p4 p5) "append" apos) [.Tuple [ke, ge, .Name y py] k0 tpos] [] cpos) none pos.line env = pure false := by intro _; rfl) :
    Ex1 B X nm n ρ (.Expr (.Call (.Attribute (topE x px k1 p1 p2 p3 k2 p4 p5) "append" apos) [.Tuple [ke, ge, .Name y py] k0 tpos] [] cpos) pos) Q := fun A fs env h₀ own s E S ac => by
  obtain ⟨n1, n2, n3, n4⟩ := not_ret (b := c) hnd
  refine wpAny_Expr_any (MethodCall_ (top_list S h0 hz (fun h₁ tk₁ t₁ st₁ S₁ => ?_) hd) (hc env)) (by unfold interactive; rw [S.sit.kind]; rfl) (hsw env)
  obtain ⟨_, ⟨_, _, _, ⟨vs₁, l₁, _⟩, _⟩, _⟩ := S₁.sr.raw_at h0
  refine own_method (o := ke) F.slot_list_append F.type_list_append l₁ (callWith_method1 (args_cons (wpAny_Tuple (wpAny_items_cons (hk.thenT S₁ fun kv h₂ tk₂ t₂ st₂ S₂ rk => wpAny_items_cons (hg.thenT S₂ fun gv h₃ tk₃ t₃ st₃ S₃ rg => wpAny_items_cons (raw_name S₃ hy (fun v r => wpAny_items_nil ⟨by simp [sizeLine_eq], args_nil ?_⟩) hdy) rfl) (hn2 env)) (hn1 env))) rfl) rfl rfl)
  obtain ⟨rfl, _, _⟩ := r
  have st₄ : Stay (adr fs) [] h₃ (h₃.push { cls := .type "tuple", data := .seq #[kv, gv, .ref a'] }) := .push _ _ _ _
  have S₄ := S₃.grow st₄ (Nat.le_refl _)
  have pt : Md.N.P h₀ fs env.locals own h₃.objs.size := S₃.sr.fresh .N (get_size h₃)
  have ht : (h₃.push { cls := .type "tuple", data := .seq #[kv, gv, .ref a'] }).IsTuple h₃.objs.size #[kv, gv, .ref a'] := ⟨_, Heap.get?_push_size _ rfl, rfl, 0, rfl⟩
  have rk' := (rk.grow st₃).grow st₄
  have rg' := rg.grow st₄
  show wpAny B.M A (call (.builtin "list.append") [.ref c, .ref h₃.objs.size]) _ _ { s with heap := h₃.push { cls := .type "tuple", data := .seq #[kv, gv, .ref a'] }, toks := tk₃ }
  dsimp only at S₄
  generalize hH : h₃.push { cls := .type "tuple", data := .seq #[kv, gv, .ref a'] } = h₄ at S₄ st₄ ht rk' rg' ⊢
  obtain ⟨_, ⟨_, hp, x1, ⟨vs, l, r⟩, z1⟩, ho, _⟩ := S₄.sr.raw_at h0
  have hsz : vs.size = L.cs.length := by simpa using r.length
  refine wpAny_list_append_plain (s := { s with heap := h₄, toks := tk₃ }) l (fun h' hl' hs' => ?_) (by rw [hsz, sizeLine_eq]; omega)
  have co : c ∈ own := (ho c (by simp [PathR, flatA])).1
  have kb : ∀ b o, b ∉ [c] → h₄.get? b = some o → h'.get? b = some o := fun b o nb e => (hs'.2 b (fun z => nb (by simp [z]))).trans e
  have R' : SR B h₀ fs env own (put x (.raw (PathP pa (lst ++ [a]) ((a, c) :: as) ret (L :: Ls) a' hd')) (clr [y] ρ)) h' := by
    refine S₄.sr.raw_change (W := [c]) h0 (fun b hb => by rw [List.mem_singleton.mp hb]; simp [PathR, flatA]) kb (fun b hb => ⟨vs, by rw [List.mem_singleton.mp hb]; exact l⟩) (fun b hb => ⟨vs.push (.ref h₃.objs.size), by rw [List.mem_singleton.mp hb]; exact hl'⟩) (fun y' hy' R2 e2 b hb => ?_) (fun b hb => ⟨x, _, h0, hb⟩) (fun v' rv' => ⟨rv'.1, plainList_keep hp fun o e => kb pa o (by simpa using n1.2.1) e, ?_⟩)
    · rw [List.mem_singleton.mp hy', hy] at e2
      cases e2
      rw [List.mem_singleton.mp hb]
      simpa [NodeR] using hac
    have inc : ∀ b o, (Md.N.P h₀ fs env.locals own b ∨ b ∈ ret) → h₄.get? b = some o → NoFields o → h'.get? b = some o := fun b o q e _ => kb b o (fun z => by
      rcases q with q | q
      · exact not_own q co (List.mem_singleton.mp z)
      · exact n4 (List.mem_singleton.mp z ▸ q)) e
    refine ⟨x1.up fun b o e eo _ => kb b o (by rw [e]; simpa using n2.1) eo, ⟨vs, .ref h₃.objs.size, hl', r.upN inc fun _ _ p _ _ => p, ?_⟩, z1.up (fun b o q e nf => ?_) fun _ _ p _ _ => p⟩
    · exact Link.up (P := Md.N.P h₀ fs env.locals own) (h := h₄) ⟨h₃.objs.size, kv, gv, rfl, pt, ht, rk', rg'⟩ (fun b o p => inc b o (.inl p)) fun _ _ p _ _ => .inl p
    · rcases q with q | q
      · exact inc b o q e nf
      · exact kb b o (fun z => n3 (List.mem_singleton.mp z ▸ q)) e
  exact post_own (Q := Q) (tk₁ := tk₃) (Nat.le_trans (Nat.le_trans t₁ t₂) t₃) q (((st₁.tr st₂).tr st₃).tr st₄) co hs' (let ⟨k, e⟩ := hl'; ⟨_, e⟩) R'

/-- path.append(y) -/
theorem ex_pushR {pa a' c' : Addr} {dd : Bool} {hd' : Hd} {lst ret : List Addr} {as : List (Addr × Addr)} {Ls : List Lv} (h0 : ρ x = some (.raw (PathP pa lst as ret Ls a' hd'))) (hy : ρ y = some (.raw (NodeR a' c' dd))) (hnd : (pa :: (flatA as ++ ret)).Nodup) (hz : lst.length ≤ 1000) (hac : pa ≠ a' ∧ pa ≠ c')
    (q : Q .next (put x (.raw (PathR pa (lst ++ [a']) ((a', c') :: as) ret (⟨hd', dd, []⟩ :: Ls))) (clr [] ρ)))
    (hc : MCall (.Name x px) "append" apos [.Name y py] cpos := by intro _; rfl) (hd : (x == ("__debug__" : Str)) = false := by decide) (hdy : (y == ("__debug__" : Str)) = false := by decide)
    (hsw : ∀ env, swapsWith (.Call (.Attribute (.Name x px) "append" apos) [.Name y py] [] cpos) none pos.line env = pure false := by intro _; rfl) :
    Ex1 B X nm n ρ (.Expr (.Call (.Attribute (.Name x px) "append" apos) [.Name y py] [] cpos) pos) Q := fun A fs env h₀ own s E S ac => by
  refine wpAny_Expr_any (MethodCall_ (raw_name S h0 (fun v r => ?_) hd) (hc env)) (by unfold interactive; rw [S.sit.kind]; rfl) (hsw env)
  obtain ⟨rfl, hp, up⟩ := r
  refine own_method (o := .Name x px) F.slot_list_append F.type_list_append hp (callWith_method1 (args_cons (raw_name S hy (fun v r => args_nil ?_) hdy) rfl) rfl rfl)
  obtain ⟨rfl, na, lc⟩ := r
  obtain ⟨_, _, ho, _⟩ := S.sr.raw_at h0
  have hsz : (refs lst).size = lst.length := by simp [refs]
  refine wpAny_list_append_plain hp (fun h' hl' hs' => ?_) (by rw [hsz, sizeLine_eq]; omega)
  have po : pa ∈ own := (ho pa (.head _)).1
  have kb : ∀ b o, b ∉ [pa] → s.heap.get? b = some o → h'.get? b = some o := fun b o nb e => (hs'.2 b (fun z => nb (by simp [z]))).trans e
  have npa : ∀ b ∈ flatA as ++ ret, b ≠ pa := fun b hb z => (List.nodup_cons.mp hnd).1 (z ▸ hb)
  have hl2 : h'.PlainList pa (refs (lst ++ [a'])) := by
    have : (refs lst).push (.ref a') = refs (lst ++ [a']) := by simp [refs]
    rw [← this]; exact hl'
  have R' : SR B h₀ fs env own (put x (.raw (PathR pa (lst ++ [a']) ((a', c') :: as) ret (⟨hd', dd, []⟩ :: Ls))) (clr [] ρ)) h' := by
    refine S.sr.raw_change (W := [pa]) h0 (fun b hb => by rw [List.mem_singleton.mp hb]; exact .head _) kb (fun b hb => ⟨refs lst, by rw [List.mem_singleton.mp hb]; exact hp⟩) (fun b hb => ⟨refs (lst ++ [a']), by rw [List.mem_singleton.mp hb]; exact hl2⟩) (fun _ h => nomatch h) (fun b hb => ?_) (fun v' rv' => ⟨rv'.1, hl2, ?_⟩)
    · simp only [PathR, flatA, List.mem_cons, List.cons_append, List.mem_append] at hb
      rcases hb with q | q | q | q
      · exact ⟨x, _, h0, by rw [q]; exact .head _⟩
      · exact ⟨y, _, hy, by rw [q]; exact .head _⟩
      · exact ⟨y, _, hy, by rw [q]; exact .tail _ (.head _)⟩
      · exact ⟨x, _, h0, .tail _ (List.mem_append.mpr q)⟩
    have inc : ∀ b o, (Md.N.P h₀ fs env.locals own b ∨ b ∈ ret) → s.heap.get? b = some o → NoFields o → h'.get? b = some o := fun b o q e _ => kb b o (fun z => by
      rcases q with q | q
      · exact not_own q po (List.mem_singleton.mp z)
      · exact npa b (List.mem_append_right _ q) (List.mem_singleton.mp z)) e
    refine ⟨na.up fun b o e eo _ => kb b o (by rw [e]; simpa using Ne.symm hac.1) eo, ⟨#[], plainList_keep lc fun o eo => kb c' o (by simpa using Ne.symm hac.2) eo, .nil⟩, up.up (fun b o q e nf => ?_) fun _ _ p _ _ => p⟩
    rcases q with q | q
    · exact inc b o q e nf
    · exact kb b o (fun z => npa b (List.mem_append_left _ q) (List.mem_singleton.mp z)) e
  exact post_own (Q := Q) (tk₁ := s.toks) (Nat.le_refl s.toks) q (.refl _ _ _) po hs' (let ⟨k, e⟩ := hl2; ⟨_, e⟩) R'

/-- the root, closed -/
theorem ev_root {pa a c : Addr} {lst ret : List Addr} {as : List (Addr × Addr)} {L : Lv} {Ls : List Lv} (h0 : ρ x = some (.raw (PathR pa lst ((a, c) :: as) ret (L :: Ls)))) (hy : ρ y = some (.raw (RootR (rootA a as)))) (hdy : (y == ("__debug__" : Str)) = false := by decide) :
    Ev B nm n .F ρ (.Name y py) (clo (.node L.hd L.d L.cs) Ls).dat := fun A fs env h₀ own s S => by
  refine raw_name S hy (fun v r => ⟨s.heap, s.toks, rfl, .refl _ _ _, ?_⟩) hdy
  obtain rfl : v = .ref (rootA a as) := r
  obtain ⟨_, ⟨_, hp, x1, ⟨vs, l, r⟩, z1⟩, ho, _⟩ := S.sr.raw_at h0
  have pf : ∀ b, b ∈ pa :: (flatA ((a, c) :: as) ++ ret) → Md.F.P h₀ fs env.locals own b := fun b hb => let q := S.sr.owns b (ho b hb).1; ⟨q.2.2.2.2, q.2.2.1⟩
  have sub : ∀ b o, (Md.N.P h₀ fs env.locals own b ∨ b ∈ ret) → s.heap.get? b = some o → NoFields o → Md.F.P h₀ fs env.locals own b := fun b o q _ _ => q.elim (fun q => ⟨q.1, q.2.2⟩) fun q => pf b (.tail _ (List.mem_append_right _ q))
  refine up_rd (z1.up (fun _ _ _ e _ => e) sub) (node_rd (hd := L.hd) (x1.up fun b o e eo _ => eo) l (r.upN (fun _ _ _ e _ => e) sub) (pf a (by simp [flatA])) (pf c (by simp [flatA]))) rfl fun b hb => pf b (by simp [flatA, hb])
end
end Mine
end

section
set_option maxRecDepth 100000
set_option maxHeartbeats 8000000
namespace Mine
open_top hd02 for PySem.Challenge.rw_dz0130_02
end Mine
end

section
set_option maxRecDepth 100000
set_option maxHeartbeats 4000000
namespace Mine

noncomputable def wd (w : World) (mg mb : Str → Option Value) (base : Heap) : Wd := { prog := PySem.Challenge.rw_dz0130_02.row.prog, w, K := hd02.heap_39 w.params, p := hd02.view_39, loose := looseW hd02.view_39 [], mg, mb, base }

section
variable {w : World} {mg mb : Str → Option Value} {base : Heap} {nm : List (Str × NameKind)} {n : Nat} {ρ : Loc}
theorem b_len (hk : nm.lookup ("len" : Str) = some .globalImplicit) : BName (wd w mg mb base) nm "len" (.builtin "len") := ⟨hk, rfl, PyProof.Rows.Boot.«len», by decide, by decide⟩
theorem b_range (hk : nm.lookup ("range" : Str) = some .globalImplicit) : BName (wd w mg mb base) nm "range" (.type "range") := ⟨hk, rfl, PyProof.Rows.Boot.«range», by decide, by decide⟩
theorem b_VE (hk : nm.lookup ("ValueError" : Str) = some .globalImplicit) : BName (wd w mg mb base) nm "ValueError" (.type "ValueError") := ⟨hk, rfl, PyProof.Rows.Boot.«ValueError», by decide, by decide⟩
theorem b_IE (hk : nm.lookup ("IndexError" : Str) = some .globalImplicit) : BName (wd w mg mb base) nm "IndexError" (.type "IndexError") := ⟨hk, rfl, PyProof.Rows.Boot.«IndexError», by decide, by decide⟩
theorem d_keqv (hk : nm.lookup ("parse_keqv_list" : Str) = some .globalImplicit) : DName (wd w mg mb base) nm "parse_keqv_list" 21 := ⟨hk, rfl, ⟨_, _, rfl, rfl⟩, by decide⟩
theorem d_http (hk : nm.lookup ("parse_http_list" : Str) = some .globalImplicit) : DName (wd w mg mb base) nm "parse_http_list" 26 := ⟨hk, rfl, ⟨_, _, rfl, rfl⟩, by decide⟩
theorem d_text (hk : nm.lookup ("_law_text" : Str) = some .globalImplicit) : DName (wd w mg mb base) nm "_law_text" 31 := ⟨hk, rfl, ⟨_, _, rfl, rfl⟩, by decide⟩
theorem d_tree (hk : nm.lookup ("_law_tree" : Str) = some .globalImplicit) : DName (wd w mg mb base) nm "_law_tree" 38 := ⟨hk, rfl, ⟨_, _, rfl, rfl⟩, by decide⟩
theorem d_quoted (hk : nm.lookup ("_law_quoted" : Str) = some .globalImplicit) : DName (wd w mg mb base) nm "_law_quoted" 43 := ⟨hk, rfl, ⟨_, _, rfl, rfl⟩, by decide⟩
theorem d_write (hk : nm.lookup ("_law_write" : Str) = some .globalImplicit) : DName (wd w mg mb base) nm "_law_write" 50 := ⟨hk, rfl, ⟨_, _, rfl, rfl⟩, by decide⟩
theorem d_due (hk : nm.lookup ("_law_due" : Str) = some .globalImplicit) : DName (wd w mg mb base) nm "_law_due" 55 := ⟨hk, rfl, ⟨_, _, rfl, rfl⟩, by decide⟩
theorem d_one (hk : nm.lookup ("_law_one" : Str) = some .globalImplicit) : DName (wd w mg mb base) nm "_law_one" 62 := ⟨hk, rfl, ⟨_, _, rfl, rfl⟩, by decide⟩
theorem d_seen (hk : nm.lookup ("_law_seen" : Str) = some .globalImplicit) : DName (wd w mg mb base) nm "_law_seen" 67 := ⟨hk, rfl, ⟨_, _, rfl, rfl⟩, by decide⟩
theorem lst_tx (l : List (List Nat)) (p : List Nat) : l.map tx ++ [tx p] = (l ++ [p]).map tx := by simp

/-- parse_http_list -/
theorem c_http (t : List Nat) (hz : t.length ≤ 100000) : Fn (wd w mg mb base) 26 2 [tx t] (.list ((http t).map tx)) := by
  refine fn_intro1 (n := 1) (x := "s") rfl rfl rfl (fun _ => rfl) rfl rfl rfl rfl (fun _ => rfl) ?_
  refine ex_go (ex_own (evg_list evs_nil (by decide)) rfl ?_)
  refine ex_go (ex_assign (ev_tx (l := []) rfl) rfl ?_)
  refine ex_go (ex_assign2 ev_bool rfl rfl ?_)
  refine ex_go (ex_for (evi_str (ev_name rfl (.inl rfl))) (fun i ρ' => ρ' "res" = some (.lst ((hrun (t.take i)).1.map tx)) ∧ ρ' "part" = some (.dat (tx (hrun (t.take i)).2.1)) ∧ ρ' "escape" = some (.dat (.bool (hrun (t.take i)).2.2.1)) ∧ ρ' "quote" = some (.dat (.bool (hrun (t.take i)).2.2.2))) ⟨rfl, rfl, rfl, rfl⟩ ?_ ?_)
  · intro i d ρ' hd ⟨h1, h2, h3, h4⟩
    obtain ⟨c, hc, rfl⟩ : ∃ c, t[i]? = some c ∧ tx [c] = d := by simpa using hd
    refine ⟨_, as_name rfl, ?_⟩
    have hs := hrun_take hc
    obtain ⟨sz1, sz2⟩ := hrun_size (t.take i)
    have szt : (t.take i).length ≤ t.length := by rw [List.length_take]; omega
    obtain ⟨⟨res, part, esc, quo⟩, hst⟩ : ∃ st, st = hrun (t.take i) := ⟨_, rfl⟩
    rw [← hst] at h1 h2 h3 h4 hs sz1 sz2
    simp only at h1 h2 h3 h4 sz1 sz2
    have done : ∀ (ρ'' : Loc) (a b e q), hstep (res, part, esc, quo) c = (a, b, e, q) → ρ'' "res" = some (.lst (a.map tx)) → ρ'' "part" = some (.dat (tx b)) → ρ'' "escape" = some (.dat (.bool e)) → ρ'' "quote" = some (.dat (.bool q)) →
        (ρ'' "res" = some (.lst ((hrun (t.take (i + 1))).1.map tx)) ∧ ρ'' "part" = some (.dat (tx (hrun (t.take (i + 1))).2.1)) ∧ ρ'' "escape" = some (.dat (.bool (hrun (t.take (i + 1))).2.2.1)) ∧ ρ'' "quote" = some (.dat (.bool (hrun (t.take (i + 1))).2.2.2))) := fun ρ'' a b e q hq k1 k2 k3 k4 => by
      rw [hs, hq]; exact ⟨k1, k2, k3, k4⟩
    refine ex_go (ex_if (tr_val (ev_name h3 (.inl rfl)) trivial) (fun he => ?_) fun he => ?_)
    · obtain rfl : esc = true := he
      refine ex_go (ex_catStr h2 (ev_name (d := tx [c]) rfl (.inl rfl)) rfl (by simp; omega) ?_)
      refine ex_go (ex_assign ev_bool rfl ?_)
      exact ex_last (ex_continue (done _ res (part ++ [c]) false quo (by simp [hstep]) h1 rfl rfl h4))
    · obtain rfl : esc = false := he
      refine ex_nil ?_
      refine ex_go (ex_if (tr_val (ev_name h4 (.inl rfl)) trivial) (fun hq => ?_) fun hq => ?_)
      · obtain rfl : quo = true := hq
        refine ex_go (ex_if (tr_cmp (cm_eqs (b := [92]) (ev_name (d := tx [c]) rfl (.inl rfl)) (ev_tx rfl))) (fun hb => ?_) fun hb => ?_)
        · have hb : c = 92 := by simpa using hb
          refine ex_go (ex_assign ev_bool rfl ?_)
          exact ex_last (ex_continue (done _ res part true true (by simp [hstep, hb]) h1 h2 rfl h4))
        · have hb : ¬ c = 92 := by simpa using hb
          refine ex_last (ex_if (tr_cmp (cm_eqs (b := [34]) (ev_name (d := tx [c]) rfl (.inl rfl)) (ev_tx rfl))) (fun hb' => ?_) fun hb' => ?_)
          · have hb' : c = 34 := by simpa using hb'
            refine ex_last (ex_assign ev_bool rfl ?_)
            refine ex_go (ex_catStr h2 (ev_name (d := tx [c]) rfl (.inl rfl)) rfl (by simp; omega) ?_)
            exact ex_last (ex_continue (done _ res (part ++ [c]) false false (by simp [hstep, hb']) h1 rfl h3 rfl))
          · have hb' : ¬ c = 34 := by simpa using hb'
            refine ex_nil ?_
            refine ex_go (ex_catStr h2 (ev_name (d := tx [c]) rfl (.inl rfl)) rfl (by simp; omega) ?_)
            exact ex_last (ex_continue (done _ res (part ++ [c]) false true (by simp [hstep, hb, hb']) h1 rfl h3 h4))
      · obtain rfl : quo = false := hq
        refine ex_nil ?_
        refine ex_go (ex_if (tr_cmp (cm_eqs (b := [44]) (ev_name (d := tx [c]) rfl (.inl rfl)) (ev_tx rfl))) (fun hb => ?_) fun hb => ?_)
        · have hb : c = 44 := by simpa using hb
          refine ex_go (ex_append h1 (ev_name h2 (.inr (.inr rfl))) (by simp; omega) ?_)
          refine ex_go (ex_assign (ev_tx (l := []) rfl) rfl ?_)
          exact ex_last (ex_continue (done _ (res ++ [part]) [] false false (by simp [hstep, hb]) (by rw [← lst_tx]; rfl) rfl h3 h4))
        · have hb : ¬ c = 44 := by simpa using hb
          refine ex_nil ?_
          refine ex_go (ex_if (tr_cmp (cm_eqs (b := [34]) (ev_name (d := tx [c]) rfl (.inl rfl)) (ev_tx rfl))) (fun hb' => ?_) fun hb' => ?_)
          · have hb' : c = 34 := by simpa using hb'
            refine ex_last (ex_assign ev_bool rfl ?_)
            refine ex_last (ex_catStr h2 (ev_name (d := tx [c]) rfl (.inl rfl)) rfl (by simp; omega) ?_)
            exact done _ res (part ++ [c]) false true (by simp [hstep, hb']) h1 rfl h3 rfl
          · have hb' : ¬ c = 34 := by simpa using hb'
            refine ex_nil ?_
            refine ex_last (ex_catStr h2 (ev_name (d := tx [c]) rfl (.inl rfl)) rfl (by simp; omega) ?_)
            exact done _ res (part ++ [c]) false false (by simp [hstep, hb, hb']) h1 rfl h3 h4
  · intro ρ' ⟨h1, h2, h3, h4⟩
    rw [List.length_map, List.take_length] at h1 h2
    obtain ⟨sz1, sz2⟩ := hrun_size t
    obtain ⟨sw1, sw2⟩ := hraw_size t
    refine ex_mid (fun ρ'' => ρ'' "res" = some (.lst ((hraw t).map tx))) (ex_if (tr_val (ev_name h2 (.inl rfl)) (small_tx (by omega))) (fun hp => ?_) fun hp => ?_) fun ρ'' k1 => ?_
    · refine ex_last (ex_append h1 (ev_name h2 (.inr (.inr rfl))) (by simp; omega) ⟨rfl, ?_⟩)
      rw [truth_tx] at hp
      unfold hraw
      rw [if_neg hp, ← lst_tx]; rfl
    · refine ex_nil ⟨rfl, ?_⟩
      rw [truth_txF] at hp
      unfold hraw
      rw [if_pos hp]; exact h1
    · refine ex_last (ex_return (d := .list ((http t).map tx)) ?_ (.inl rfl))
      unfold http
      rw [← onTx_map trim]
      refine (evg_comp (md := .N) (compOk_plain rfl (by decide) (by decide) (by decide) (by decide)) (evi_own k1).lax (by simp; omega) (.inr rfl) (fun z q => nomatch q) (fun _ => true) (onTx fun x => tx (trim x)) (fun d ρ₁ hd hI => ?_)).ev.le rfl
      obtain ⟨x, hx, rfl⟩ := List.mem_map.mp hd
      exact ⟨_, (as_name rfl).toZ, hI.put' (fun q => nomatch q), .inl ⟨rfl, rfl⟩, fun _ => ev_strip (ev_name rfl (.inl rfl)) (by have := sw2 x hx; show x.length ≤ _; omega)⟩
end
noncomputable def toS (kvs : List (List Nat × List Nat)) : List (Str × PyData) := kvs.map fun kv => (⟨kv.1.toArray⟩, tx kv.2)
theorem toS_put (kvs : List (List Nat × List Nat)) (k v : List Nat) : dput (toS kvs) ⟨k.toArray⟩ (tx v) = toS (tput kvs k v) := by
  have hk : ∀ a : List Nat, ((⟨a.toArray⟩ : Str) = ⟨k.toArray⟩) = (a = k) := fun a => by simp
  unfold dput tput toS
  rw [List.any_map]
  simp only [Function.comp_def, hk]
  split
  · rw [List.map_map, List.map_map]
    refine List.map_congr_left fun kv _ => ?_
    simp only [Function.comp_def, hk]
    split <;> rfl
  · simp
theorem keqv_cons (acc : List (List Nat × List Nat)) (it : List Nat) (r : List (List Nat)) : keqv acc (it :: r) = match kvOf it with | .error c => .error c | .ok (k, v) => keqv (tput acc k v) r := rfl
/-- a dict of texts -/
noncomputable def dictD (kvs : List (List Nat × List Nat)) : PyData := .dict (kvs.map fun kv => (tx kv.1, tx kv.2))
theorem unq_head (v : List Nat) (h : v ≠ []) : ∃ a b, v[0]? = some a ∧ v[v.length - 1]? = some b ∧ (v.head? = some 34 ∧ v.getLast? = some 34 ↔ a = 34 ∧ b = 34) := by
  have hl : 0 < v.length := List.length_pos_iff.mpr h
  refine ⟨v[0], v[v.length - 1], by simp [hl], by simp [hl], ?_⟩
  rw [List.head?_eq_getElem?, List.getLast?_eq_getElem?]
  have e1 : v[0]? = some v[0] := by simp [hl]
  have e2 : v[v.length - 1]? = some v[v.length - 1] := by simp [hl]
  rw [e1, e2]; simp

section
variable {w : World} {mg mb : Str → Option Value} {base : Heap} {nm : List (Str × NameKind)} {n : Nat} {ρ : Loc}

/-- parse_keqv_list -/
theorem c_keqv (items : List (List Nat)) (hz : items.length ≤ 100000) (hi : ∀ t ∈ items, t.length ≤ 100000) : FnX (wd w mg mb base) 21 2 [.list (items.map tx)] ((keqv [] items).map dictD) := by
  refine fn_intro1 (n := 1) (x := "l") rfl rfl rfl (fun _ => rfl) rfl rfl rfl rfl (fun _ => rfl) ?_
  refine ex_go (ex_dict rfl ?_)
  refine ex_mid (fun ρ' => ∃ kvs, keqv [] items = .ok kvs ∧ ρ' "parsed" = some (.dct (toS kvs))) (ex_for (evi_list (ev_name (d := .list (items.map tx)) rfl (.inr (.inl rfl)))) (fun i ρ' => ∃ kvs, keqv [] items = keqv kvs (items.drop i) ∧ kvs.length ≤ i ∧ ρ' "parsed" = some (.dct (toS kvs))) ⟨[], rfl, Nat.le_refl _, rfl⟩ ?_ ?_) fun ρ' hρ => ?_
  · rintro i d ρ' hd ⟨kvs, hk, hlen, h1⟩
    obtain ⟨t, ht, rfl⟩ : ∃ t, items[i]? = some t ∧ tx t = d := by simpa using hd
    have hti := hi t (List.mem_of_getElem? ht)
    have hii : i < items.length := by
      rcases Nat.lt_or_ge i items.length with q | q
      · exact q
      · rw [List.getElem?_eq_none q] at ht; cases ht
    have hdr : items.drop i = t :: items.drop (i + 1) := by
      rw [List.drop_eq_getElem_cons hii]
      simp [hii] at ht
      rw [ht]
    rw [hdr] at hk
    refine ⟨_, as_name rfl, ?_⟩
    rw [keqv_cons] at hk
    unfold kvOf at hk
    by_cases hm : 61 ∈ t
    · rw [if_pos hm] at hk
      refine ex_go (ex_unpackL (evg_split2 (c := 61) hm (ev_name rfl (.inl rfl)) (by decide) (by omega)) rfl rfl ?_)
      have hpl : (past 61 t).length ≤ 100000 := by
        have := congrArg List.length (upTo_past hm)
        simp at this; omega
      by_cases hv : past 61 t = []
      · rw [if_pos hv] at hk
        refine ex_go (ex_ifR (cls := "IndexError") (trr_and (trr_item (by rw [← hv]; exact ev_name rfl (.inl rfl)) ev_int)) ?_)
        rw [hk]; rfl
      · rw [if_neg hv] at hk
        obtain ⟨a, b, ha, hb, hiff⟩ := unq_head _ hv
        have hpos : 0 < (past 61 t).length := List.length_pos_iff.mpr hv
        refine ex_mid (fun ρ'' => ρ'' "k" = some (.dat (tx (upTo 61 t))) ∧ ρ'' "v" = some (.dat (tx (unq (past 61 t)))) ∧ ρ'' "parsed" = some (.dct (toS kvs))) (ex_if (tr_and (tr_cmp (cm_eqs (b := [34]) (ev_itemS (j := 0) (c := a) (ev_name rfl (.inl rfl)) ev_int (by simp [seqIndex?]; omega) ha (by omega)) (ev_tx rfl)))
          (fun _ => tr_cmp (cm_eqs (b := [34]) (ev_itemS (j := (past 61 t).length - 1) (c := b) (ev_name rfl (.inl rfl)) (ev_neg ev_int) (by simp [seqIndex?]; omega) hb (by omega)) (ev_tx rfl)))) (fun hq => ?_) fun hq => ?_) fun ρ'' hρ'' => ?_
        · have hq : a = 34 ∧ b = 34 := by simpa using hq
          refine ex_last (ex_assign (ev_slS (ev_name rfl (.inl rfl)) (.some ev_int) (.some (ev_neg ev_int)) (by omega)) rfl ⟨rfl, rfl, ?_, h1⟩)
          have e : unq (past 61 t) = sl (some 1) (some (-1)) (past 61 t) := by rw [sl_inner]; unfold unq; rw [if_pos (hiff.mpr hq)]
          rw [e]; rfl
        · have hq : ¬ (a = 34 ∧ b = 34) := by simpa using hq
          refine ex_nil ⟨rfl, rfl, ?_, h1⟩
          have e : unq (past 61 t) = past 61 t := by unfold unq; rw [if_neg (fun z => hq (hiff.mp z))]
          rw [e]; rfl
        · obtain ⟨k1, k2, k3⟩ := hρ''
          refine ex_last (ex_setItem k3 (ev_name k2 (.inr (.inr rfl))) (ev_name k1 (.inl rfl)) (by simp [toS]; omega) ⟨_, hk, ?_, ?_⟩)
          · have := tput_length kvs (upTo 61 t) (unq (past 61 t)); omega
          · rw [toS_put]; rfl
    · rw [if_neg hm] at hk
      refine ex_go (ex_unpackR (evg_split1 (c := 61) hm (ev_name rfl (.inl rfl)) (by decide) (by omega)) ?_)
      rw [hk]; rfl
  · rintro ρ' ⟨kvs, hk, hlen, h1⟩
    rw [List.length_map, List.drop_length] at hk
    exact ⟨rfl, kvs, hk, h1⟩
  · obtain ⟨kvs, hk, h1⟩ := hρ
    rw [hk]
    refine ex_last (ex_return (d := dictD kvs) ?_ (.inl rfl))
    have e : dictD kvs = .dict ((toS kvs).map fun kv => (PyData.str kv.1, kv.2)) := by unfold dictD toS; rw [List.map_map]; rfl
    rw [e]
    exact ev_ownD h1 (.inr rfl)
end

end Mine
end

section
set_option maxRecDepth 100000
namespace Mine

section
variable {B : Wd} {X : String → Prop} {nm : List (Str × NameKind)} {n : Nat} {ρ : Loc} {Q : Fl → Loc → Prop} {d : PyData} {x : Str} {e o value : Expr} {pos p px p1 p2 apos cpos : Pos} {md : Md} {k1 k2 : Nat}

/-- x = e, x seen by a comprehension -/
theorem ex_assignC (he : Ev B nm n .C ρ value d) (hx : nm.lookup x = some .cell) (h0 : nm.lookup (".0" : Str) = none) (q : Q .next (put x (.dat d) ρ)) (hs : ∀ env, swapsWith value (some (.Name x p)) pos.line env = pure false := by intro _; rfl) (nd : x ≠ "__classdict__" := by decide) :
    Ex1 B X nm n ρ (.Assign [.Name x p] value pos) Q := fun A fs env h₀ own s E S a => by
  refine wpAny_Assign_Name (he.thenT S fun v h₁ tk₁ t₁ st₁ S₁ r => ?_) (hs env)
  obtain ⟨c, hc⟩ := S.sit.cells h0 x hx
  obtain ⟨v0, hcell⟩ := S₁.sr.cellish.1 _ (mem_of_lookup hc)
  have hin := S₁.sr.cells _ (mem_of_lookup hc)
  refine wpAny_storeName_cell S.sit.kind (kind_of S hx) hc hcell fun h' hc' hs => ?_
  have kb : ∀ b o, b ≠ c → h₁.get? b = some o → h'.get? b = some o := fun b o nb e => (hs.2 b nb).trans e
  have R := S₁.sr.put_cell r (kind_of S hx) nd hc hc' hs
  have st' : Stay (adr fs) (env.locals :: own) h₁ h' := ⟨fun b o _ w e => kb b o (fun q => w (by rw [q]; exact .tail _ hin)) e, fun b o w e => ⟨o.slots, kb b o (fun q => w (by rw [q]; exact .tail _ hin)) e⟩, fun b o e => by
    by_cases q : b = c
    · obtain ⟨o', e', _⟩ := hc'; exact ⟨o', q ▸ e'⟩
    · exact ⟨o, kb b o q e⟩⟩
  exact ⟨.next, _, own, h', _, rfl, t₁, q, st₁.thenS st', fun _ h => .inl h, R, trivial⟩

/-- o.replace(c, z), c one sign -/
theorem ev_replace {t z : List Nat} {c : Nat} (ho : Ev B nm n .O ρ o (tx t)) (hyz : ((⟨#[c]⟩ : Str) == ⟨z.toArray⟩) = false) (hz : t.length + (t.length + 1) * z.length ≤ 16777216) (hc : MCall o "replace" apos [.Constant (.str ⟨#[c]⟩) k1 p1, .Constant (.str ⟨z.toArray⟩) k2 p2] pos := by intro _; rfl) :
    Ev B nm n md ρ (.Call (.Attribute o "replace" apos) [.Constant (.str ⟨#[c]⟩) k1 p1, .Constant (.str ⟨z.toArray⟩) k2 p2] [] pos) (tx (subst c z t)) := fun A fs env h₀ own s S =>
  MethodCall_ (ho.then S fun v h' tk st S' r => by
    obtain ⟨u, rfl⟩ := r.str_inv
    refine getMethod_builtin (typeIs_str _ _ _) F.plainAttrs_str F.slot_str_replace F.type_str_replace (fun a e => nomatch e) (callWith_method1 (args_cons (wpAny_Constant_str (args_cons (wpAny_Constant_str (args_nil ?_)) rfl)) rfl) rfl rfl)
    have tok : 1 ≤ tk := S'.tok
    refine SC.replace (by show tk ≠ 0; omega) (by show tk + 1 ≠ 0; omega) (by show tk ≠ tk + 1; omega) hyz (by rw [tx_len, tx_len]; exact hz) fun t' k => ⟨h', k, rfl, st, ?_⟩
    rw [tx_replace]; exact .str _ _) (hc env)

/-- c * k, c one sign -/
theorem ev_rep {a b : Expr} {c : Nat} {k : Int} (ha : Ev B nm n .O ρ a (tx [c])) (hb : Ev B nm n .O ρ b (.int k)) (h0 : 0 ≤ k) (h1 : k ≤ 1000) : Ev B nm n md ρ (.BinOp a .Mult b pos) (tx (List.replicate k.toNat c)) :=
  ev_bin ha hb fun A s va vb P ra rb => by
    obtain ⟨t, rfl⟩ := ra.str_inv
    obtain ⟨u, rfl⟩ := rb.int_inv
    refine SB.mul (mulOk_of 1 1000 (by rw [tx_len]; exact Nat.le_refl _) h1 (by omega) (by decide) (by decide)) fun t' k' => ⟨⟨_, rfl⟩, fun P => ?_⟩
    have : Txt.mul ⟨[c].toArray⟩ k = ⟨(List.replicate k.toNat c).toArray⟩ := tx_ext (mul_one_list c k)
    rw [this]; exact .str _ _
end
end Mine
end

section
namespace Mine

noncomputable def quoted (b : List Nat) (ev : Bool) : List Nat := if ev = true then [34] ++ glue [] (b.map fun c => [92, c]) ++ [34] else [34] ++ subst 34 [92, 34] (subst 92 [92, 92] b) ++ [34]
theorem subst_len (c : Nat) (z : List Nat) (k : Nat) (hk : z.length ≤ k) (h1 : 1 ≤ k) : ∀ t : List Nat, (subst c z t).length ≤ t.length * k
  | [] => by simp [subst]
  | a :: r => by
    have ih := subst_len c z k hk h1 r
    have e : subst c z (a :: r) = (if a = c then z else [a]) ++ subst c z r := by simp [subst]
    rw [e, List.length_append, List.length_cons, Nat.add_mul, Nat.one_mul]
    split
    · omega
    · simp; omega
theorem glue_flat : ∀ l : List (List Nat), glue [] l = l.flatten
  | [] => rfl
  | [p] => by simp [glue]
  | p :: q :: r => by rw [glue, glue_flat (q :: r)]; simp
/-- the escapes, sign by sign -/
noncomputable def esc1 (a : Nat) : List Nat := if a = 92 then [92, 92] else if a = 34 then [92, 34] else [a]
theorem subst_two : ∀ b : List Nat, subst 34 [92, 34] (subst 92 [92, 92] b) = b.flatMap esc1
  | [] => rfl
  | a :: r => by
    have e : subst 92 [92, 92] (a :: r) = (if a = 92 then [92, 92] else [a]) ++ subst 92 [92, 92] r := by simp [subst]
    rw [e, subst_append, subst_two r, List.flatMap_cons]
    congr 1
    unfold esc1
    by_cases q : a = 92
    · rw [if_pos q, if_pos q]; rfl
    · rw [if_neg q, if_neg q]; simp [subst]
theorem quoted_eq (b : List Nat) (ev : Bool) : quoted b ev = [34] ++ b.flatMap (fun a => if ev = true then [92, a] else esc1 a) ++ [34] := by
  unfold quoted
  cases ev
  · rw [if_neg Bool.false_ne_true, subst_two]; simp
  · rw [if_pos rfl, glue_flat]; simp [List.flatMap]
theorem quoted_len (b : List Nat) (ev : Bool) : (quoted b ev).length ≤ 2 * b.length + 2 := by
  rw [quoted_eq]
  have : (b.flatMap (fun a => if ev = true then [92, a] else esc1 a)).length ≤ 2 * b.length := by
    induction b with
    | nil => simp
    | cons a r ih =>
      rw [List.flatMap_cons, List.length_append, List.length_cons]
      have : (if ev = true then [92, a] else esc1 a).length ≤ 2 := by
        unfold esc1; split
        · simp
        · split
          · simp
          · split <;> simp
      omega
  simp only [List.length_append, List.length_singleton]; omega
theorem quoted_ge (b : List Nat) (ev : Bool) : b.length + 2 ≤ (quoted b ev).length := by
  rw [quoted_eq]
  have : b.length ≤ (b.flatMap (fun a => if ev = true then [92, a] else esc1 a)).length := by
    induction b with
    | nil => simp
    | cons a r ih =>
      rw [List.flatMap_cons, List.length_append, List.length_cons]
      have : 1 ≤ (if ev = true then [92, a] else esc1 a).length := by
        unfold esc1; split
        · simp
        · split
          · simp
          · split <;> simp
      omega
  simp only [List.length_append, List.length_singleton]; omega
end Mine
end

section
set_option maxRecDepth 100000
set_option maxHeartbeats 4000000
namespace Mine
/-- a function of ints, on data -/
noncomputable def onInt (g : Int → PyData) : PyData → PyData
  | .int i => g i
  | d => d

section
variable {w : World} {mg mb : Str → Option Value} {base : Heap} {nm : List (Str × NameKind)} {n : Nat} {ρ : Loc}

/-- _law_text -/
theorem c_text (m : Int) : ∃ t : List Nat, t.length ≤ 3 ∧ Fn (wd w mg mb base) 31 2 [.int m] (tx t) := by
  obtain ⟨sg, hsg⟩ : ∃ sg : List Nat, sg = [97, 34, 44, 92, 32, 61, 39, 34] := ⟨_, rfl⟩
  have hm0 : 0 ≤ m.fmod 4 := Int.fmod_nonneg_of_pos _ (by decide)
  have hm1 : m.fmod 4 < 4 := Int.fmod_lt_of_pos _ (by decide)
  obtain ⟨g, hg⟩ : ∃ g : Nat → List Nat, g = fun k => [sg.getD ((m.fdiv (8 ^ k)).fmod 8).toNat 0] := ⟨_, rfl⟩
  have hgl : ∀ k, (g k).length = 1 := fun k => by rw [hg]; rfl
  refine ⟨glue [] ((List.range (m.fmod 4).toNat).map g), ?_, ?_⟩
  · have := glue_length [] 1 ((List.range (m.fmod 4).toNat).map g) (fun p hp => by obtain ⟨k, _, rfl⟩ := List.mem_map.mp hp; rw [hgl]; exact Nat.le_refl _)
    simp at this; omega
  · refine fn_introC (n := 1) (x := "m") (y := "m") rfl rfl rfl (fun _ => rfl) rfl rfl rfl (.inl rfl) (fun _ => rfl) (fun _ => rfl) (by decide) ?_
    refine ex_last (ex_return (ev_join (sep := []) (b := 1) (ev_tx rfl) (Ev.cast ?e (evg_comp (md := .N) (xc := none) (compOk_free (z := "m") rfl (by decide) (.inl rfl) (by decide) (.inl rfl) ?clos (by decide) (fun _ => ⟨fun _ => rfl, fun _ _ => rfl⟩) (fun x q => nomatch q)) (evi_range1 (b_range rfl) (ev_mod (ev_name (d := .int m) rfl (.inl rfl)) ev_int (by decide)) (by omega) (by omega)).lax (by simp; omega) (.inr rfl) (fun z q => ⟨_, by cases q; rfl⟩) (fun _ => true) (onInt fun k => tx (g k.toNat)) (fun d ρ₁ hd hI => ?turn)).ev.O) ?b ?z) (.inl rfl))
    case e =>
      rw [List.filter_eq_self.mpr (fun _ _ => rfl), List.map_map, List.map_map]
      exact congrArg PyData.list (List.map_congr_left fun k _ => rfl)
    case clos =>
      intro env c hc
      unfold closureFor cellOf
      dsimp only
      simp only [List.forIn_cons, List.forIn_nil, hc]
      rfl
    case b =>
      intro p hp
      obtain ⟨k, _, rfl⟩ := List.mem_map.mp hp
      rw [hgl]; exact Nat.le_refl _
    case z => simp; omega
    case turn =>
      obtain ⟨k, hk, rfl⟩ := List.mem_map.mp hd
      have hk4 : k < 4 := by have := List.mem_range.mp hk; omega
      have hp : put "k" (.dat (.int (k : Nat))) ρ₁ "m" = some (.dat (.int m)) := hI.2 "m" rfl
      refine ⟨_, (as_name rfl).toZ, hI.put' (by decide), .inl ⟨rfl, rfl⟩, fun _ => ?_⟩
      have h8 : ((8 : Int) ^ k) ≠ 0 ∧ ((8 : Int) ^ k).natAbs < 2 ^ 64 := by
        have : k = 0 ∨ k = 1 ∨ k = 2 ∨ k = 3 := by omega
        rcases this with rfl | rfl | rfl | rfl <;> decide
      have r0 : 0 ≤ (m.fdiv (8 ^ k)).fmod 8 := Int.fmod_nonneg_of_pos _ (by decide)
      have r1 : (m.fdiv (8 ^ k)).fmod 8 < 8 := Int.fmod_lt_of_pos _ (by decide)
      have hj : ((m.fdiv (8 ^ k)).fmod 8).toNat < sg.length := by rw [hsg]; simp; omega
      show Ev _ _ _ _ _ _ (tx (g k))
      rw [hg]
      refine ev_itemS (t := sg) (j := ((m.fdiv (8 ^ k)).fmod 8).toNat) (by rw [hsg]; exact ev_tx rfl) (ev_mod (ev_div (ev_name hp (.inl rfl)) (ev_pow (y := (k : Int)) ev_int (ev_name rfl (.inl rfl)) (by omega) ?_) h8.1 h8.2) ev_int (by decide)) ?_ ?_ (by rw [hsg]; decide)
      · have : k = 0 ∨ k = 1 ∨ k = 2 ∨ k = 3 := by omega
        rcases this with rfl | rfl | rfl | rfl <;> decide
      · have := seq_nat hj
        rw [Int.toNat_of_nonneg r0] at this; exact this
      · simp [hj]

/-- _law_quoted -/
theorem c_quoted (b : List Nat) (ev : Bool) (hz : b.length ≤ 100000) : Fn (wd w mg mb base) 43 2 [tx b, .bool ev] (tx (quoted b ev)) := by
  refine fn_intro2 (n := 1) (x := "body") (y := "every") rfl rfl rfl (fun _ _ => rfl) rfl rfl rfl rfl rfl (fun _ => rfl) ?_
  refine ex_go (ex_if (tr_val (ev_name (d := .bool ev) rfl (.inl rfl)) trivial) (fun he => ?_) fun he => ?_)
  · obtain rfl : ev = true := he
    have gl := glue_length [] 2 (b.map fun c => [92, c]) (fun p hp => by obtain ⟨c, _, rfl⟩ := List.mem_map.mp hp; simp)
    simp only [List.length_map, List.length_nil, Nat.add_zero] at gl
    refine ex_last (ex_return (ev_cat (ev_cat (ev_tx (l := [34]) rfl) (ev_join (sep := []) (b := 2) (ev_tx rfl) (Ev.cast ?e (evg_comp (md := .N) (compOk_plain rfl (by decide) (by decide) (by decide) (by decide)) (evi_str (ev_name (d := tx b) rfl (.inl rfl))).lax (by simp; omega) (.inr rfl) (fun z q => nomatch q) (fun _ => true) (onTx fun x => tx ([92] ++ x)) (fun d ρ₁ hd hI => ?turn)).ev.O) ?b ?z) ?z1) (ev_tx (l := [34]) rfl) ?z2) (.inl rfl))
    case e =>
      rw [List.filter_eq_self.mpr (fun _ _ => rfl), List.map_map, List.map_map]
      exact congrArg PyData.list (List.map_congr_left fun k _ => rfl)
    case turn =>
      obtain ⟨c, hc, rfl⟩ := List.mem_map.mp hd
      exact ⟨_, (as_name rfl).toZ, hI.put' (fun q => nomatch q), .inl ⟨rfl, rfl⟩, fun _ => ev_cat (ev_tx (l := [92]) rfl) (ev_name (d := tx [c]) rfl (.inl rfl)) (by simp)⟩
    case b =>
      intro p hp
      obtain ⟨c, _, rfl⟩ := List.mem_map.mp hp
      simp
    case z => simp; omega
    case z1 => simp; omega
    case z2 => simp; omega
  · obtain rfl : ev = false := he
    refine ex_nil ?_
    have l1 := subst_len 92 [92, 92] 2 (by simp) (by decide) b
    have l2 := subst_len 34 [92, 34] 2 (by simp) (by decide) (subst 92 [92, 92] b)
    refine ex_last (ex_return (ev_cat (ev_cat (ev_tx (l := [34]) rfl) (ev_replace (c := 34) (z := [92, 34]) (ev_replace (c := 92) (z := [92, 92]) (ev_name (d := tx b) rfl (.inl rfl)) (by decide) ?_) (by decide) ?_) ?_) (ev_tx (l := [34]) rfl) ?_) (.inl rfl))
    · simp; omega
    · simp; omega
    · simp; omega
    · simp; omega
end
end Mine
end

section
namespace Mine

mutual
noncomputable def T.sz : T → Nat
  | .leaf _ _ _ => 1
  | .node _ _ cs => 1 + szs cs
noncomputable def szs : List T → Nat
  | [] => 0
  | t :: r => t.sz + szs r
end
theorem szs_append : ∀ a b : List T, szs (a ++ b) = szs a + szs b
  | [], b => by rw [List.nil_append, szs, Nat.zero_add]
  | t :: a, b => by rw [List.cons_append, szs, szs, szs_append a b, Nat.add_assoc]
theorem sz_node (h : Hd) (d : Bool) (cs : List T) : (T.node h d cs).sz = 1 + szs cs := by rw [T.sz]
theorem sz_leaf (h : Hd) (x : Bool) (s : List Nat) : (T.leaf h x s).sz = 1 := by rw [T.sz]
theorem szs_one (t : T) : szs [t] = t.sz := by rw [szs, szs, Nat.add_zero]
theorem sz_pos : ∀ t : T, 1 ≤ t.sz
  | .leaf _ _ _ => by rw [sz_leaf]; exact Nat.le_refl _
  | .node _ _ _ => by rw [sz_node]; omega
theorem szs_len : ∀ cs : List T, cs.length ≤ szs cs
  | [] => Nat.zero_le _
  | t :: r => by rw [szs]; have := szs_len r; have := sz_pos t; simp only [List.length_cons]; omega
noncomputable def tot : List Lv → Nat
  | [] => 0
  | L :: r => 1 + szs L.cs + tot r
theorem sz_clo : ∀ (Ls : List Lv) (t : T), (clo t Ls).sz = t.sz + tot Ls
  | [], t => by rw [clo, tot, Nat.add_zero]
  | L :: r, t => by rw [clo, sz_clo r, sz_node, szs_append, szs_one, tot]; omega

/-- keys and white space as the tree has them -/
noncomputable def keyTab : List (List Nat × List Nat) := [([107], [107]), ([109], [109]), ([], []), ([34, 120, 44, 121, 34], [34, 120, 44, 121, 34]), ([34, 101, 92, 34, 102, 34], [34, 101, 34, 102, 34])]
noncomputable def gapTab : List (List Nat) := [[], [32], [9, 32], [10]]
structure HdOk (h : Hd) : Prop where
  key : (h.kw, h.kr) ∈ keyTab
  gap : h.gap ∈ gapTab
noncomputable def hdAt (r : Int) : Hd := ⟨(keyTab.getD (r.fmod 5).toNat ([], [])).1, (keyTab.getD (r.fmod 5).toNat ([], [])).2, gapTab.getD ((r.fdiv 2).fmod 4).toNat []⟩
theorem getD_mem {α : Type} {l : List α} {i : Nat} {d : α} (h : i < l.length) : l.getD i d ∈ l := by
  rw [List.getD_eq_getElem?_getD, List.getElem?_eq_getElem h]; exact List.getElem_mem h
theorem hdAt_ok (r : Int) : HdOk (hdAt r) := by
  have a0 : 0 ≤ r.fmod 5 := Int.fmod_nonneg_of_pos _ (by decide)
  have a1 : r.fmod 5 < 5 := Int.fmod_lt_of_pos _ (by decide)
  have b0 : 0 ≤ (r.fdiv 2).fmod 4 := Int.fmod_nonneg_of_pos _ (by decide)
  have b1 : (r.fdiv 2).fmod 4 < 4 := Int.fmod_lt_of_pos _ (by decide)
  exact ⟨getD_mem (by show _ < 5; omega), getD_mem (by show _ < 4; omega)⟩

/-- a tree as the law builds it, within n floors -/
inductive T.Ok : Nat → T → Prop
  | leaf {n : Nat} {h : Hd} {x : Bool} {s : List Nat} : s.length ≤ 3 → (x = true → s = [118] ∨ s = [118, 61]) → Ok n (.leaf h x s)
  | node {n : Nat} {h : Hd} {d : Bool} {cs : List T} : (∀ c ∈ cs, HdOk c.hd) → (∀ c ∈ cs, Ok n c) → Ok (n + 1) (.node h d cs)

noncomputable def LsOk : List Lv → Prop
  | [] => True
  | L :: r => (∀ c ∈ L.cs, HdOk c.hd ∧ T.Ok (3 - r.length) c) ∧ (r ≠ [] → HdOk L.hd) ∧ LsOk r
theorem clo_ok : ∀ (Ls : List Lv) (t : T), Ls.length ≤ 4 → T.Ok (4 - Ls.length) t → (Ls ≠ [] → HdOk t.hd) → LsOk Ls → T.Ok 4 (clo t Ls)
  | [], t, _, h, _, _ => h
  | L :: r, t, hl, h, hh, ⟨o1, o2, o3⟩ => by
    simp only [List.length_cons] at hl h
    rw [clo]
    refine clo_ok r _ (by omega) ?_ o2 o3
    have e : 4 - r.length = (3 - r.length) + 1 := by omega
    rw [e]
    have key : ∀ c ∈ L.cs ++ [t], HdOk c.hd ∧ T.Ok (3 - r.length) c := fun c hc => by
      rcases List.mem_append.mp hc with q | q
      · exact o1 c q
      rw [List.mem_singleton.mp q]
      refine ⟨hh (fun z => nomatch z), ?_⟩
      have : 4 - (r.length + 1) = 3 - r.length := by omega
      rw [this] at h; exact h
    exact .node (fun c hc => (key c hc).1) fun c hc => (key c hc).2

/-- one step of the build -/
noncomputable def leafAt (g : Int → List Nat) (K R : Int) : T := if K = 7 ∧ R.fmod 3 = 0 then .leaf (hdAt R) true ([118] ++ List.replicate ((R.fdiv 3).fmod 2).toNat 61) else .leaf (hdAt R) false (g R)
noncomputable def isCon (K : Int) : Bool := K == 1 || K == 2 || K == 3
noncomputable def stp (g : Int → List Nat) (Ls : List Lv) (n : Int) : List Lv := match Ls with
  | L :: L' :: r => if n.fmod 8 = 0 then ⟨L'.hd, L'.d, L'.cs ++ [.node L.hd L.d L.cs]⟩ :: r
    else if isCon (n.fmod 8) = true ∧ (L :: L' :: r).length < 4 then ⟨hdAt (n.fdiv 8), n.fmod 8 != 1, []⟩ :: L :: L' :: r
    else ⟨L.hd, L.d, L.cs ++ [leafAt g (n.fmod 8) (n.fdiv 8)]⟩ :: L' :: r
  | [L] => if isCon (n.fmod 8) = true then ⟨hdAt (n.fdiv 8), n.fmod 8 != 1, []⟩ :: [L] else [⟨L.hd, L.d, L.cs ++ [leafAt g (n.fmod 8) (n.fdiv 8)]⟩]
  | [] => []
noncomputable def lvs (g : Int → List Nat) (ns : List Int) : List Lv := ns.foldl (stp g) [⟨⟨[], [], []⟩, false, []⟩]
noncomputable def treeOf (g : Int → List Nat) (ns : List Int) : T := match lvs g ns with
  | L :: Ls => clo (.node L.hd L.d L.cs) Ls
  | [] => .leaf ⟨[], [], []⟩ false []
theorem lvs_take {g : Int → List Nat} {ns : List Int} {i : Nat} {x : Int} (h : ns[i]? = some x) : lvs g (ns.take (i + 1)) = stp g (lvs g (ns.take i)) x := by
  unfold lvs
  rw [List.take_add_one, h, List.foldl_append]; rfl

/-- what stays so of the levels -/
structure LvsOk (k : Nat) (Ls : List Lv) : Prop where
  ne : Ls ≠ []
  le : Ls.length ≤ 4
  ok : LsOk Ls
  tt : tot Ls ≤ k
theorem leafAt_hd (g : Int → List Nat) (K R : Int) : (leafAt g K R).hd = hdAt R := by unfold leafAt; split <;> rfl
theorem leafAt_sz (g : Int → List Nat) (K R : Int) : (leafAt g K R).sz = 1 := by unfold leafAt; split <;> exact sz_leaf _ _ _
theorem leafAt_ok {g : Int → List Nat} (hg : ∀ m, (g m).length ≤ 3) (n : Nat) (K R : Int) : T.Ok n (leafAt g K R) := by
  unfold leafAt
  split
  · have b0 : 0 ≤ (R.fdiv 3).fmod 2 := Int.fmod_nonneg_of_pos _ (by decide)
    have b1 : (R.fdiv 3).fmod 2 < 2 := Int.fmod_lt_of_pos _ (by decide)
    have : ((R.fdiv 3).fmod 2).toNat = 0 ∨ ((R.fdiv 3).fmod 2).toNat = 1 := by omega
    rcases this with q | q <;> rw [q]
    · exact .leaf (by decide) fun _ => .inl rfl
    · exact .leaf (by decide) fun _ => .inr rfl
  · exact .leaf (hg R) fun q => nomatch q
theorem stp_ok {g : Int → List Nat} (hg : ∀ m, (g m).length ≤ 3) {k : Nat} {Ls : List Lv} (h : LvsOk k Ls) (n : Int) : LvsOk (k + 1) (stp g Ls n) := by
  obtain ⟨ne, le, ok, tt⟩ := h
  have grow : ∀ (L : Lv) (r : List Lv), Ls = L :: r → LvsOk (k + 1) (⟨L.hd, L.d, L.cs ++ [leafAt g (n.fmod 8) (n.fdiv 8)]⟩ :: r) := fun L r e => by
    subst e
    refine ⟨fun z => (nomatch z), le, ⟨fun c hc => ?_, ok.2.1, ok.2.2⟩, ?_⟩
    · rcases List.mem_append.mp hc with q | q
      · exact ok.1 c q
      · rw [List.mem_singleton.mp q]
        exact ⟨by rw [leafAt_hd]; exact hdAt_ok _, leafAt_ok hg _ _ _⟩
    · rw [tot] at tt ⊢
      dsimp only
      rw [szs_append, szs_one, leafAt_sz]; omega
  have new : Ls.length < 4 → LvsOk (k + 1) (⟨hdAt (n.fdiv 8), n.fmod 8 != 1, []⟩ :: Ls) := fun hl =>
    ⟨fun z => (nomatch z), by simp only [List.length_cons]; omega, ⟨fun c hc => (nomatch hc), fun _ => hdAt_ok _, ok⟩, by rw [tot, szs]; omega⟩
  match Ls, ne, le, ok, tt, grow, new with
  | [L], ne, le, ok, tt, grow, new =>
    unfold stp
    dsimp only
    split
    · exact new (by simp)
    · exact grow L [] rfl
  | L :: L' :: r, ne, le, ok, tt, grow, new =>
    unfold stp
    dsimp only
    split
    · obtain ⟨o1, o2, o3, o4, o5⟩ := ok
      simp only [List.length_cons] at le
      refine ⟨fun z => (nomatch z), by simp only [List.length_cons]; omega, ⟨fun c hc => ?_, o4, o5⟩, ?_⟩
      · rcases List.mem_append.mp hc with q | q
        · exact o3 c q
        · rw [List.mem_singleton.mp q]
          refine ⟨o2 (fun z => nomatch z), ?_⟩
          have e : 3 - r.length = (3 - (L' :: r).length) + 1 := by simp only [List.length_cons]; omega
          rw [e]
          exact .node (fun c hc => (o1 c hc).1) fun c hc => (o1 c hc).2
      · rw [tot, tot] at tt
        rw [tot]
        dsimp only
        rw [szs_append, szs_one, sz_node]; omega
    · split
      · rename_i q; exact new q.2
      · exact grow L _ rfl
theorem lvs_ok {g : Int → List Nat} (hg : ∀ m, (g m).length ≤ 3) : ∀ (ns : List Int), LvsOk (ns.length + 1) (lvs g ns) := by
  have go : ∀ (ns : List Int) (k : Nat) (Ls : List Lv), LvsOk k Ls → LvsOk (ns.length + k) (ns.foldl (stp g) Ls) := by
    intro ns
    induction ns with
    | nil => intro k Ls h; simpa using h
    | cons n r ih =>
      intro k Ls h
      have := ih (k + 1) _ (stp_ok hg h n)
      rw [List.foldl_cons, List.length_cons, show r.length + 1 + k = r.length + (k + 1) by omega]; exact this
  intro ns
  exact go ns 1 _ ⟨(fun z => nomatch z), by decide, ⟨fun c hc => (nomatch hc), fun z => (z rfl).elim, trivial⟩, by rw [tot, szs, tot]; omega⟩
theorem tree_ok {g : Int → List Nat} (hg : ∀ m, (g m).length ≤ 3) (ns : List Int) : T.Ok 4 (treeOf g ns) ∧ (treeOf g ns).sz ≤ ns.length + 1 ∧ ∃ cs, treeOf g ns = .node ⟨[], [], []⟩ false cs := by
  obtain ⟨ne, le, ok, tt⟩ := lvs_ok hg ns
  have rt : ∀ (Ls : List Lv) (t : T), (∃ cs, t = .node ⟨[], [], []⟩ false cs) ∧ Ls = [] ∨ (∃ A cs, Ls = A ++ [⟨⟨[], [], []⟩, false, cs⟩]) → ∃ cs, clo t Ls = .node ⟨[], [], []⟩ false cs := by
    intro Ls
    induction Ls with
    | nil =>
      intro t h
      rcases h with ⟨h, _⟩ | ⟨A, cs, h⟩
      · exact h
      · have := congrArg List.length h; simp at this
    | cons L r ih =>
      intro t h
      rw [clo]
      refine ih _ ?_
      rcases h with ⟨_, h⟩ | ⟨A, cs, h⟩
      · cases h
      · cases A with
        | nil =>
          rw [List.nil_append] at h
          obtain ⟨h1, h2⟩ := List.cons.inj h
          exact .inl ⟨⟨_, by rw [h1]⟩, h2⟩
        | cons a A =>
          rw [List.cons_append] at h
          obtain ⟨h1, h2⟩ := List.cons.inj h
          exact .inr ⟨A, cs, h2⟩
  have last : ∀ (ns : List Int) (Ls : List Lv), (∃ A cs, Ls = A ++ [⟨⟨[], [], []⟩, false, cs⟩]) → ∃ A cs, ns.foldl (stp g) Ls = A ++ [⟨⟨[], [], []⟩, false, cs⟩] := by
    intro ns
    induction ns with
    | nil => intro Ls h; exact h
    | cons n r ih =>
      intro Ls h
      rw [List.foldl_cons]
      refine ih _ ?_
      obtain ⟨A, cs, rfl⟩ := h
      match A with
      | [] =>
        rw [List.nil_append]
        unfold stp
        dsimp only
        split
        · exact ⟨[_], cs, rfl⟩
        · exact ⟨[], _, rfl⟩
      | [L] =>
        show ∃ A cs', stp g (L :: ⟨⟨[], [], []⟩, false, cs⟩ :: []) n = _
        unfold stp
        dsimp only
        split
        · exact ⟨[], _, rfl⟩
        · split
          · exact ⟨[_, _], cs, rfl⟩
          · exact ⟨[_], cs, rfl⟩
      | L :: L' :: A =>
        show ∃ A' cs', stp g (L :: L' :: (A ++ [⟨⟨[], [], []⟩, false, cs⟩])) n = _
        unfold stp
        dsimp only
        split
        · exact ⟨_ :: A, cs, rfl⟩
        · split
          · exact ⟨_ :: L :: L' :: A, cs, rfl⟩
          · exact ⟨_ :: L' :: A, cs, rfl⟩
  have hl := last ns [⟨⟨[], [], []⟩, false, []⟩] ⟨[], [], rfl⟩
  unfold treeOf
  unfold lvs at ne le ok tt ⊢
  generalize ns.foldl (stp g) [⟨⟨[], [], []⟩, false, []⟩] = Ls at *
  match Ls, ne, le, ok, tt, hl with
  | L :: r, ne, le, ok, tt, hl =>
    dsimp only
    refine ⟨clo_ok r _ (by simp only [List.length_cons] at le; omega) ?_ ok.2.1 ok.2.2, ?_, rt r _ ?_⟩
    · have e : 4 - r.length = (3 - r.length) + 1 := by simp only [List.length_cons] at le; omega
      rw [e]; exact .node (fun c hc => (ok.1 c hc).1) fun c hc => (ok.1 c hc).2
    · rw [sz_clo, sz_node]; rw [tot] at tt; omega
    · obtain ⟨A, cs, h⟩ := hl
      cases A with
      | nil =>
        rw [List.nil_append] at h
        obtain ⟨h1, h2⟩ := List.cons.inj h
        exact .inl ⟨⟨_, by rw [h1]⟩, h2⟩
      | cons a A =>
        rw [List.cons_append] at h
        exact .inr ⟨A, cs, (List.cons.inj h).2⟩
end Mine
end

section
set_option maxRecDepth 100000
set_option maxHeartbeats 4000000
namespace Mine
noncomputable def lstA (as : List (Addr × Addr)) : List Addr := (as.map (·.1)).reverse
theorem lstA_cons (a c : Addr) (as : List (Addr × Addr)) : lstA ((a, c) :: as) = lstA as ++ [a] := by simp [lstA]
theorem lstA_len (as : List (Addr × Addr)) : (lstA as).length = as.length := by simp [lstA]
noncomputable def rootOf : List (Addr × Addr) → Addr
  | [] => 0
  | (a, _) :: r => rootA a r
theorem nodup_pop {pa a c : Addr} {as : List (Addr × Addr)} {ret : List Addr} (h : (pa :: (flatA ((a, c) :: as) ++ ret)).Nodup) : (pa :: (flatA as ++ a :: c :: ret)).Nodup := by
  have p : (pa :: (flatA as ++ a :: c :: ret)).Perm (pa :: (flatA ((a, c) :: as) ++ ret)) := by
    refine .cons _ ?_
    refine List.perm_middle.trans ?_
    show (a :: (flatA as ++ c :: ret)).Perm (a :: c :: (flatA as ++ ret))
    exact .cons _ List.perm_middle
  exact p.nodup_iff.mpr h
theorem nodup_push {pa a c : Addr} {as : List (Addr × Addr)} {ret : List Addr} (h : (pa :: (flatA as ++ ret)).Nodup) (hac : a ≠ c) (ha : a ∉ pa :: (flatA as ++ ret)) (hc : c ∉ pa :: (flatA as ++ ret)) : (pa :: (flatA ((a, c) :: as) ++ ret)).Nodup := by
  have p : (pa :: (flatA ((a, c) :: as) ++ ret)).Perm (a :: c :: (pa :: (flatA as ++ ret))) := by
    show (pa :: a :: c :: (flatA as ++ ret)).Perm _
    exact (List.Perm.swap a pa _).trans (.cons _ (List.Perm.swap c pa _))
  refine p.nodup_iff.mpr ?_
  rw [List.nodup_cons, List.nodup_cons]
  refine ⟨?_, hc, h⟩
  rw [List.mem_cons]
  exact fun z => z.elim hac ha
/-- what the turns keep -/
structure Inv (g : Int → List Nat) (ns : List Int) (ρ : Loc) (Ls : List Lv) (pa : Addr) (as : List (Addr × Addr)) (ret : List Addr) : Prop where
  path : ρ "path" = some (.raw (PathR pa (lstA as) as ret Ls))
  root : ρ "root" = some (.raw (RootR (rootOf as)))
  nd : (pa :: (flatA as ++ ret)).Nodup
  len : as.length = Ls.length

section
variable {w : World} {mg mb : Str → Option Value} {base : Heap} {nm : List (Str × NameKind)} {n : Nat} {ρ : Loc}

theorem ev_pick {B : Wd} {md : Md} {value slice : Expr} {pos : Pos} {l : List (List Nat)} {x : Int} (hv : Ev B nm n .O ρ value (.list (l.map tx))) (hi : Ev B nm n .O ρ slice (.int x)) (h0 : 0 ≤ x) (h1 : x < l.length) (hl : l.length ≤ 100)
    (hs : ∀ a (k : Int) u, subscripted slice false (.ref a) (.int k u) = operate [.ref a, .int k u] (getItem (.ref a) (.int k u)) := by intro _ _ _; with_unfolding_all rfl) : Ev B nm n md ρ (.Subscript value slice pos) (tx (l.getD x.toNat [])) := by
  refine Ev.fl (md := .O) (ev_itemL (j := x.toNat) hv hi ?_ ?_ (by rw [List.length_map]; omega) (fun a u => hs a x u)) rfl
  · have := seq_nat (i := x.toNat) (n := (l.map tx).length) (by rw [List.length_map]; omega)
    rw [Int.toNat_of_nonneg h0] at this; exact this
  · rw [List.getElem?_map]
    have : x.toNat < l.length := by omega
    simp [this]
/-- a pair of texts -/
noncomputable def prT (p : List Nat × List Nat) : PyData := .tuple [tx p.1, tx p.2]
theorem ev_pickT {B : Wd} {md : Md} {value slice : Expr} {pos : Pos} {l : List (List Nat × List Nat)} {x : Int} (hv : Ev B nm n md ρ value (.list (l.map prT))) (hi : Ev B nm n .O ρ slice (.int x)) (h0 : 0 ≤ x) (h1 : x < l.length) (hl : l.length ≤ 100)
    (hs : ∀ a (k : Int) u, subscripted slice false (.ref a) (.int k u) = operate [.ref a, .int k u] (getItem (.ref a) (.int k u)) := by intro _ _ _; with_unfolding_all rfl) : Ev B nm n md ρ (.Subscript value slice pos) (prT (l.getD x.toNat ([], []))) := by
  refine ev_itemL (j := x.toNat) hv hi ?_ ?_ (by rw [List.length_map]; omega) (fun a u => hs a x u)
  · have := seq_nat (i := x.toNat) (n := (l.map prT).length) (by rw [List.length_map]; omega)
    rw [Int.toNat_of_nonneg h0] at this; exact this
  · rw [List.getElem?_map]
    have : x.toNat < l.length := by omega
    simp [this]
theorem lenPath {B : Wd} {pa : Addr} {lst : List Addr} {as : List (Addr × Addr)} {ret : List Addr} {Ls : List Lv} {k : Nat} (hk : lst.length = k) : ∀ P h v, (PathR pa lst as ret Ls).φ B P h v → ∃ a vs, v = .ref a ∧ h.IsList a vs ∧ vs.size = k := fun P h v r => ⟨pa, refs lst, r.1, r.2.1.isList, by simp [refs, hk]⟩

end
end Mine
end

section
set_option maxRecDepth 100000
set_option maxHeartbeats 400000
namespace Mine
theorem stp_pop {g : Int → List Nat} {L L' : Lv} {r : List Lv} {n : Int} (h : n.fmod 8 = 0) : stp g (L :: L' :: r) n = ⟨L'.hd, L'.d, L'.cs ++ [.node L.hd L.d L.cs]⟩ :: r := by unfold stp; dsimp only; rw [if_pos h]
theorem stp_push {g : Int → List Nat} {L : Lv} {r : List Lv} {n : Int} (h : ¬ (n.fmod 8 = 0 ∧ 1 < (L :: r).length)) (h2 : isCon (n.fmod 8) = true ∧ (L :: r).length < 4) : stp g (L :: r) n = ⟨hdAt (n.fdiv 8), n.fmod 8 != 1, []⟩ :: L :: r := by
  cases r with
  | nil => unfold stp; dsimp only; rw [if_pos h2.1]
  | cons L' r =>
    unfold stp; dsimp only
    rw [if_neg (fun q => h ⟨q, by simp⟩), if_pos h2]
theorem stp_leaf {g : Int → List Nat} {L : Lv} {r : List Lv} {n : Int} (h : ¬ (n.fmod 8 = 0 ∧ 1 < (L :: r).length)) (h2 : ¬ (isCon (n.fmod 8) = true ∧ (L :: r).length < 4)) : stp g (L :: r) n = ⟨L.hd, L.d, L.cs ++ [leafAt g (n.fmod 8) (n.fdiv 8)]⟩ :: r := by
  cases r with
  | nil => unfold stp; dsimp only; rw [if_neg (fun q => h2 ⟨q, by simp⟩)]
  | cons L' r =>
    unfold stp; dsimp only
    rw [if_neg (fun q => h ⟨q, by simp⟩), if_neg h2]
theorem any_con (K : Int) : ([PyData.int 1, .int 2, .int 3].any fun y => PyData.eqv y (.int K)) = isCon K := by
  unfold isCon
  simp only [List.any_cons, List.any_nil, Bool.or_false, PyData.eqv]
  rw [show ((1 : Int) == K) = (K == 1) from BEq.comm, show ((2 : Int) == K) = (K == 2) from BEq.comm, show ((3 : Int) == K) = (K == 3) from BEq.comm, Bool.or_assoc]
theorem any_ld (t : List Nat) : ([tx [108], tx [100]].any fun y => PyData.eqv y (tx t)) = (([108] == t) || ([100] == t)) := by
  simp only [List.any_cons, List.any_nil, Bool.or_false, tx_eqv]
theorem leafAt_dat (g : Int → List Nat) (K R : Int) : ∃ b s, (leafAt g K R).dat = .list [tx (lkn b), tx s] := by
  unfold leafAt; split <;> exact ⟨_, _, dat_leaf _ _ _⟩
structure Mid (g : Int → List Nat) (ns : List Int) (ρ : Loc) (Ls : List Lv) (pa : Addr) (as : List (Addr × Addr)) (ret : List Addr) (K R : Int) : Prop where
  inv : Inv g ns ρ Ls pa as ret
  kind : ρ "kind" = some (.dat (.int K))
  rest : ρ "rest" = some (.dat (.int R))
theorem node_read {B : Wd} {a c : Addr} {d : Bool} : ∀ P h v, (NodeR a c d).φ B P h v → Rd B (fun b => P b ∨ b ∈ (NodeR a c d).as) h v (.list [tx (knd d), .list []]) := fun P h v r => by
  obtain ⟨rfl, ⟨v0, l, r0⟩, lc⟩ := r
  exact .list (.inr (.head _)) l.isList (.cons (r0.flat rfl) (.cons (.list (.inr (.tail _ (.head _))) lc.isList .nil) .nil))

section
variable {w : World} {mg mb : Str → Option Value} {base : Heap} {nm : List (Str × NameKind)} {n : Nat} {ρ : Loc}
theorem star_c {c : Const} {k : Nat} {p : Pos} {es : List Expr} {env : Env} : starEach (.Constant c k p :: es) env = (false, eval (.Constant c k p) env) :: starEach es env := rfl
theorem star_t {xs : List Expr} {k : Nat} {p : Pos} {es : List Expr} {env : Env} : starEach (.Tuple xs k p :: es) env = (false, eval (.Tuple xs k p) env) :: starEach es env := rfl
theorem star_n {x : Str} {p : Pos} {es : List Expr} {env : Env} : starEach (.Name x p :: es) env = (false, eval (.Name x p) env) :: starEach es env := rfl
theorem star_s {a b : Expr} {p : Pos} {es : List Expr} {env : Env} : starEach (.Subscript a b p :: es) env = (false, eval (.Subscript a b p) env) :: starEach es env := rfl
theorem s_xy : Str.ofString "\"x,y\"" = ⟨[34, 120, 44, 121, 34].toArray⟩ := by decide +kernel
theorem s_ef : Str.ofString "\"e\\\"f\"" = ⟨[34, 101, 92, 34, 102, 34].toArray⟩ := by decide +kernel
theorem s_fe : Str.ofString "\"e\"f\"" = ⟨[34, 101, 34, 102, 34].toArray⟩ := by decide +kernel
theorem s_k : Str.ofString "k" = ⟨[107].toArray⟩ := by decide +kernel
theorem s_m : Str.ofString "m" = ⟨[109].toArray⟩ := by decide +kernel
theorem s_0 : Str.ofString "" = ⟨([] : List Nat).toArray⟩ := by decide +kernel
theorem s_tab : Str.ofString "\t " = ⟨[9, 32].toArray⟩ := by decide +kernel
theorem s_sp : Str.ofString " " = ⟨[32].toArray⟩ := by decide +kernel
theorem s_nl : Str.ofString "\n" = ⟨[10].toArray⟩ := by decide +kernel

/-- a box: what is in it is not looked at -/
structure Bx (P : Prop) : Prop where
  o : P
section
variable {B : Wd} {md : Md} {e : Expr} {es : List Expr} {d : PyData} {ds : List PyData}
theorem bx_nil : Bx (Evs B nm n md ρ [] []) := ⟨evs_nil⟩
theorem bx_cons (he : Bx (Ev B nm n md ρ e d)) (hs : Bx (Evs B nm n md ρ es ds)) (hn : ∀ env, starEach (e :: es) env = (false, eval e env) :: starEach es env) : Bx (Evs B nm n md ρ (e :: es) (d :: ds)) := ⟨evs_cons he.o hs.o hn⟩
theorem bx_list {p : Pos} (hs : Bx (Evs B nm n md ρ es ds)) (hz : ds.length ≤ 1000) : Bx (Ev B nm n md ρ (.List es p) (.list ds)) := ⟨(evg_list hs.o hz).ev⟩
theorem bx_tuple {k : Nat} {p : Pos} (hs : Bx (Evs B nm n md ρ es ds)) (hz : ds.length ≤ 1000) : Bx (Ev B nm n md ρ (.Tuple es k p) (.tuple ds)) := ⟨ev_tuple hs.o hz⟩
theorem bx_tx {x : Str} {l : List Nat} {k : Nat} {p : Pos} (h : x = ⟨l.toArray⟩) : Bx (Ev B nm n md ρ (.Constant (.str x) k p) (tx l)) := ⟨ev_tx h⟩
theorem bx_pickT {value slice : Expr} {pos : Pos} {l : List (List Nat × List Nat)} {x : Int} (hv : Bx (Ev B nm n md ρ value (.list (l.map prT)))) (hi : Bx (Ev B nm n .O ρ slice (.int x))) (h0 : 0 ≤ x) (h1 : x < l.length) (hl : l.length ≤ 100)
    (hs : ∀ a (k : Int) u, subscripted slice false (.ref a) (.int k u) = operate [.ref a, .int k u] (getItem (.ref a) (.int k u))) : Bx (Ev B nm n md ρ (.Subscript value slice pos) (prT (l.getD x.toNat ([], [])))) := ⟨ev_pickT hv.o hi.o h0 h1 hl hs⟩
theorem bx_pick {value slice : Expr} {pos : Pos} {l : List (List Nat)} {x : Int} (hv : Bx (Ev B nm n .O ρ value (.list (l.map tx)))) (hi : Bx (Ev B nm n .O ρ slice (.int x))) (h0 : 0 ≤ x) (h1 : x < l.length) (hl : l.length ≤ 100)
    (hs : ∀ a (k : Int) u, subscripted slice false (.ref a) (.int k u) = operate [.ref a, .int k u] (getItem (.ref a) (.int k u))) : Bx (Ev B nm n md ρ (.Subscript value slice pos) (tx (l.getD x.toNat []))) := ⟨ev_pick hv.o hi.o h0 h1 hl hs⟩
end
theorem bx_keys {B : Wd} {p q1 q2 q3 q4 q5 r1 r2 r3 r4 r5 r6 r7 r8 r9 r0 : Pos} {k1 k2 k3 k4 k5 k6 k7 k8 k9 k0 m1 m2 m3 m4 m5 : Nat} : Bx (Ev B nm n .N ρ (.List [.Tuple [.Constant (.str "k") k1 r1, .Constant (.str "k") k2 r2] m1 q1, .Tuple [.Constant (.str "m") k3 r3, .Constant (.str "m") k4 r4] m2 q2, .Tuple [.Constant (.str "") k5 r5, .Constant (.str "") k6 r6] m3 q3,
    .Tuple [.Constant (.str "\"x,y\"") k7 r7, .Constant (.str "\"x,y\"") k8 r8] m4 q4, .Tuple [.Constant (.str "\"e\\\"f\"") k9 r9, .Constant (.str "\"e\"f\"") k0 r0] m5 q5] p) (.list (keyTab.map prT))) := by
  have t : ∀ {a b : Str} (x y : List Nat) {ka kb m : Nat} {pa pb q : Pos}, a = ⟨x.toArray⟩ → b = ⟨y.toArray⟩ → Bx (Ev B nm n .N ρ (.Tuple [.Constant (.str a) ka pa, .Constant (.str b) kb pb] m q) (prT (x, y))) := fun x y _ _ _ _ _ _ ha hb => bx_tuple (bx_cons (bx_tx ha) (bx_cons (bx_tx hb) bx_nil (fun _ => star_c)) (fun _ => star_c)) (by simp)
  exact bx_list (bx_cons (t _ _ s_k s_k) (bx_cons (t _ _ s_m s_m) (bx_cons (t _ _ s_0 s_0) (bx_cons (t _ _ s_xy s_xy) (bx_cons (t _ _ s_ef s_fe) bx_nil (fun _ => star_t)) (fun _ => star_t)) (fun _ => star_t)) (fun _ => star_t)) (fun _ => star_t)) (by decide)
theorem bx_key {B : Wd} {R : Int} {a b c p' p q1 q2 q3 q4 q5 r1 r2 r3 r4 r5 r6 r7 r8 r9 r0 : Pos} {k k1 k2 k3 k4 k5 k6 k7 k8 k9 k0 m1 m2 m3 m4 m5 : Nat} (h : ρ "rest" = some (.dat (.int R))) : Bx (Ev B nm n .N ρ (.Subscript (.List [.Tuple [.Constant (.str "k") k1 r1, .Constant (.str "k") k2 r2] m1 q1, .Tuple [.Constant (.str "m") k3 r3, .Constant (.str "m") k4 r4] m2 q2, .Tuple [.Constant (.str "") k5 r5, .Constant (.str "") k6 r6] m3 q3,
    .Tuple [.Constant (.str "\"x,y\"") k7 r7, .Constant (.str "\"x,y\"") k8 r8] m4 q4, .Tuple [.Constant (.str "\"e\\\"f\"") k9 r9, .Constant (.str "\"e\"f\"") k0 r0] m5 q5] p) (.BinOp (.Name "rest" a) .Mod (.Constant (.int 5) k b) c) p') (.tuple [tx (hdAt R).kw, tx (hdAt R).kr])) := by
  have a0 : 0 ≤ R.fmod 5 := Int.fmod_nonneg_of_pos _ (by decide)
  have a1 : R.fmod 5 < ((keyTab.length : Nat) : Int) := by rw [show keyTab.length = 5 from rfl]; exact Int.fmod_lt_of_pos _ (by decide)
  exact bx_pickT (l := keyTab) bx_keys ⟨ev_mod (ev_name h (.inl rfl)) ev_int (by decide)⟩ a0 a1 (by decide) (by intro _ _ _; with_unfolding_all rfl)
theorem bx_gap {B : Wd} {md : Md} {R : Int} {a b b' c c' p' p r1 r2 r3 r4 : Pos} {k k' k1 k2 k3 k4 : Nat} (h : ρ "rest" = some (.dat (.int R))) : Bx (Ev B nm n md ρ (.Subscript (.List [.Constant (.str "") k1 r1, .Constant (.str " ") k2 r2, .Constant (.str "\t ") k3 r3, .Constant (.str "\n") k4 r4] p) (.BinOp (.BinOp (.Name "rest" a) .FloorDiv (.Constant (.int 2) k b) c) .Mod (.Constant (.int 4) k' b') c') p') (tx (hdAt R).gap)) := by
  have g0 : 0 ≤ (R.fdiv 2).fmod 4 := Int.fmod_nonneg_of_pos _ (by decide)
  have g1 : (R.fdiv 2).fmod 4 < ((gapTab.length : Nat) : Int) := by rw [show gapTab.length = 4 from rfl]; exact Int.fmod_lt_of_pos _ (by decide)
  have hv : Bx (Ev B nm n .O ρ (.List [.Constant (.str "") k1 r1, .Constant (.str " ") k2 r2, .Constant (.str "\t ") k3 r3, .Constant (.str "\n") k4 r4] p) (.list (gapTab.map tx))) := bx_list (bx_cons (bx_tx s_0) (bx_cons (bx_tx s_sp) (bx_cons (bx_tx s_tab) (bx_cons (bx_tx s_nl) bx_nil (fun _ => star_c)) (fun _ => star_c)) (fun _ => star_c)) (fun _ => star_c)) (by decide)
  exact bx_pick (l := gapTab) hv ⟨ev_mod (ev_div (ev_name h (.inl rfl)) ev_int (by decide) (by decide)) ev_int (by decide)⟩ g0 g1 (by decide) (by intro _ _ _; with_unfolding_all rfl)
section
variable {B : Wd} {X : String → Prop} {Q : Fl → Loc → Prop} {d : PyData} {x y : Str} {e ke ge value : Expr} {st : Stmt} {rest : List Stmt} {pos p px py p1 p2 p3 p4 p5 apos cpos tpos : Pos} {k1 k2 k0 : Nat}
theorem ex_goB (h : Bx (Ex1 B X nm n ρ st (Kq B X nm n rest Q))) : Ex B X nm n ρ (st :: rest) Q := ex_go h.o
theorem ex_assignNB (he : Bx (Ev B nm n .N ρ value d)) (hx : nm.lookup x = some .local) (q : Q .next (put x (.raw (DatN d)) ρ)) (hs : ∀ env, swapsWith value (some (.Name x p)) pos.line env = pure false := by intro _; rfl) :
    Bx (Ex1 B X nm n ρ (.Assign [.Name x p] value pos) Q) := ⟨ex_assignN he.o hx q hs⟩
theorem ex_kidB {pa a c : Addr} {lst ret : List Addr} {as : List (Addr × Addr)} {L : Lv} {Ls : List Lv} {t : T} (h0 : ρ x = some (.raw (PathR pa (lst ++ [a]) ((a, c) :: as) ret (L :: Ls)))) (hnd : (pa :: (flatA ((a, c) :: as) ++ ret)).Nodup) (hz : lst.length ≤ 1000) (hz2 : L.cs.length ≤ 1000)
    (he : Bx (Ev B nm n .N ρ e (kid t))) (q : Q .next (put x (.raw (PathR pa (lst ++ [a]) ((a, c) :: as) ret (⟨L.hd, L.d, L.cs ++ [t]⟩ :: Ls))) (clr [] ρ)))
    (hc : MCall (topE x px k1 p1 p2 p3 k2 p4 p5) "append" apos [e] cpos := by intro _; rfl) (hn : ∀ env, starEach [e] env = [(false, eval e env)] := by intro _; rfl) (hd : (x == ("__debug__" : Str)) = false := by decide)
    (hsw : ∀ env, swapsWith (.Call (.Attribute (topE x px k1 p1 p2 p3 k2 p4 p5) "append" apos) [e] [] cpos) none pos.line env = pure false := by intro _; rfl) :
    Bx (Ex1 B X nm n ρ (.Expr (.Call (.Attribute (topE x px k1 p1 p2 p3 k2 p4 p5) "append" apos) [e] [] cpos) pos) Q) := ⟨ex_kid h0 hnd hz hz2 he.o q hc hn hd hsw⟩
theorem ex_kidOpenB {pa a c a' c' : Addr} {dd : Bool} {hd' : Hd} {lst ret : List Addr} {as : List (Addr × Addr)} {L : Lv} {Ls : List Lv} (h0 : ρ x = some (.raw (PathR pa (lst ++ [a]) ((a, c) :: as) ret (L :: Ls)))) (hy : ρ y = some (.raw (NodeR a' c' dd))) (hnd : (pa :: (flatA ((a, c) :: as) ++ ret)).Nodup) (hz : lst.length ≤ 1000) (hz2 : L.cs.length ≤ 1000)
    (hac : c ≠ a' ∧ c ≠ c') (hk : Bx (Ev B nm n .N ρ ke (.tuple [tx hd'.kw, tx hd'.kr]))) (hg : Bx (Ev B nm n .N ρ ge (tx hd'.gap))) (q : Q .next (put x (.raw (PathP pa (lst ++ [a]) ((a, c) :: as) ret (L :: Ls) a' hd')) (clr [y] ρ)))
    (hc : MCall (topE x px k1 p1 p2 p3 k2 p4 p5) "append" apos [.Tuple [ke, ge, .Name y py] k0 tpos] cpos := by intro _; rfl)
    (hn1 : ∀ env, starEach [ke, ge, .Name y py] env = (false, eval ke env) :: starEach [ge, .Name y py] env) (hn2 : ∀ env, starEach [ge, .Name y py] env = (false, eval ge env) :: starEach [.Name y py] env)
    (hd : (x == ("__debug__" : Str)) = false := by decide) (hdy : (y == ("__debug__" : Str)) = false := by decide)
    (hsw : ∀ env, swapsWith (.Call (.Attribute (topE x px k1 p1 p2 p3 k2 p4 p5) "append" apos) [.Tuple [ke, ge, .Name y py] k0 tpos] [] cpos) none pos.line env = pure false := by intro _; rfl) :
    Bx (Ex1 B X nm n ρ (.Expr (.Call (.Attribute (topE x px k1 p1 p2 p3 k2 p4 p5) "append" apos) [.Tuple [ke, ge, .Name y py] k0 tpos] [] cpos) pos) Q) := ⟨ex_kidOpen h0 hy hnd hz hz2 hac hk.o hg.o q hc hn1 hn2 hd hdy hsw⟩
theorem bx_cast {md : Md} {d' : PyData} (q : d = d') (h : Bx (Ev B nm n md ρ e d)) : Bx (Ev B nm n md ρ e d') := q ▸ h
end
end
end Mine
end

section
set_option maxRecDepth 100000
set_option maxHeartbeats 1500000
namespace Mine
section
variable {w : World} {mg mb : Str → Option Value} {base : Heap} {nm : List (Str × NameKind)} {n : Nat} {ρ : Loc}

/-- _law_tree -/
theorem c_tree (ns : List Int) (hn : ns.length ≤ 25) : ∃ t, T.Ok 4 t ∧ t.sz ≤ 26 ∧ (∃ cs, t = .node ⟨[], [], []⟩ false cs) ∧ Fn (wd w mg mb base) 38 4 [.list (ns.map .int)] t.dat := by
  obtain ⟨g, hg⟩ := Classical.axiomOfChoice (fun x : Int => c_text (w := w) (mg := mg) (mb := mb) (base := base) x)
  have hg3 : ∀ m, (g m).length ≤ 3 := fun m => (hg m).1
  obtain ⟨o1, o2, o3⟩ := tree_ok hg3 ns
  refine ⟨treeOf g ns, o1, by omega, o3, ?_⟩
  refine fn_intro1 (n := 3) (x := "draws") rfl rfl rfl (fun _ => rfl) rfl rfl rfl rfl (fun _ => rfl) ?_
  refine ex_go (ex_node (dd := false) (ev_tx rfl) rfl fun a c hac _ => ?_)
  refine ex_go (ex_path (a := a) (c := c) (dd := false) rfl rfl fun p hpa hpc => ?_)
  refine ex_soft (x := "root") (R := NodeR a c false) (R2 := RootR a) rfl (fun _ (h : _ ∈ ([] : List Addr)) => nomatch h) (fun _ _ _ _ r => r.1) ?_
  refine ex_mid (fun ρ' => ∃ pa as ret, Inv g ns ρ' (lvs g ns) pa as ret) (ex_for (evi_list (ev_name (d := .list (ns.map .int)) rfl (.inr (.inl rfl)))) (fun i ρ' => ∃ pa as ret, Inv g ns ρ' (lvs g (ns.take i)) pa as ret) ⟨p, [(a, c)], [], rfl, rfl, by simp [flatA, hpa, hpc, hac], rfl⟩ ?turn ?done) fun ρ' hρ => ?ret
  case done =>
    rintro ρ' h
    rw [List.length_map, List.take_length] at h
    exact ⟨rfl, h⟩
  case ret =>
    obtain ⟨pa, as, ret, I⟩ := hρ
    have hok := lvs_ok hg3 ns
    unfold treeOf
    generalize lvs g ns = Ls at I hok
    match Ls, as, hok.ne, I with
    | L :: Lr, (a, c) :: as', _, I => exact ex_last (ex_return (ev_root (x := "path") I.path I.root) (.inl rfl))
    | L :: Lr, [], _, I => exact absurd I.len (by simp)
  case turn =>
    rintro i d ρ' hd ⟨pa, as, ret, I⟩
    obtain ⟨x, hx, rfl⟩ : ∃ x, ns[i]? = some x ∧ PyData.int x = d := by simpa using hd
    have hok := lvs_ok hg3 (ns.take i)
    have hst := lvs_take (g := g) hx
    have hil : (ns.take i).length ≤ 25 := by rw [List.length_take]; omega
    generalize lvs g (ns.take i) = Ls at I hok hst
    match Ls, as, hok, I, hst with
    | [], as, hok, I, hst => exact absurd rfl hok.ne
    | L :: Lr, [], hok, I, hst => exact absurd I.len (by simp)
    | L :: Lr, (a, c) :: as, hok, I, hst =>
      have hle := hok.le
      have hlen := I.len
      simp only [List.length_cons] at hle hlen
      have hcs : L.cs.length ≤ 1000 := by
        have h1 := hok.tt
        have h2 := szs_len L.cs
        rw [tot] at h1; omega
      refine ⟨_, as_name rfl, ?_⟩
      obtain ⟨K, hK⟩ : ∃ K, K = x.fmod 8 := ⟨_, rfl⟩
      obtain ⟨R, hR⟩ : ∃ R, R = x.fdiv 8 := ⟨_, rfl⟩
      have K0 : 0 ≤ K := hK ▸ Int.fmod_nonneg_of_pos _ (by decide)
      have K1 : K < 8 := hK ▸ Int.fmod_lt_of_pos _ (by decide)
      refine ex_mid (fun ρ'' => Mid g ns ρ'' (L :: Lr) pa ((a, c) :: as) ret K R) (ex_unpack2 (d₁ := .int K) (d₂ := .int R) (by rw [hK]; exact ev_mod (ev_name rfl (.inl rfl)) ev_int (by decide)) (by rw [hR]; exact ev_div (ev_name rfl (.inl rfl)) ev_int (by decide) (by decide)) rfl rfl ⟨rfl, ⟨⟨I.path, I.root, I.nd, I.len⟩, rfl, rfl⟩⟩ (hw := by intro env hk hn; unfold swappedStores Env.blockKind Env.kindOf; rw [hk, hn]; rfl)) fun ρ₂ M => ?_
      refine ex_last (ex_if (tr_and (tr_cmp (cm_eqi (b := 0) (ev_name M.kind (.inl rfl)) ev_int)) (fun _ => tr_cmp (cm_gt (b := 1) (ev_lenRaw (k := as.length + 1) (b_len rfl) M.inv.path (lenPath (by rw [lstA_len]; rfl)) (by omega)) ev_int))) (fun hb => ?pop) fun hb => ?els)
      case pop =>
        have hb : K = 0 ∧ (1 : Int) < ((as.length + 1 : Nat) : Int) := by simpa using hb
        have hb2 : 0 < as.length := by omega
        match as, Lr, hlen, hb2, M, hst with
        | (a', c') :: as, L' :: Lr, hlen, hb2, M, hst =>
          have hp := M.inv.path
          rw [lstA_cons] at hp
          refine ex_last (ex_popR (x := "path") hp M.inv.nd (by rw [lstA_len]; simp only [List.length_cons] at hle hlen ⊢; omega) ⟨pa, (a', c') :: as, a :: c :: ret, ?_⟩)
          rw [hst, stp_pop (hK ▸ hb.1)]
          exact ⟨rfl, clr_raw M.inv.root (.inl rfl), nodup_pop M.inv.nd, by simpa using hlen⟩
        | (a', c') :: as, [], hlen, hb2, M, hst => simp at hlen
      case els =>
        have hb : ¬ (K = 0 ∧ (1 : Int) < ((as.length + 1 : Nat) : Int)) := by simpa using hb
        have hne : ¬ (x.fmod 8 = 0 ∧ 1 < (L :: Lr).length) := fun q => hb ⟨hK ▸ q.1, by have := q.2; simp only [List.length_cons] at this; omega⟩
        refine ex_go (ex_assignN (d := .list [tx [116], tx (g R)]) (evg_list (evs_cons (ev_tx (l := [116]) rfl) (evs_cons (ev_call (d_text rfl) (evs_cons (ev_name M.rest (.inl rfl)) evs_nil) (Fn.mono (hg R).2 (by decide))) evs_nil)) (by simp)).ev rfl ?_)
        have M' : Mid g ns (put "node" (.raw (DatN (.list [tx [116], tx (g R)]))) ρ₂) (L :: Lr) pa ((a, c) :: as) ret K R := ⟨⟨M.inv.path, M.inv.root, M.inv.nd, M.inv.len⟩, M.kind, M.rest⟩
        replace M := M'
        refine ex_mid (fun ρ'' => ρ'' "node" = some (.raw (DatN (leafAt g K R).dat)) ∧ Mid g ns ρ'' (L :: Lr) pa ((a, c) :: as) ret K R) (ex_if (tr_and (tr_cmp (cm_eqi (a := K) (b := 7) (ev_name M.kind (.inl rfl)) ev_int)) (fun _ => tr_cmp (cm_eqi (a := R.fmod 3) (b := 0) (ev_mod (ev_name M.rest (.inl rfl)) ev_int (by decide)) ev_int))) (fun hb => ?_) fun hb => ?_) fun ρ₃ hρ₃ => ?_
        · have hb : K = 7 ∧ R.fmod 3 = 0 := by simpa using hb
          have b0 : 0 ≤ (R.fdiv 3).fmod 2 := Int.fmod_nonneg_of_pos _ (by decide)
          have b1 : (R.fdiv 3).fmod 2 < 2 := Int.fmod_lt_of_pos _ (by decide)
          refine ex_last (ex_assignN (d := .list [tx [120], tx ([118] ++ List.replicate ((R.fdiv 3).fmod 2).toNat 61)]) (evg_list (evs_cons (ev_tx (l := [120]) rfl) (evs_cons (ev_cat (ev_tx (l := [118]) rfl) (ev_rep (c := 61) (ev_tx rfl) (ev_mod (ev_div (ev_name M.rest (.inl rfl)) ev_int (by decide) (by decide)) ev_int (by decide)) b0 (by omega)) (by simp; omega)) evs_nil)) (by simp)).ev rfl ⟨rfl, ?_, ⟨⟨M.inv.path, M.inv.root, M.inv.nd, M.inv.len⟩, M.kind, M.rest⟩⟩)
          unfold leafAt
          rw [if_pos hb, dat_leaf]; rfl
        · have hb : ¬ (K = 7 ∧ R.fmod 3 = 0) := by simpa using hb
          refine ex_nil ⟨rfl, ?_, ⟨⟨M.inv.path, M.inv.root, M.inv.nd, M.inv.len⟩, M.kind, M.rest⟩⟩
          unfold leafAt
          rw [if_neg hb, dat_leaf]; rfl
        · obtain ⟨hnode, M⟩ := hρ₃
          refine ex_mid (fun ρ'' => Mid g ns ρ'' (L :: Lr) pa ((a, c) :: as) ret K R ∧ ((¬ (isCon K = true ∧ (L :: Lr).length < 4) ∧ ρ'' "node" = some (.raw (DatN (leafAt g K R).dat))) ∨ ((isCon K = true ∧ (L :: Lr).length < 4) ∧ ∃ a' c', a' ≠ c' ∧ a' ∉ pa :: (flatA ((a, c) :: as) ++ ret) ∧ c' ∉ pa :: (flatA ((a, c) :: as) ++ ret) ∧ ρ'' "node" = some (.raw (NodeR a' c' (K != 1))))))
            (ex_if (tr_and (tr_cmp (cm_inT (d := .int K) (ev_name M.kind (.inl rfl)) (ev_tuple (evs_cons ev_int (evs_cons ev_int (evs_cons ev_int evs_nil))) (by decide)) rfl rfl (by simp [PyData.depth]))) (fun _ => tr_cmp (cm_lt (b := 4) (ev_lenRaw (k := as.length + 1) (b_len rfl) M.inv.path (lenPath (by rw [lstA_len]; rfl)) (by omega)) ev_int))) (fun hb => ?_) fun hb => ?_) fun ρ₄ hρ₄ => ?_
          · rw [any_con, Bool.and_eq_true] at hb
            have hb2 : ((as.length + 1 : Nat) : Int) < 4 := by simpa using hb.2
            have hcon := hb.1
            have hK3 : K = 1 ∨ K = 2 ∨ K = 3 := by unfold isCon at hcon; simpa [Bool.or_eq_true, or_assoc] using hcon
            refine ex_last (ex_node (dd := K != 1) (Ev.cast ?_ (ev_pick (md := .O) (l := [[108], [100], [100]]) (evg_list (evs_cons (ev_tx rfl) (evs_cons (ev_tx rfl) (evs_cons (ev_tx rfl) evs_nil))) (by decide)).ev (ev_sub (ev_name M.kind (.inl rfl)) ev_int) (by omega) (by simp; omega) (by decide))) rfl fun a' c' hac hfr => ⟨rfl, ⟨⟨M.inv.path, M.inv.root, M.inv.nd, M.inv.len⟩, M.kind, M.rest⟩, .inr ⟨⟨hcon, by simp only [List.length_cons]; omega⟩, a', c', hac, (hfr "path" _ M.inv.path).1, (hfr "path" _ M.inv.path).2, rfl⟩⟩)
            rcases hK3 with q | q | q <;> rw [q] <;> rfl
          · rw [any_con] at hb
            refine ex_nil ⟨rfl, M, .inl ⟨fun q => ?_, hnode⟩⟩
            rw [q.1, Bool.true_and] at hb
            have hb2 : ¬ ((as.length + 1 : Nat) : Int) < 4 := by simpa using hb
            have := q.2
            simp only [List.length_cons] at this
            omega
          · obtain ⟨M, hcase⟩ := hρ₄
            with_reducible refine ex_goB ?_
            refine ex_assignNB (d := .tuple [tx (hdAt R).kw, tx (hdAt R).kr]) (bx_key M.rest) rfl ?_
            show Ex _ _ _ _ _ _ _
            have hp := M.inv.path
            rw [lstA_cons] at hp
            have hz : (lstA as).length ≤ 1000 := by rw [lstA_len]; omega
            rcases hcase with ⟨hno, hnode⟩ | ⟨hyes, a', c', hac, ha', hc', hnode⟩
            · with_reducible refine ex_goB ?_
              refine ex_kidB (x := "path") (t := leafAt g K R) hp M.inv.nd hz hcs (bx_cast ?_ (bx_tuple (bx_cons ⟨ev_datN (d := .tuple [tx (hdAt R).kw, tx (hdAt R).kr]) rfl⟩ (bx_cons (bx_gap M.rest) (bx_cons ⟨ev_datN hnode⟩ bx_nil (fun _ => star_n)) (fun _ => star_s)) (fun _ => star_n)) (by simp))) ?_ (hn := fun _ => star_t)
              · unfold kid; rw [leafAt_hd]
              · obtain ⟨b, ss, hdat⟩ := leafAt_dat g K R
                have hnode' : put "path" (.raw (PathR pa (lstA as ++ [a]) ((a, c) :: as) ret (⟨L.hd, L.d, L.cs ++ [leafAt g K R]⟩ :: Lr))) (clr [] (put "key" (.raw (DatN (.tuple [tx (hdAt R).kw, tx (hdAt R).kr]))) ρ₄)) "node" = some (.raw (DatN (.list [tx (lkn b), tx ss]))) := by
                  rw [← hdat]; exact clr_raw (ρ := put "key" _ ρ₄) hnode (.inl rfl)
                refine ex_last (ex_if (tr_cmp (cm_inT (d := tx (lkn b)) (ev_itemL (md := .O) (j := 0) (ev_datN hnode') ev_int rfl rfl (by simp)) (ev_tuple (evs_cons (ev_tx (l := [108]) rfl) (evs_cons (ev_tx (l := [100]) rfl) evs_nil)) (by decide)) rfl rfl (by simp [PyData.depth]))) (fun hb => ?_) fun hb => ex_nil ⟨pa, (a, c) :: as, ret, ?_⟩)
                · rw [any_ld] at hb
                  cases b <;> exact absurd hb (by decide)
                · rw [hst, stp_leaf hne (hK ▸ hno), ← hK, ← hR]
                  exact ⟨by rw [lstA_cons]; rfl, clr_raw (ρ := put "key" _ ρ₄) M.inv.root (.inl rfl), M.inv.nd, by simpa using hlen⟩
            · have hne1 : c ≠ a' ∧ c ≠ c' := ⟨fun z => ha' (by rw [← z]; simp [flatA]), fun z => hc' (by rw [← z]; simp [flatA])⟩
              have hne2 : pa ≠ a' ∧ pa ≠ c' := ⟨fun z => ha' (by rw [← z]; exact .head _), fun z => hc' (by rw [← z]; exact .head _)⟩
              with_reducible refine ex_goB ?_
              refine ex_kidOpenB (x := "path") (y := "node") (hd' := hdAt R) hp hnode M.inv.nd hz hcs hne1 ⟨ev_datN (d := .tuple [tx (hdAt R).kw, tx (hdAt R).kr]) rfl⟩ (bx_gap M.rest) ?_ (hn1 := fun _ => star_n) (hn2 := fun _ => star_s)
              have hnode' : put "path" (.raw (PathP pa (lstA as ++ [a]) ((a, c) :: as) ret (L :: Lr) a' (hdAt R))) (clr ["node"] (put "key" (.raw (DatN (.tuple [tx (hdAt R).kw, tx (hdAt R).kr]))) ρ₄)) "node" = some (.raw (NodeR a' c' (K != 1))) := clr_raw (ρ := put "key" _ ρ₄) hnode (.inr (.head _))
              refine ex_last (ex_if (tr_cmp (cm_inT (d := tx (knd (K != 1))) (ev_itemL (md := .O) (j := 0) (ev_raw hnode' node_read (.inl rfl)) ev_int rfl rfl (by simp)) (ev_tuple (evs_cons (ev_tx (l := [108]) rfl) (evs_cons (ev_tx (l := [100]) rfl) evs_nil)) (by decide)) rfl rfl (by simp [PyData.depth]))) (fun hb => ?_) fun hb => ?_)
              · refine ex_last (ex_pushR (x := "path") (y := "node") (dd := K != 1) (hd' := hdAt R) rfl hnode' M.inv.nd (by rw [List.length_append, lstA_len]; simp; omega) hne2 ⟨pa, (a', c') :: (a, c) :: as, ret, ?_⟩)
                rw [hst, stp_push hne (hK ▸ hyes), ← hK, ← hR]
                exact ⟨by rw [lstA_cons, lstA_cons]; rfl, clr_raw (ρ := put "path" _ (clr ["node"] (put "key" _ ρ₄))) (clr_raw (ρ := put "key" _ ρ₄) M.inv.root (.inl rfl)) (.inl rfl), nodup_push M.inv.nd hac ha' hc', by simpa using hlen⟩
              · rw [any_ld] at hb
                exfalso
                cases hk1 : (K != 1) <;> rw [hk1] at hb <;> exact absurd hb (by decide)
end
end Mine
end

section
namespace Mine

noncomputable def T.isX : T → Bool
  | .leaf _ true _ => true
  | _ => false
noncomputable def T.isT : T → Bool
  | .leaf _ false _ => true
  | _ => false
noncomputable def T.txt : T → List Nat
  | .leaf _ _ s => s
  | .node _ _ _ => []
/-- the sign of a node's kind -/
noncomputable def T.kd : T → List Nat
  | .leaf _ x _ => lkn x
  | .node _ d _ => knd d
noncomputable def T.bdy : T → PyData
  | .leaf _ _ s => tx s
  | .node _ _ cs => .list (cs.map kid)
theorem dat_eq : ∀ t : T, t.dat = .list [tx t.kd, t.bdy]
  | .leaf h x s => dat_leaf h x s
  | .node h d cs => dat_node h d cs
noncomputable def pieceOf (d : Bool) (t : T) (w : List Nat) : List Nat := t.hd.gap ++ (if t.isX = true then t.txt else (if d = true then t.hd.kw ++ [61] else []) ++ quoted w (t.isT && t.hd.gap != [])) ++ t.hd.gap
mutual
noncomputable def T.write : T → List Nat
  | .leaf _ _ s => 116 :: s
  | .node _ d cs => knd d ++ glue [44] (pieces d cs) ++ (if cs.length % 3 = 2 then [44] else [])
noncomputable def pieces (d : Bool) : List T → List (List Nat)
  | [] => []
  | t :: r => pieceOf d t t.write :: pieces d r
end
noncomputable def piece (d : Bool) (t : T) : List Nat := pieceOf d t t.write
theorem pieces_map (d : Bool) : ∀ cs : List T, pieces d cs = cs.map (piece d)
  | [] => by rw [pieces]; rfl
  | t :: r => by rw [pieces, pieces_map d r]; rfl
theorem write_node (h : Hd) (d : Bool) (cs : List T) : (T.node h d cs).write = knd d ++ glue [44] (cs.map (piece d)) ++ (if cs.length % 3 = 2 then [44] else []) := by rw [T.write, pieces_map]
theorem write_leaf (h : Hd) (x : Bool) (s : List Nat) : (T.leaf h x s).write = 116 :: s := by rw [T.write]
theorem glue_mem_len (sep : List Nat) : ∀ (l : List (List Nat)) (p : List Nat), p ∈ l → p.length ≤ (glue sep l).length
  | [q], p, h => by rw [List.mem_singleton.mp h]; exact Nat.le_refl _
  | a :: b :: r, p, h => by
    rw [glue]
    simp only [List.length_append]
    rcases List.mem_cons.mp h with e | h
    · rw [e]; omega
    · have := glue_mem_len sep (b :: r) p h; omega
theorem glue_len_le (sep : List Nat) (l : List (List Nat)) : (glue sep l).length ≤ (l.map fun p => p.length + sep.length).sum := by
  match l with
  | [] => simp [glue]
  | [p] => simp [glue]
  | a :: b :: r =>
    rw [glue]
    have := glue_len_le sep (b :: r)
    simp only [List.length_append, List.map_cons, List.sum_cons] at this ⊢
    omega
theorem piece_len {d : Bool} {c : T} (h : c.isX = false) : c.write.length + 2 ≤ (piece d c).length := by
  unfold piece pieceOf
  rw [if_neg (by rw [h]; exact Bool.false_ne_true)]
  simp only [List.length_append]
  have := quoted_ge c.write (c.isT && c.hd.gap != [])
  omega
theorem child_len {h : Hd} {d : Bool} {cs : List T} {c : T} (hc : c ∈ cs) (hx : c.isX = false) : c.write.length ≤ (T.node h d cs).write.length := by
  rw [write_node]
  have h1 := glue_mem_len [44] (cs.map (piece d)) (piece d c) (List.mem_map_of_mem hc)
  have h2 := piece_len (d := d) hx
  simp only [List.length_append]; omega
theorem hd_len {h : Hd} (k : HdOk h) : h.kw.length ≤ 6 ∧ h.gap.length ≤ 2 := by
  have h1 : ∀ p ∈ keyTab, p.1.length ≤ 6 := by decide
  have h2 : ∀ p ∈ gapTab, p.length ≤ 2 := by decide
  exact ⟨h1 _ k.key, h2 _ k.gap⟩
theorem piece_le {d : Bool} {c : T} {n : Nat} (k : HdOk c.hd) (o : T.Ok n c) : (piece d c).length ≤ 2 * c.write.length + 14 := by
  obtain ⟨h1, h2⟩ := hd_len k
  have h3 := quoted_len c.write (c.isT && c.hd.gap != [])
  unfold piece pieceOf
  simp only [List.length_append]
  split
  · cases o with
    | leaf hs hx => rename_i x _; simp only [T.txt]; omega
    | node _ _ => rename_i hx; cases hx
  · split
    · simp only [List.length_append, List.length_singleton]; omega
    · simp only [List.length_append, List.length_nil]; omega
theorem pow3_pos (n : Nat) : 1 ≤ 3 ^ n := Nat.one_le_pow _ _ (by decide)
theorem sum_le {α : Type} (f : α → Nat) (g : α → Nat) : ∀ l : List α, (∀ a ∈ l, f a ≤ g a) → (l.map f).sum ≤ (l.map g).sum
  | [], _ => Nat.le_refl _
  | a :: r, h => by
    simp only [List.map_cons, List.sum_cons]
    have := h a (.head _)
    have := sum_le f g r fun b hb => h b (.tail _ hb)
    omega
theorem szs_sum : ∀ cs : List T, szs cs = (cs.map T.sz).sum
  | [] => by rw [szs]; rfl
  | t :: r => by rw [szs, szs_sum r]; rfl
theorem sum_mul (k : Nat) : ∀ l : List T, (l.map fun c => k * c.sz).sum = k * (l.map T.sz).sum
  | [] => by simp
  | a :: r => by simp only [List.map_cons, List.sum_cons, sum_mul k r, Nat.mul_add]
theorem write_len : ∀ (n : Nat) (t : T), T.Ok n t → t.write.length ≤ 20 * t.sz * 3 ^ n
  | n, .leaf h x s, o => by
    cases o with
    | leaf hs _ =>
      rw [write_leaf, sz_leaf]
      have := pow3_pos n
      simp only [List.length_cons]; omega
  | n + 1, .node h d cs, o => by
    cases o with
    | node h1 h2 =>
      rw [write_node, sz_node]
      have p3 := pow3_pos n
      have g1 := glue_len_le [44] (cs.map (piece d))
      rw [List.map_map] at g1
      have g2 : (cs.map ((fun p => p.length + [44].length) ∘ piece d)).sum ≤ (cs.map fun c => (60 * 3 ^ n) * c.sz).sum := sum_le _ _ cs fun c hc => by
        have a1 := piece_le (d := d) (h1 c hc) (h2 c hc)
        have a2 := write_len n c (h2 c hc)
        have a3 := sz_pos c
        have a4 : 20 * 3 ^ n ≤ 20 * c.sz * 3 ^ n := Nat.mul_le_mul_right _ (by omega)
        have a5 : 60 * 3 ^ n * c.sz = 3 * (20 * c.sz * 3 ^ n) := by rw [Nat.mul_assoc 60, Nat.mul_assoc 20, Nat.mul_comm (3 ^ n) c.sz]; omega
        simp only [Function.comp_def, List.length_singleton]
        rw [a5]; omega
      rw [sum_mul, ← szs_sum] at g2
      have k1 : (knd d).length = 1 := by cases d <;> rfl
      have k2 : (if cs.length % 3 = 2 then [44] else ([] : List Nat)).length ≤ 1 := by split <;> simp
      have k3 : 20 * (1 + szs cs) * 3 ^ (n + 1) = 60 * 3 ^ n + 60 * 3 ^ n * szs cs := by
        rw [Nat.pow_succ, Nat.mul_add, Nat.add_mul]
        have e1 : 20 * 1 * (3 ^ n * 3) = 60 * 3 ^ n := by omega
        have e2 : 20 * szs cs * (3 ^ n * 3) = 60 * 3 ^ n * szs cs := by
          rw [← Nat.mul_assoc, Nat.mul_right_comm 20, Nat.mul_right_comm (20 * 3 ^ n), Nat.mul_right_comm 20]
        rw [e1, e2]
      simp only [List.length_append]
      omega
  | 0, .node h d cs, o => by cases o
theorem write_small {t : T} (o : T.Ok 4 t) (h : t.sz ≤ 26) : t.write.length ≤ 50000 := by
  have h1 := write_len 4 t o
  have h2 : 20 * t.sz * 3 ^ 4 ≤ 20 * 26 * 3 ^ 4 := Nat.mul_le_mul_right _ (by omega)
  have h3 : 20 * 26 * 3 ^ 4 = 42120 := by decide
  omega
end Mine
end

section
set_option maxRecDepth 100000
set_option maxHeartbeats 1500000
namespace Mine
theorem szs_mem : ∀ {cs : List T} {c : T}, c ∈ cs → c.sz ≤ szs cs
  | t :: r, c, h => by
    rw [szs]
    rcases List.mem_cons.mp h with e | h
    · rw [e]; omega
    · have := szs_mem h; omega
theorem isX_kd : ∀ c : T, c.isX = (c.kd == [120])
  | .leaf _ true _ => by simp only [T.isX, T.kd, lkn]; decide
  | .leaf _ false _ => by simp only [T.isX, T.kd, lkn]; decide
  | .node _ true _ => by simp only [T.isX, T.kd, knd]; decide
  | .node _ false _ => by simp only [T.isX, T.kd, knd]; decide
theorem isT_kd : ∀ c : T, c.isT = (c.kd == [116])
  | .leaf _ true _ => by simp only [T.isT, T.kd, lkn]; decide
  | .leaf _ false _ => by simp only [T.isT, T.kd, lkn]; decide
  | .node _ true _ => by simp only [T.isT, T.kd, knd]; decide
  | .node _ false _ => by simp only [T.isT, T.kd, knd]; decide
theorem isX_txt {c : T} (h : c.isX = true) : c.bdy = tx c.txt := by
  cases c with
  | leaf _ _ _ => rfl
  | node _ _ _ => cases h
theorem knd_d (d : Bool) : (knd d == [100]) = d := by cases d <;> decide
/-- what stands between the white space of a piece -/
noncomputable def core (d : Bool) (c : T) : List Nat := if c.isX = true then c.txt else (if d = true then c.hd.kw ++ [61] else []) ++ quoted c.write (c.isT && c.hd.gap != [])
theorem piece_core (d : Bool) (c : T) : piece d c = c.hd.gap ++ core d c ++ c.hd.gap := rfl
section
variable {w : World} {mg mb : Str → Option Value} {base : Heap} {nm : List (Str × NameKind)} {n : Nat} {ρ : Loc}

/-- _law_write -/
theorem c_write : ∀ (n : Nat) (t : T), T.Ok n t → t.isX = false → t.write.length ≤ 100000 → t.sz ≤ 100 → Fn (wd w mg mb base) 50 (n + 3) [t.dat] (tx t.write) := by
  intro n
  induction n using Nat.strongRecOn with
  | _ n ih =>
  intro t ok hx hz hs
  rw [dat_eq]
  refine fn_intro1 (n := n + 2) (x := "node") rfl rfl rfl (fun _ => rfl) rfl rfl rfl rfl (fun _ => rfl) ?_
  refine ex_go (ex_if (tr_cmp (cm_eqs (a := t.kd) (b := [116]) (ev_itemL (md := .O) (j := 0) (ev_name (d := .list [tx t.kd, t.bdy]) rfl (.inl rfl)) ev_int rfl rfl (by simp)) (ev_tx rfl))) (fun hb => ?_) fun hb => ?_)
  · cases t with
    | node h d cs =>
      have hb : (knd d == [116]) = true := hb
      cases d <;> exact absurd hb (by decide)
    | leaf h x s =>
      cases x with
      | true => cases hx
      | false =>
        rw [write_leaf]
        rw [write_leaf] at hz
        refine ex_last (ex_return (ev_cat (x := [116]) (y := s) (ev_tx rfl) (ev_itemL (md := .O) (j := 1) (ev_name (d := .list [tx (T.leaf h false s).kd, (T.leaf h false s).bdy]) rfl (.inl rfl)) ev_int rfl rfl (by simp)) (by simp only [List.length_cons, List.length_nil] at hz ⊢; omega)) (.inl rfl))
  · refine ex_nil ?_
    cases t with
    | leaf h x s =>
      cases x with
      | true => cases hx
      | false =>
        have hb : (lkn false == [116]) = false := hb
        exact absurd hb (by decide)
    | node h d cs =>
      cases ok with
      | @node m _ _ _ o1 o2 =>
      have hw := write_node h d cs
      have hgl : (glue [44] (cs.map (piece d))).length ≤ 100000 := by rw [hw] at hz; simp only [List.length_append] at hz; omega
      have hpl : ∀ c ∈ cs, (piece d c).length ≤ 100000 := fun c hc => Nat.le_trans (glue_mem_len [44] _ _ (List.mem_map_of_mem hc)) hgl
      rw [sz_node] at hs
      have hcl : cs.length ≤ 100 := by have := szs_len cs; omega
      have hsz : ∀ c ∈ cs, c.sz ≤ 100 := fun c hc => by
        have := szs_mem hc
        omega
      refine ex_go (ex_own (evg_list evs_nil (by decide)) rfl ?_)
      refine ex_mid (fun ρ' => ρ' "node" = some (.dat (.list [tx (knd d), .list (cs.map kid)])) ∧ ρ' "parts" = some (.lst ((cs.map (piece d)).map tx))) (ex_for (evi_list (ev_itemL (md := .C) (j := 1) (d := .list (cs.map kid)) (ev_name (d := .list [tx (knd d), .list (cs.map kid)]) rfl (.inr (.inl rfl))) ev_int rfl rfl (by simp))) (fun i ρ' => ρ' "node" = some (.dat (.list [tx (knd d), .list (cs.map kid)])) ∧ ρ' "parts" = some (.lst (((cs.take i).map (piece d)).map tx))) ⟨rfl, rfl⟩ ?turn ?done) fun ρ' hρ => ?ret
      case done =>
        rintro ρ' ⟨h1, h2⟩
        rw [List.length_map, List.take_length] at h2
        exact ⟨rfl, h1, h2⟩
      case ret =>
        obtain ⟨h1, h2⟩ := hρ
        have hq : ((cs.map (piece d)).map tx).length = cs.length := by simp
        refine ex_last (ex_return (d := tx (T.node h d cs).write) (Ev.cast (by rw [hw]) (ev_cat (ev_cat (x := knd d) (y := glue [44] (cs.map (piece d))) (ev_itemL (md := .O) (j := 0) (ev_name h1 (.inl rfl)) ev_int rfl rfl (by simp)) (Ev.cast rfl (ev_join (sep := [44]) (ts := cs.map (piece d)) (b := 100000) (ev_tx rfl) (ev_own h2 (.inl rfl)) ?b ?z)) ?z1) (ev_ifexp (d := tx (if cs.length % 3 = 2 then [44] else [])) (tr_cmp (cm_eqi (a := ((cs.length : Int)).fmod 3) (b := 2) (ev_mod (Ev.cast (by rw [hq]) (ev_lenL (b_len rfl) (ev_own h2 (.inl rfl)) (by simp; omega))) ev_int (by decide)) ev_int)) (fun hb => ?i1) fun hb => ?i2) ?z2)) (.inl rfl))
        case b =>
          intro p hp
          obtain ⟨c, hc, rfl⟩ := List.mem_map.mp hp
          exact hpl c hc
        case z => simp only [List.length_map, List.length_singleton]; omega
        case z1 =>
          have : (knd d).length = 1 := by cases d <;> rfl
          omega
        case i1 =>
          have hb : ((cs.length : Int)).fmod 3 = 2 := by simpa using hb
          rw [if_pos (by rw [Int.fmod_eq_emod_of_nonneg _ (by decide)] at hb; omega)]
          exact ev_tx rfl
        case i2 =>
          have hb : ¬ ((cs.length : Int)).fmod 3 = 2 := by simpa using hb
          rw [if_neg (by rw [Int.fmod_eq_emod_of_nonneg _ (by decide)] at hb; omega)]
          exact ev_tx rfl
        case z2 =>
          have : (knd d).length = 1 := by cases d <;> rfl
          have : (if cs.length % 3 = 2 then [44] else ([] : List Nat)).length ≤ 1 := by split <;> simp
          simp only [List.length_append]; omega
      case turn =>
        rintro i dd ρ' hd ⟨h1, h2⟩
        obtain ⟨c, hc, rfl⟩ : ∃ c, cs[i]? = some c ∧ kid c = dd := by simpa using hd
        have hcm := List.mem_of_getElem? hc
        have htk : cs.take (i + 1) = cs.take i ++ [c] := by rw [List.take_add_one, hc]; rfl
        obtain ⟨l1, l2⟩ := hd_len (o1 c hcm)
        have lp := hpl c hcm
        have lcore : (core d c).length ≤ 100000 := by rw [piece_core] at lp; simp only [List.length_append] at lp; omega
        refine ⟨_, as_tuple3 rfl rfl rfl, ?_⟩
        have hchild : (put "child" (.dat c.dat) (put "gap" (.dat (tx c.hd.gap)) (put "key" (.dat (.tuple [tx c.hd.kw, tx c.hd.kr])) ρ'))) "child" = some (.dat (.list [tx c.kd, c.bdy])) := by rw [← dat_eq]; rfl
        refine ex_mid (fun ρ'' => ρ'' "piece" = some (.dat (tx (core d c))) ∧ ρ'' "gap" = some (.dat (tx c.hd.gap)) ∧ ρ'' "node" = some (.dat (.list [tx (knd d), .list (cs.map kid)])) ∧ ρ'' "parts" = some (.lst (((cs.take i).map (piece d)).map tx))) (ex_if (tr_cmp (cm_eqs (a := c.kd) (b := [120]) (ev_itemL (md := .O) (j := 0) (ev_name hchild (.inl rfl)) ev_int rfl rfl (by simp)) (ev_tx rfl))) (fun hb => ?_) fun hb => ?_) fun ρ₂ hρ => ?_
        · rw [← isX_kd] at hb
          refine ex_last (ex_assign (d := tx c.txt) (Ev.cast (isX_txt hb) (ev_itemL (md := .C) (j := 1) (ev_name hchild (.inr (.inl rfl))) ev_int rfl rfl (by simp))) rfl ⟨rfl, ?_, rfl, h1, h2⟩)
          unfold core; rw [if_pos hb]; rfl
        · rw [← isX_kd] at hb
          have hlt : m < m + 1 := Nat.lt_succ_self m
          have hcw : c.write.length ≤ 100000 := Nat.le_trans (child_len (h := h) (d := d) hcm hb) hz
          have hq := quoted_len c.write (c.isT && c.hd.gap != [])
          have hcore : core d c = (if d = true then c.hd.kw ++ [61] else []) ++ quoted c.write (c.isT && c.hd.gap != []) := by unfold core; rw [if_neg (by rw [hb]; exact Bool.false_ne_true)]
          refine ex_go (ex_assign (d := tx (quoted c.write (c.isT && c.hd.gap != []))) (ev_call (d_quoted rfl) (evs_cons (ev_call (d_write rfl) (evs_cons (ev_name (d := c.dat) rfl (.inl rfl)) evs_nil) (Fn.mono (ih m hlt c (o2 c hcm) hb hcw (hsz c hcm)) (by omega))) (evs_cons (Ev.cast ?_ (ev_and (ev_cmp (cm_eqs (a := c.kd) (b := [116]) (ev_itemL (md := .O) (j := 0) (ev_name hchild (.inl rfl)) ev_int rfl rfl (by simp)) (ev_tx rfl))) trivial fun _ => ev_cmp (cm_nes (a := c.hd.gap) (b := []) (ev_name rfl (.inl rfl)) (ev_tx rfl)))) evs_nil)) (Fn.mono (c_quoted c.write (c.isT && c.hd.gap != []) hcw) (by omega))) rfl ?_)
          · rw [← isT_kd]
            cases c.isT <;> rfl
          · refine ex_last (ex_if (tr_cmp (cm_eqs (a := knd d) (b := [100]) (ev_itemL (md := .O) (j := 0) (ev_name h1 (.inl rfl)) ev_int rfl rfl (by simp)) (ev_tx rfl))) (fun hd' => ?_) fun hd' => ?_)
            · rw [knd_d] at hd'
              rw [hd', if_pos rfl] at hcore
              refine ex_last (ex_assign (d := tx (core d c)) (Ev.cast (by rw [hd', hcore]) (ev_cat (ev_cat (x := c.hd.kw) (y := [61]) (ev_itemT (md := .O) (j := 0) (ev_name (d := .tuple [tx c.hd.kw, tx c.hd.kr]) rfl (.inl rfl)) ev_int rfl rfl (by simp)) (ev_tx rfl) (by simp; omega)) (ev_name (d := tx (quoted c.write (c.isT && c.hd.gap != []))) rfl (.inl rfl)) (by simp only [List.length_append, List.length_singleton]; omega))) rfl ⟨rfl, rfl, rfl, h1, h2⟩)
            · rw [knd_d] at hd'
              rw [hd', if_neg Bool.false_ne_true, List.nil_append] at hcore
              refine ex_nil ⟨rfl, ?_, rfl, h1, h2⟩
              rw [hd', hcore]; rfl
        · obtain ⟨k1, k2, k3, k4⟩ := hρ
          refine ex_last (ex_append k4 (ev_cat (ev_cat (ev_name k2 (.inl rfl)) (ev_name k1 (.inl rfl)) (by omega)) (ev_name k2 (.inl rfl)) (by simp only [List.length_append]; omega)) (by simp; omega) ⟨k3, ?_⟩)
          rw [htk, List.map_append, List.map_append]; rfl
end
end Mine
end

section
namespace Mine

theorem tx_inj {a b : List Nat} (h : tx a = tx b) : a = b := by
  have h1 : (⟨a.toArray⟩ : Str) = ⟨b.toArray⟩ := PyData.str.inj h
  have h2 : a.toArray = b.toArray := Str.mk.inj h1
  simpa using congrArg Array.toList h2
theorem lkn_inj {x y : Bool} (h : lkn x = lkn y) : x = y := by cases x <;> cases y <;> first | rfl | exact absurd h (by decide)
theorem knd_inj {x y : Bool} (h : knd x = knd y) : x = y := by cases x <;> cases y <;> first | rfl | exact absurd h (by decide)
mutual
theorem dat_inj : ∀ t t' : T, t.hd = t'.hd → t.dat = t'.dat → t = t'
  | .leaf h x s, .leaf h' x' s', e, q => by
    rw [dat_leaf, dat_leaf] at q
    simp only [PyData.list.injEq, List.cons.injEq, and_true] at q
    have e : h = h' := e
    rw [e, lkn_inj (tx_inj q.1), tx_inj q.2]
  | .node h d cs, .node h' d' cs', e, q => by
    rw [T.dat, T.dat] at q
    simp only [PyData.list.injEq, List.cons.injEq, and_true] at q
    have e : h = h' := e
    rw [e, knd_inj (tx_inj q.1), kids_inj cs cs' q.2]
  | .leaf h x s, .node h' d' cs', e, q => by
    rw [dat_leaf, dat_node] at q
    simp only [PyData.list.injEq, List.cons.injEq, and_true] at q
    cases q.2
  | .node h d cs, .leaf h' x s, e, q => by
    rw [dat_leaf, dat_node] at q
    simp only [PyData.list.injEq, List.cons.injEq, and_true] at q
    cases q.2
theorem kids_inj : ∀ cs cs' : List T, kids cs = kids cs' → cs = cs'
  | [], [], _ => rfl
  | [], _ :: _, q => by rw [kids, kids] at q; cases q
  | _ :: _, [], q => by rw [kids, kids] at q; cases q
  | t :: r, t' :: r', q => by
    rw [kids, kids] at q
    simp only [List.cons.injEq, PyData.tuple.injEq, and_true] at q
    obtain ⟨⟨⟨q1, q2⟩, q3, q4⟩, q5⟩ := q
    have e : t.hd = t'.hd := by
      cases h1 : t.hd; cases h2 : t'.hd
      rw [h1, h2] at q1 q2 q3
      simp only at q1 q2 q3
      rw [tx_inj q1, tx_inj q2, tx_inj q3]
    rw [dat_inj t t' e q4, kids_inj r r' q5]
end
theorem kid_inj {t t' : T} (q : kid t = kid t') : t = t' := by
  have : kids [t] = kids [t'] := by rw [kids_map, kids_map]; simp [q]
  exact (List.cons.inj (kids_inj _ _ this)).1
/-- a function of a child, on data -/
noncomputable def un {α : Type} (f : T → α) (z : α) (d : PyData) : α := open Classical in if h : ∃ c, kid c = d then f h.choose else z
theorem un_kid {α : Type} (f : T → α) (z : α) (c : T) : un f z (kid c) = f c := by
  unfold un
  have h : ∃ c', kid c' = kid c := ⟨c, rfl⟩
  rw [dif_pos h, kid_inj h.choose_spec]
theorem un_map {α : Type} (f : T → α) (z : α) (cs : List T) : (cs.map kid).map (un f z) = cs.map f := by
  rw [List.map_map]
  exact List.map_congr_left fun c _ => un_kid f z c
theorem un_filter (f : T → Bool) (cs : List T) : (cs.map kid).filter (un f false) = (cs.filter f).map kid := by
  induction cs with
  | nil => rfl
  | cons c r ih =>
    rw [List.map_cons, List.filter_cons, List.filter_cons, un_kid, ih]
    split <;> rfl

noncomputable def words (cs : List T) : List (List Nat) := (cs.filter T.isX).map T.txt
/-- keys with what is written -/
noncomputable def prs (cs : List T) : List (List Nat × List Nat) := cs.map fun t => (t.hd.kr, t.write)
noncomputable def namesOf (cs : List T) : List (List Nat) := keysOf (prs cs) []
noncomputable def errD (w : List Nat) : PyData := .list [tx [101], .str (Str.ofString (if w = [118, 61] then "IndexError" else "ValueError"))]
noncomputable def lastIn (k : List Nat) (l : List (List Nat × PyData)) : PyData := ((l.filter fun p => p.1 = k).map (·.2)).getLast?.getD .none
mutual
noncomputable def T.due : T → PyData
  | .leaf _ x s => .list [tx (lkn x), tx s]
  | .node _ d cs => if d = true then (match words cs with
      | w :: _ => errD w
      | [] => .list [tx [100], .list ((namesOf cs).map fun k => .tuple [tx k, lastIn k (dues cs)])])
    else .list [tx [108], .list ((dues cs).map (·.2))]
noncomputable def dues : List T → List (List Nat × PyData)
  | [] => []
  | t :: r => (t.hd.kr, t.due) :: dues r
end
theorem dues_map : ∀ cs : List T, dues cs = cs.map fun t => (t.hd.kr, t.due)
  | [] => by rw [dues]; rfl
  | t :: r => by rw [dues, dues_map r]; rfl
theorem due_leaf (h : Hd) (x : Bool) (s : List Nat) : (T.leaf h x s).due = .list [tx (lkn x), tx s] := by rw [T.due]
theorem due_list (h : Hd) (cs : List T) : (T.node h false cs).due = .list [tx [108], .list (cs.map T.due)] := by
  rw [T.due, if_neg Bool.false_ne_true, dues_map, List.map_map]; rfl
/-- the last child under a key -/
noncomputable def lastC (k : List Nat) (cs : List T) : Option T := (cs.filter fun c => decide (c.hd.kr = k)).getLast?
theorem lastIn_dues (k : List Nat) (cs : List T) {c : T} (h : lastC k cs = some c) : lastIn k (dues cs) = c.due := by
  unfold lastIn
  rw [dues_map, List.filter_map, List.map_map]
  unfold lastC at h
  have e : ((fun p : List Nat × PyData => decide (p.1 = k)) ∘ fun t : T => (t.hd.kr, t.due)) = fun c : T => decide (c.hd.kr = k) := rfl
  rw [e, List.getLast?_map, h]; rfl
theorem due_err (h : Hd) (cs : List T) {w : List Nat} {r : List (List Nat)} (hw : words cs = w :: r) : (T.node h true cs).due = errD w := by
  rw [T.due, if_pos rfl, hw]
theorem due_dict (h : Hd) (cs : List T) (hw : words cs = []) : (T.node h true cs).due = .list [tx [100], .list ((namesOf cs).map fun k => .tuple [tx k, lastIn k (dues cs)])] := by
  rw [T.due, if_pos rfl, hw]
theorem keysOf_in : ∀ {pairs : List (List Nat × List Nat)} {acc : List (List Nat)} {k : List Nat}, k ∈ keysOf pairs acc → k ∈ acc ∨ ∃ v, (k, v) ∈ pairs
  | [], acc, k, h => .inl h
  | (a, b) :: r, acc, k, h => by
    unfold keysOf at h
    rcases keysOf_in h with q | ⟨v, q⟩
    · split at q
      · exact .inl q
      · rcases List.mem_append.mp q with q | q
        · exact .inl q
        · rw [List.mem_singleton.mp q]; exact .inr ⟨b, .head _⟩
    · exact .inr ⟨v, .tail _ q⟩
theorem names_last {cs : List T} {k : List Nat} (h : k ∈ namesOf cs) : ∃ c, lastC k cs = some c ∧ c ∈ cs ∧ c.hd.kr = k := by
  rcases keysOf_in h with q | ⟨v, q⟩
  · cases q
  · obtain ⟨c, hc, e⟩ := List.mem_map.mp q
    have ek : c.hd.kr = k := (Prod.mk.inj e).1
    have hne : cs.filter (fun c => decide (c.hd.kr = k)) ≠ [] := fun z => by
      have : c ∈ cs.filter (fun c => decide (c.hd.kr = k)) := List.mem_filter.mpr ⟨hc, by simp [ek]⟩
      rw [z] at this; cases this
    obtain ⟨c', hc'⟩ : ∃ c', lastC k cs = some c' := ⟨_, List.getLast?_eq_some_getLast hne⟩
    have hm := List.mem_filter.mp (List.mem_of_getLast? hc')
    exact ⟨c', hc', hm.1, by simpa using hm.2⟩
end Mine
end

section
set_option maxRecDepth 100000
set_option maxHeartbeats 1500000
namespace Mine
theorem any_two (a b t : List Nat) : ([tx a, tx b].any fun y => PyData.eqv y (tx t)) = ((a == t) || (b == t)) := by
  simp only [List.any_cons, List.any_nil, Bool.or_false, tx_eqv]
theorem any_tx (acc : List (List Nat)) (k : List Nat) : (acc.map tx).any (fun y => PyData.eqv y (tx k)) = decide (k ∈ acc) := by
  induction acc with
  | nil => rfl
  | cons x l ih =>
    rw [List.map_cons, List.any_cons, ih, tx_eqv]
    rw [Bool.eq_iff_iff]
    simp only [Bool.or_eq_true, beq_iff_eq, decide_eq_true_eq, List.mem_cons]
    exact ⟨fun h => h.imp Eq.symm id, fun h => h.imp Eq.symm id⟩
theorem nds_tx : ∀ (l : List (List Nat)), nds (l.map tx) = true
  | [] => rfl
  | x :: l => by rw [List.map_cons]; unfold nds; rw [nds_tx l]; rfl
theorem keysOf_len : ∀ {pairs : List (List Nat × List Nat)} {acc : List (List Nat)}, (keysOf pairs acc).length ≤ acc.length + pairs.length
  | [], acc => Nat.le_refl _
  | (a, b) :: r, acc => by
    unfold keysOf
    refine Nat.le_trans keysOf_len ?_
    split
    · simp only [List.length_cons]; omega
    · simp only [List.length_append, List.length_cons, List.length_nil]; omega
theorem s_ve : Str.ofString "v=" = ⟨[118, 61].toArray⟩ := by decide +kernel
section
variable {w : World} {mg mb : Str → Option Value} {base : Heap} {nm : List (Str × NameKind)} {n : Nat} {ρ : Loc}

/-- _law_due -/
theorem c_due : ∀ (n : Nat) (t : T), T.Ok n t → t.sz ≤ 100 → Fn (wd w mg mb base) 55 (n + 3) [t.dat] t.due := by
  intro n
  induction n using Nat.strongRecOn with
  | _ n ih =>
  intro t ok hs
  rw [dat_eq]
  refine fn_introC (n := n + 2) (x := "node") (y := "node") rfl rfl rfl (fun _ => rfl) rfl rfl rfl (.inl rfl) (fun _ => rfl) (fun _ => rfl) (by decide) ?_
  refine ex_go (ex_if (tr_cmp (cm_inT (d := tx t.kd) (ev_itemL (md := .O) (j := 0) (ev_name (d := .list [tx t.kd, t.bdy]) rfl (.inl rfl)) ev_int rfl rfl (by simp)) (ev_tuple (evs_cons (ev_tx (l := [116]) rfl) (evs_cons (ev_tx (l := [120]) rfl) evs_nil)) (by simp)) rfl rfl (by simp [PyData.depth]))) (fun hb => ?_) fun hb => ?_)
  · rw [any_two] at hb
    cases t with
    | node h d cs =>
      have hb : ([116] == knd d || [120] == knd d) = true := hb
      cases d <;> exact absurd hb (by decide)
    | leaf h x s =>
      rw [due_leaf]
      exact ex_last (ex_return (evg_list (evs_cons (Ev.fl (md := .O) (ev_itemL (j := 0) (ev_name (d := .list [tx (T.leaf h x s).kd, (T.leaf h x s).bdy]) rfl (.inl rfl)) ev_int rfl rfl (by simp)) rfl) (evs_cons (Ev.fl (md := .O) (ev_itemL (j := 1) (d := tx s) (ev_name (d := .list [tx (T.leaf h x s).kd, (T.leaf h x s).bdy]) rfl (.inl rfl)) ev_int rfl rfl (by simp)) rfl) evs_nil)) (by simp)).ev (.inl rfl))
  · rw [any_two] at hb
    refine ex_nil ?_
    cases t with
    | leaf h x s =>
      have hb : ([116] == lkn x || [120] == lkn x) = false := hb
      cases x <;> exact absurd hb (by decide)
    | node h d cs =>
      cases ok with
      | @node m _ _ _ o1 o2 =>
      rw [sz_node] at hs
      have hcl : cs.length ≤ 100 := by have := szs_len cs; omega
      have hsz : ∀ c ∈ cs, c.sz ≤ 100 := fun c hc => by
        have := szs_mem hc
        omega
      have hlt : m < m + 1 := Nat.lt_succ_self m
      have hrec : ∀ c ∈ cs, Fn (wd w mg mb base) 55 (m + 3) [c.dat] c.due := fun c hc => ih m hlt c (o2 c hc) (hsz c hc)
      refine ex_go (ex_if (tr_cmp (cm_eqs (a := knd d) (b := [108]) (ev_itemL (md := .O) (j := 0) (ev_name (d := .list [tx (knd d), .list (cs.map kid)]) rfl (.inl rfl)) ev_int rfl rfl (by simp)) (ev_tx rfl))) (fun hd => ?_) fun hd => ?_)
      · obtain rfl : d = false := by cases d <;> first | rfl | exact absurd hd (by decide)
        rw [due_list]
        refine ex_last (ex_return (evg_list (evs_cons (ev_tx (l := [108]) rfl) (evs_cons (Ev.cast ?e ((evg_comp (md := .N) (compOk_plain rfl (by decide) (by decide) (by decide) (by decide)) (evi_list (ev_itemL (md := .C) (j := 1) (d := .list (cs.map kid)) (ev_name (d := .list [tx (knd false), .list (cs.map kid)]) rfl (.inr (.inl rfl))) ev_int rfl rfl (by simp))).lax (by simp; omega) (.inr rfl) (fun z q => nomatch q) (fun _ => true) (un T.due .none) (fun dd ρ₁ hd2 hI => ?turn)).ev.le rfl)) evs_nil)) (by simp)).ev (.inl rfl))
        case e => rw [List.filter_eq_self.mpr (fun _ _ => rfl), un_map]
        case turn =>
          obtain ⟨c, hc, rfl⟩ := List.mem_map.mp hd2
          refine ⟨_, (as_tuple3 rfl rfl rfl).toZ, ((hI.put' (fun q => nomatch q)).put' (fun q => nomatch q)).put' (fun q => nomatch q), .inl ⟨rfl, rfl⟩, fun _ => ?_⟩
          rw [un_kid]
          exact ev_call (d_due rfl) (evs_cons (ev_name (d := c.dat) rfl (.inl rfl)) evs_nil) (Fn.mono (hrec c hc) (by omega))
      · obtain rfl : d = true := by cases d <;> first | rfl | exact absurd hd (by decide)
        refine ex_nil ?_
        refine ex_go (ex_comp (md := .N) (compOk_plain rfl (by decide) (by decide) (by decide) (by decide)) (evi_list (ev_itemL (md := .C) (j := 1) (d := .list (cs.map kid)) (ev_name (d := .list [tx (knd true), .list (cs.map kid)]) rfl (.inr (.inl rfl))) ev_int rfl rfl (by simp))).lax (by simp; omega) (.inr rfl) (fun z q => nomatch q) (un T.isX false) (un (fun c => tx c.txt) .none) ?turn rfl ?_ ?hsw)
        case hsw =>
          intro env hk hn
          unfold swapsWith Env.blockKind Env.kindOf
          dsimp only
          rw [hk, hn]; rfl
        case turn =>
          intro dd ρ₁ hd2 hI
          obtain ⟨c, hc, rfl⟩ := List.mem_map.mp hd2
          refine ⟨_, (as_tuple3 rfl rfl rfl).toZ, ((hI.put' (fun q => nomatch q)).put' (fun q => nomatch q)).put' (fun q => nomatch q), .inr ⟨_, rfl, ?_⟩, fun hx => ?_⟩
          · rw [un_kid, isX_kd]
            exact tr_cmp (cm_eqs (a := c.kd) (b := [120]) (ev_itemL (md := .O) (j := 0) (ev_name (d := .list [tx c.kd, c.bdy]) (by rw [← dat_eq]; rfl) (.inl rfl)) ev_int rfl rfl (by simp)) (ev_tx rfl))
          · rw [un_kid] at hx ⊢
            rw [← isX_txt hx]
            exact Ev.fl (md := .O) (ev_itemL (j := 1) (ev_name (d := .list [tx c.kd, c.bdy]) (by rw [← dat_eq]; rfl) (.inl rfl)) ev_int rfl rfl (by simp)) (by rw [isX_txt hx]; rfl)
        rw [un_filter, un_map, show (cs.filter T.isX).map (fun c => tx c.txt) = (words cs).map tx from by unfold words; rw [List.map_map]; rfl]
        refine ex_go (ex_if (tr_cmp (cm_ne (da := .list ((words cs).map tx)) (db := .list []) (ev_name rfl (.inl rfl)) (evg_list evs_nil (by simp)).ev rfl rfl (nds_tx _) rfl (Nat.le_trans (Nat.min_le_right _ _) (by simp [PyData.depth, PyData.depthAll])))) (fun hw => ?_) fun hw => ?_)
        · cases hws : words cs with
          | nil => rw [hws] at hw; exact absurd hw (by decide)
          | cons v r =>
            rw [due_err h cs hws]
            unfold errD
            refine ex_last (ex_return (evg_list (evs_cons (ev_tx (l := [101]) rfl) (evs_cons (ev_ifexp (tr_cmp (cm_eqs (a := v) (b := [118, 61]) (ev_itemL (md := .O) (j := 0) (ev_name (d := .list ((v :: r).map tx)) rfl (.inl rfl)) ev_int (by simp [seqIndex?]) (by simp) ?len) (ev_tx s_ve))) (fun hv => ?_) fun hv => ?_) evs_nil)) (by simp)).ev (.inl rfl))
            case len =>
              have : (words cs).length ≤ cs.length := by unfold words; rw [List.length_map]; exact List.length_filter_le _ _
              rw [hws] at this
              simp only [List.length_map]; omega
            · have hv : v = [118, 61] := by simpa using hv
              rw [if_pos hv]; exact ev_str
            · have hv : ¬ v = [118, 61] := by simpa using hv
              rw [if_neg hv]; exact ev_str
        · cases hws : words cs with
          | cons v r => rw [hws] at hw; exact absurd hw (by simp [PyData.eqv, PyData.eqvAll])
          | nil =>
            rw [due_dict h cs hws]
            refine ex_nil ?_
            refine ex_go (ex_own (evg_list evs_nil (by decide)) rfl ?_)
            refine ex_mid (fun ρ' => ρ' "node" = some (.dat (.list [tx (knd true), .list (cs.map kid)])) ∧ ρ' "names" = some (.lst ((namesOf cs).map tx))) (ex_for (evi_list (ev_itemL (md := .C) (j := 1) (d := .list (cs.map kid)) (ev_name (d := .list [tx (knd true), .list (cs.map kid)]) rfl (.inr (.inl rfl))) ev_int rfl rfl (by simp))) (fun i ρ' => ρ' "node" = some (.dat (.list [tx (knd true), .list (cs.map kid)])) ∧ ∃ acc, namesOf cs = keysOf (prs (cs.drop i)) acc ∧ acc.length ≤ i ∧ ρ' "names" = some (.lst (acc.map tx))) ⟨rfl, [], rfl, Nat.le_refl _, rfl⟩ ?turn ?done) fun ρ' hρ => ?ret
            case turn =>
              rintro i dd ρ' hdd ⟨h0, acc, hk, hlen, h1⟩
              obtain ⟨c, hc, rfl⟩ : ∃ c, cs[i]? = some c ∧ kid c = dd := by simpa using hdd
              have hii : i < cs.length := by
                rcases Nat.lt_or_ge i cs.length with q | q
                · exact q
                · rw [List.getElem?_eq_none q] at hc; cases hc
              have hdr : cs.drop i = c :: cs.drop (i + 1) := by
                rw [List.drop_eq_getElem_cons hii]
                simp [hii] at hc
                rw [hc]
              have hkk : keysOf (prs (cs.drop i)) acc = keysOf (prs (cs.drop (i + 1))) (if c.hd.kr ∈ acc then acc else acc ++ [c.hd.kr]) := by rw [hdr]; rfl
              rw [hkk] at hk
              refine ⟨_, as_tuple3 rfl rfl rfl, ?_⟩
              refine ex_last (ex_if (tr_cmp (cm_notIn (d := tx c.hd.kr) (ev_itemT (md := .O) (j := 1) (ev_name (d := .tuple [tx c.hd.kw, tx c.hd.kr]) rfl (.inl rfl)) ev_int rfl rfl (by simp)) (ev_own h1 (.inl rfl)) (nds_tx acc) rfl (by simp [PyData.depth]))) (fun hb => ?_) fun hb => ?_)
              · rw [any_tx] at hb
                have hb : c.hd.kr ∉ acc := by simpa using hb
                rw [if_neg hb] at hk
                refine ex_last (ex_append h1 (Ev.fl (md := .O) (ev_itemT (j := 1) (d := tx c.hd.kr) (ev_name (d := .tuple [tx c.hd.kw, tx c.hd.kr]) rfl (.inl rfl)) ev_int rfl rfl (by simp)) rfl) (by simp; omega) ⟨h0, acc ++ [c.hd.kr], hk, by simp; omega, ?_⟩)
                rw [← lst_tx]; rfl
              · rw [any_tx] at hb
                have hb : c.hd.kr ∈ acc := by simpa using hb
                rw [if_pos hb] at hk
                exact ex_nil ⟨h0, acc, hk, by omega, h1⟩
            case done =>
              rintro ρ' ⟨h0, acc, hk, hlen, h1⟩
              rw [List.length_map, List.drop_length] at hk
              rw [hk]; exact ⟨rfl, h0, h1⟩
            case ret =>
              obtain ⟨h0, h1⟩ := hρ
              have hnl : (namesOf cs).length ≤ cs.length := by
                have := keysOf_len (pairs := prs cs) (acc := [])
                unfold prs at this
                simp only [List.length_nil, List.length_map, Nat.zero_add] at this
                exact this
              have e : (namesOf cs).map (fun k => PyData.tuple [tx k, lastIn k (dues cs)]) = (((namesOf cs).map tx).filter fun _ => true).map (onTx fun k => .tuple [tx k, lastIn k (dues cs)]) := by
                rw [List.filter_eq_self.mpr (fun _ _ => rfl), List.map_map]; rfl
              rw [e]
              refine ex_last (ex_return (evg_list (evs_cons (ev_tx (l := [100]) rfl) (evs_cons ((evg_comp (md := .N) (xc := some "name") (compOk_free (z := "node") rfl (by decide) (.inl rfl) (by decide) (.inl rfl) ?clos (by decide) (fun q => nomatch q) ?cel) (evi_own h1).lax (by simp; omega) (.inr rfl) (fun z q => ⟨_, by cases q; exact h0⟩) (fun _ => true) (onTx fun k => .tuple [tx k, lastIn k (dues cs)]) (fun dd ρ₁ hdd hI => ?turn)).ev.le rfl) evs_nil)) (by simp)).ev (.inl rfl))
              case clos =>
                intro env c hc
                unfold closureFor cellOf
                dsimp only
                simp only [List.forIn_cons, List.forIn_nil, hc]
                rfl
              case cel =>
                intro x hx
                cases hx
                exact ⟨by decide, rfl, fun _ => rfl, fun _ _ => rfl⟩
              case turn =>
                obtain ⟨k, hk, rfl⟩ := List.mem_map.mp hdd
                refine ⟨_, as_cell rfl, hI.put' (by decide), .inl ⟨rfl, rfl⟩, fun _ => ?_⟩
                have hp : put "name" (.dat (tx k)) ρ₁ "node" = some (.dat (.list [tx (knd true), .list (cs.map kid)])) := (hI.2 "node" rfl).trans h0
                obtain ⟨c, hlc, hcm, hck⟩ := names_last hk
                show Ev _ _ _ _ _ _ (.tuple [tx k, lastIn k (dues cs)])
                rw [lastIn_dues k cs hlc]
                have hfl : ((cs.map kid).filter (un (fun c => decide (c.hd.kr = k)) false)).map (un T.dat .none) = (cs.filter fun c => decide (c.hd.kr = k)).map T.dat := by rw [un_filter, un_map]
                unfold lastC at hlc
                have hpos : 0 < ((cs.filter fun c => decide (c.hd.kr = k)).map T.dat).length := by
                  rw [List.length_map]
                  refine Nat.pos_of_ne_zero fun z => ?_
                  rw [List.eq_nil_of_length_eq_zero z] at hlc; cases hlc
                have hfle := List.length_filter_le (fun c : T => decide (c.hd.kr = k)) cs
                refine ev_tuple (evs_cons (ev_name rfl (.inr (.inr rfl))) (evs_cons (ev_call (d_due rfl) (evs_cons (Ev.O (md := .C) (ev_itemL (j := ((cs.filter fun c => decide (c.hd.kr = k)).map T.dat).length - 1) (d := c.dat) (Ev.cast (congrArg PyData.list hfl) (evg_comp (md := .C) (xc := none) (compOk_free (z := "name") rfl (by decide) (.inl rfl) (by decide) (.inl rfl) ?clos2 (by decide) (fun _ => push_none _ (by decide)) (fun x q => nomatch q)) (evi_list (ev_itemL (md := .C) (j := 1) (d := .list (cs.map kid)) (ev_name hp (.inr (.inl rfl))) ev_int rfl rfl (by simp))).lax (by simp; omega) (.inl rfl) (fun z q => ⟨_, by cases q; rfl⟩) (un (fun c => decide (c.hd.kr = k)) false) (un T.dat .none) (fun d2 ρ₂ hd2 hI2 => ?turn2)).ev) (ev_neg ev_int) (seq_last hpos) ?get ?len)) evs_nil) (Fn.mono (hrec c hcm) (by omega))) evs_nil)) (by simp)
                case clos2 =>
                  intro env c hc
                  unfold closureFor cellOf
                  dsimp only
                  simp only [List.forIn_cons, List.forIn_nil, hc]
                  rfl
                case turn2 =>
                  obtain ⟨c', hc', rfl⟩ := List.mem_map.mp hd2
                  refine ⟨_, (as_tuple3 rfl rfl rfl).toZ, ((hI2.put' (by decide)).put' (by decide)).put' (by decide), .inr ⟨_, rfl, ?_⟩, fun _ => ?_⟩
                  · rw [un_kid, show decide (c'.hd.kr = k) = (c'.hd.kr == k) from by rw [Bool.eq_iff_iff]; simp]
                    exact tr_cmp (cm_eqs (a := c'.hd.kr) (b := k) (ev_itemT (md := .O) (j := 1) (ev_name (d := .tuple [tx c'.hd.kw, tx c'.hd.kr]) rfl (.inl rfl)) ev_int rfl rfl (by simp)) (ev_name (hI2.2 "name" rfl) (.inl rfl)))
                  · rw [un_kid]; exact ev_name rfl (.inr (.inl rfl))
                case get => rw [List.length_map, List.getElem?_map, ← List.getLast?_eq_getElem?, hlc]; rfl
                case len => rw [List.length_map]; omega
end
end Mine
end

section
namespace Mine

/-- how a text is read: what it gives, clean, closed -/
structure Rdg (s : Rs) (a b : List Nat) (s' : Rs) : Prop where
  deq : deq s a = b
  cln : clean s a
  fin : fin s a = s'
theorem Rdg.nil (s : Rs) : Rdg s [] [] s := ⟨rfl, trivial, rfl⟩
theorem Rdg.app {s s' s'' : Rs} {a b a' b' : List Nat} (x : Rdg s a b s') (y : Rdg s' a' b' s'') : Rdg s (a ++ a') (b ++ b') s'' :=
  ⟨by rw [deq_append, x.deq, x.fin, y.deq], (clean_append _ _ _).mpr ⟨x.cln, by rw [x.fin]; exact y.cln⟩, by rw [fin_append, x.fin, y.fin]⟩
theorem rdg_esc (a : Nat) : Rdg .held [92, a] [a] .held := ⟨by simp [deq, gives, nxt], by simp [clean, nxt], by simp [fin, nxt]⟩
theorem rdg_one {a : Nat} (h1 : a ≠ 34) (h2 : a ≠ 92) : Rdg .held [a] [a] .held := ⟨by simp [deq, gives, nxt, h1, h2], by simp [clean, nxt], by simp [fin, nxt, h1, h2]⟩
theorem rdg_sign (ev : Bool) (a : Nat) : Rdg .held (if ev = true then [92, a] else esc1 a) [a] .held := by
  split
  · exact rdg_esc a
  · unfold esc1
    split
    · rename_i q; rw [q]; exact rdg_esc 92
    · split
      · rename_i q; rw [q]; exact rdg_esc 34
      · rename_i q1 q2; exact rdg_one q2 q1
theorem rdg_body (ev : Bool) : ∀ b : List Nat, Rdg .held (b.flatMap fun a => if ev = true then [92, a] else esc1 a) b .held
  | [] => .nil _
  | a :: r => by rw [List.flatMap_cons]; exact (rdg_sign ev a).app (rdg_body ev r)
theorem rdg_quoted (b : List Nat) (ev : Bool) : Rdg .out (quoted b ev) ([34] ++ b ++ [34]) .out := by
  rw [quoted_eq]
  exact (Rdg.app (s' := .held) ⟨by simp [deq, gives], by simp [clean], by simp [fin, nxt]⟩ (rdg_body ev b)).app ⟨by simp [deq, gives], by simp [clean], by simp [fin, nxt]⟩
theorem rdg_plain : ∀ a : List Nat, 34 ∉ a → 44 ∉ a → Rdg .out a a .out
  | [], _, _ => .nil _
  | c :: r, h1, h2 => by
    have c1 : c ≠ 34 := fun q => h1 (q ▸ .head _)
    have c2 : c ≠ 44 := fun q => h2 (q ▸ .head _)
    have := Rdg.app (s := .out) (s' := .out) (a := [c]) (b := [c]) ⟨by simp [deq, gives], by simp [clean, c2], by simp [fin, nxt, c1]⟩ (rdg_plain r (fun q => h1 (.tail _ q)) (fun q => h2 (.tail _ q)))
    exact this
theorem rdg_key {p : List Nat × List Nat} (h : p ∈ keyTab) : Rdg .out p.1 p.2 .out := by
  have go : ∀ p ∈ keyTab, deq .out p.1 = p.2 ∧ fin .out p.1 = .out := by decide
  have cl : ∀ p ∈ keyTab, clean .out p.1 := by
    intro p hp
    simp only [keyTab, List.mem_cons, List.mem_nil_iff, or_false] at hp
    rcases hp with rfl | rfl | rfl | rfl | rfl <;> simp [clean, nxt]
  exact ⟨(go p h).1, cl p h, (go p h).2⟩
/-- an item as it is read -/
noncomputable def itm (d : Bool) (c : T) : List Nat := if c.isX = true then c.txt else (if d = true then c.hd.kr ++ [61] else []) ++ ([34] ++ c.write ++ [34])
theorem rdg_piece {d : Bool} {c : T} {n : Nat} (k : HdOk c.hd) (o : T.Ok n c) : Rdg .out (piece d c) (c.hd.gap ++ itm d c ++ c.hd.gap) .out := by
  have g1 : ∀ p ∈ gapTab, 34 ∉ p ∧ 44 ∉ p := by decide
  have gp := g1 _ k.gap
  unfold piece pieceOf itm
  refine ((rdg_plain _ gp.1 gp.2).app ?_).app (rdg_plain _ gp.1 gp.2)
  cases hx : c.isX with
  | true =>
    rw [if_pos rfl, if_pos rfl]
    cases o with
    | leaf hs hw =>
      rename_i h x s
      cases x with
      | false => cases hx
      | true =>
        rcases hw rfl with q | q
        · exact rdg_plain _ (by simp only [T.txt]; rw [q]; decide) (by simp only [T.txt]; rw [q]; decide)
        · exact rdg_plain _ (by simp only [T.txt]; rw [q]; decide) (by simp only [T.txt]; rw [q]; decide)
    | node _ _ => cases hx
  | false =>
    rw [if_neg Bool.false_ne_true, if_neg Bool.false_ne_true]
    refine Rdg.app ?_ (rdg_quoted _ _)
    split
    · exact (rdg_key k.key).app (rdg_plain [61] (by decide) (by decide))
    · exact .nil _
theorem trim_gap {g x : List Nat} (hg : ∀ c ∈ g, sp c = true) (hx : x ≠ []) (h1 : ∀ c, x.head? = some c → sp c = false) (h2 : ∀ c, x.getLast? = some c → sp c = false) : trim (g ++ x ++ g) = x := by
  have dw : ∀ (g y : List Nat), (∀ c ∈ g, sp c = true) → (g ++ y).dropWhile sp = y.dropWhile sp := by
    intro g y
    induction g with
    | nil => intro _; rfl
    | cons c r ih => intro h; rw [List.cons_append, List.dropWhile_cons, h c (.head _), if_pos rfl]; exact ih fun a ha => h a (.tail _ ha)
  have d1 : ∀ (y z : List Nat), y ≠ [] → (∀ c, y.head? = some c → sp c = false) → (y ++ z).dropWhile sp = y ++ z := by
    intro y z hy h
    cases y with
    | nil => exact (hy rfl).elim
    | cons c r => rw [List.cons_append, List.dropWhile_cons, h c rfl]; rfl
  unfold trim
  rw [List.append_assoc, dw g _ hg, d1 x g hx h1, List.reverse_append, dw g.reverse _ (fun c hc => hg c (List.mem_reverse.mp hc))]
  have := d1 x.reverse [] (by simpa using hx) (fun c hc => h2 c (by rw [← List.head?_reverse]; exact hc))
  rw [List.append_nil] at this
  rw [this, List.reverse_reverse]
theorem gap_sp {g : List Nat} (h : g ∈ gapTab) : ∀ c ∈ g, sp c = true := by
  have : ∀ g ∈ gapTab, ∀ c ∈ g, sp c = true := by decide +kernel
  exact this g h
theorem itm_ends {d : Bool} {c : T} {n : Nat} (k : HdOk c.hd) (o : T.Ok n c) : itm d c ≠ [] ∧ (∀ a, (itm d c).head? = some a → sp a = false) ∧ ∀ a, (itm d c).getLast? = some a → sp a = false := by
  have s1 : sp 34 = false ∧ sp 118 = false ∧ sp 61 = false := by decide +kernel
  unfold itm
  cases hx : c.isX with
  | true =>
    rw [if_pos rfl]
    cases o with
    | leaf hs hw =>
      rename_i h x s
      cases x with
      | false => cases hx
      | true =>
        rcases hw rfl with q | q
        · simp only [T.txt]; rw [q]
          exact ⟨by simp, fun a e => by cases e; exact s1.2.1, fun a e => by cases e; exact s1.2.1⟩
        · simp only [T.txt]; rw [q]
          exact ⟨by simp, fun a e => by cases e; exact s1.2.1, fun a e => by cases e; exact s1.2.2⟩
    | node _ _ => cases hx
  | false =>
    rw [if_neg Bool.false_ne_true]
    refine ⟨by simp, fun a e => ?_, fun a e => ?_⟩
    · split at e
      · have hk : ∀ p ∈ keyTab, ∀ a, (p.2 ++ [61]).head? = some a → sp a = false := by decide +kernel
        refine hk _ k.key a ?_
        rw [List.head?_append] at e
        cases hq : (c.hd.kr ++ [61]).head? with
        | none => simp at hq
        | some b => rw [hq] at e; exact e
      · simp at e; rw [← e]; exact s1.1
    · rw [← List.append_assoc, ← List.append_assoc, List.getLast?_append] at e
      simp at e; rw [← e]; exact s1.1
end Mine
end

section
namespace Mine
theorem segs_glue : ∀ (us : List (List Nat)), us ≠ [] → (∀ u ∈ us, clean .out u) → (∀ u ∈ us.dropLast, fin .out u = .out) → Segs (glue [44] us) us
  | [], h, _, _ => (h rfl).elim
  | [u], _, h1, _ => .one (h1 u (.head _))
  | u :: v :: r, _, h1, h2 => by
    have : glue [44] (u :: v :: r) = u ++ 44 :: glue [44] (v :: r) := by simp [glue]
    rw [this]
    exact .cons (h1 u (.head _)) (h2 u (by simp)) (segs_glue (v :: r) (fun q => nomatch q) (fun x hx => h1 x (.tail _ hx)) (fun x hx => h2 x (by simp at hx ⊢; exact .inr hx)))
noncomputable def tailOf (d : Bool) (cs : List T) : List Nat := glue [44] (cs.map (piece d)) ++ (if cs.length % 3 = 2 then [44] else [])
theorem write_tail (h : Hd) (d : Bool) (cs : List T) : (T.node h d cs).write = knd d ++ tailOf d cs := by rw [write_node]; unfold tailOf; rw [List.append_assoc]
theorem glue_more : ∀ us : List (List Nat), us ≠ [] → glue [44] us ++ [44] = glue [44] (us ++ [[]])
  | [], h => (h rfl).elim
  | [u], _ => by simp [glue]
  | u :: v :: r, _ => by
    have ih := glue_more (v :: r) (fun q => nomatch q)
    rw [glue, List.append_assoc, ih]
    rfl
theorem http_tail {d : Bool} {cs : List T} {n : Nat} (o1 : ∀ c ∈ cs, HdOk c.hd) (o2 : ∀ c ∈ cs, T.Ok n c) : http (tailOf d cs) = cs.map (itm d) := by
  have rd : ∀ c ∈ cs, Rdg .out (piece d c) (c.hd.gap ++ itm d c ++ c.hd.gap) .out := fun c hc => rdg_piece (o1 c hc) (o2 c hc)
  have tr : ((cs.map (piece d)).map (deq .out)).map trim = cs.map (itm d) := by
    rw [List.map_map, List.map_map]
    refine List.map_congr_left fun c hc => ?_
    simp only [Function.comp_def]
    rw [(rd c hc).deq]
    obtain ⟨e1, e2, e3⟩ := itm_ends (d := d) (o1 c hc) (o2 c hc)
    exact trim_gap (gap_sp (o1 c hc).gap) e1 e2 e3
  rcases List.eq_nil_or_concat cs with e | ⟨cs', c, e⟩
  · subst e; rfl
  · have e : cs = cs' ++ [c] := by simpa using e
    have hne : cs.map (piece d) ≠ [] := by rw [e]; simp
    have hcl : ∀ u ∈ cs.map (piece d), clean .out u ∧ fin .out u = .out := fun u hu => by
      obtain ⟨c, hc, rfl⟩ := List.mem_map.mp hu
      exact ⟨(rd c hc).cln, (rd c hc).fin⟩
    unfold http
    rw [hraw_parts]
    unfold tailOf
    by_cases q : cs.length % 3 = 2
    · rw [if_pos q, glue_more _ hne]
      have hs : Segs (glue [44] (cs.map (piece d) ++ [[]])) (cs.map (piece d) ++ [[]]) := segs_glue _ (by simp) (fun u hu => by
        rcases List.mem_append.mp hu with z | z
        · exact (hcl u z).1
        · rw [List.mem_singleton.mp z]; trivial) (fun u hu => by
        rw [List.dropLast_concat] at hu
        exact (hcl u hu).2)
      rw [hs.parts]
      unfold shed
      rw [List.map_append, if_pos (by simp [deq]), List.map_singleton, List.dropLast_concat]
      exact tr
    · rw [if_neg q, List.append_nil]
      have hs : Segs (glue [44] (cs.map (piece d))) (cs.map (piece d)) := segs_glue _ hne (fun u hu => (hcl u hu).1) (fun u hu => (hcl u ((List.dropLast_sublist _).subset hu)).2)
      rw [hs.parts]
      unfold shed
      rw [if_neg]
      · exact tr
      · have hc : c ∈ cs := by rw [e]; simp
        rw [e, List.map_append, List.map_append, List.map_singleton, List.map_singleton, List.getLast?_concat, (rd c hc).deq]
        have := (itm_ends (d := d) (o1 c hc) (o2 c hc)).1
        intro z
        have z := Option.some.inj z
        simp at z
        exact this z.2.1
theorem upTo_key {k r : List Nat} (h : 61 ∉ k) : upTo 61 (k ++ 61 :: r) = k ∧ past 61 (k ++ 61 :: r) = r := by
  induction k with
  | nil => simp [upTo, past]
  | cons a k ih =>
    have ha : a ≠ 61 := fun q => h (q ▸ .head _)
    obtain ⟨i1, i2⟩ := ih fun q => h (.tail _ q)
    simp only [upTo, past] at i1 i2 ⊢
    simp [List.takeWhile_cons, List.dropWhile_cons, ha] at i1 i2 ⊢
    exact ⟨i1, i2⟩
theorem unq_mid (b : List Nat) : unq ([34] ++ b ++ [34]) = b := by
  unfold unq
  rw [if_pos ⟨rfl, by rw [List.getLast?_append]; rfl⟩]
  have h1 : ([34] ++ b ++ [34]).length - 1 = ([34] ++ b).length := by simp
  rw [h1, List.take_left]; rfl
theorem key_free {h : Hd} (k : HdOk h) : 61 ∉ h.kr := by
  have : ∀ p ∈ keyTab, 61 ∉ p.2 := by decide
  exact this _ k.key
theorem kv_itm {c : T} (k : HdOk c.hd) (hx : c.isX = false) : kvOf (itm true c) = .ok (c.hd.kr, c.write) := by
  have e : itm true c = c.hd.kr ++ 61 :: ([34] ++ c.write ++ [34]) := by
    unfold itm
    rw [if_neg (by rw [hx]; exact Bool.false_ne_true), if_pos rfl]; simp
  obtain ⟨u1, u2⟩ := upTo_key (r := [34] ++ c.write ++ [34]) (key_free k)
  unfold kvOf
  rw [e, u1, u2, if_pos (by simp), if_neg (by simp), unq_mid]
theorem keqv_items {n : Nat} : ∀ (cs : List T) (acc : List (List Nat × List Nat)), (∀ c ∈ cs, HdOk c.hd) → (∀ c ∈ cs, T.Ok n c) → keqv acc (cs.map (itm true)) = match words cs with
    | [] => .ok ((prs cs).foldl (fun a p => tput a p.1 p.2) acc)
    | w :: _ => .error (if w = [118, 61] then "IndexError" else "ValueError")
  | [], acc, _, _ => rfl
  | c :: cs, acc, o1, o2 => by
    rw [List.map_cons, keqvC]
    cases hx : c.isX with
    | false =>
      rw [kv_itm (o1 c (.head _)) hx]
      have hw : words (c :: cs) = words cs := by unfold words; rw [List.filter_cons, hx]; rfl
      rw [hw]
      exact keqv_items cs _ (fun x h => o1 x (.tail _ h)) (fun x h => o2 x (.tail _ h))
    | true =>
      have hw : words (c :: cs) = c.txt :: words cs := by unfold words; rw [List.filter_cons, hx]; rfl
      rw [hw]
      have hi : itm true c = c.txt := by unfold itm; rw [if_pos hx]
      rw [hi]
      have hc := o2 c (.head _)
      cases hc with
      | leaf hs hq =>
        rename_i h x s
        cases x with
        | false => cases hx
        | true =>
          rcases hq rfl with q | q
          · simp only [T.txt]; rw [q]; rfl
          · simp only [T.txt]; rw [q]; rfl
      | node _ _ => cases hx
theorem keqv_okT {n : Nat} {cs : List T} (o1 : ∀ c ∈ cs, HdOk c.hd) (o2 : ∀ c ∈ cs, T.Ok n c) (hw : words cs = []) : keqv [] (cs.map (itm true)) = .ok (table (prs cs)) := by
  rw [keqv_items cs [] o1 o2, hw, table_foldl]
theorem keqv_bad {n : Nat} {cs : List T} {v : List Nat} {r : List (List Nat)} (o1 : ∀ c ∈ cs, HdOk c.hd) (o2 : ∀ c ∈ cs, T.Ok n c) (hw : words cs = v :: r) : keqv [] (cs.map (itm true)) = .error (if v = [118, 61] then "IndexError" else "ValueError") := by
  rw [keqv_items cs [] o1 o2, hw]
theorem lastOf_prs {cs : List T} {k : List Nat} {c : T} (h : lastC k cs = some c) : lastOf (prs cs) k = c.write := by
  unfold lastOf prs
  rw [List.filter_map, List.map_map]
  unfold lastC at h
  have e : ((fun p : List Nat × List Nat => decide (p.1 = k)) ∘ fun t : T => (t.hd.kr, t.write)) = fun c : T => decide (c.hd.kr = k) := rfl
  rw [e, List.getLast?_map, h]; rfl
end Mine
end

section
namespace Mine
theorem txt_x {n : Nat} {c : T} (o : T.Ok n c) (h : c.isX = true) : c.txt = [118] ∨ c.txt = [118, 61] := by
  cases o with
  | leaf hs hw =>
    rename_i hh x s
    cases x with
    | false => cases h
    | true => exact hw rfl
  | node _ _ => cases h
theorem itm_last {d : Bool} {c : T} (h : c.isX = false) : (itm d c).getLast? = some 34 := by
  unfold itm
  rw [if_neg (by rw [h]; exact Bool.false_ne_true), ← List.append_assoc, List.getLast?_append]; rfl
theorem itm_x {d : Bool} {n : Nat} {c : T} (o : T.Ok n c) (h : c.isX = true) : (itm d c).getLast? ≠ some 34 := by
  unfold itm
  rw [if_pos h]
  rcases txt_x o h with q | q <;> rw [q] <;> decide
/-- the same item: the same kind, text, key, writing -/
theorem itm_same {d : Bool} {n n' : Nat} {c c' : T} (k : HdOk c.hd) (k' : HdOk c'.hd) (o : T.Ok n c) (o' : T.Ok n' c') (e : itm d c = itm d c') :
    c.isX = c'.isX ∧ (c.isX = true → c.txt = c'.txt) ∧ (c.isX = false → (d = true → c.hd.kr = c'.hd.kr) ∧ c.write = c'.write) := by
  have hx : c.isX = c'.isX := by
    cases h : c.isX <;> cases h' : c'.isX
    · rfl
    · exact absurd (e ▸ itm_last h) (itm_x o' h')
    · exact absurd (e.symm ▸ itm_last h') (itm_x o h)
    · rfl
  refine ⟨hx, fun h => ?_, fun h => ?_⟩
  · have h' := hx ▸ h
    unfold itm at e
    rw [if_pos h, if_pos h'] at e; exact e
  · have h' : c'.isX = false := hx ▸ h
    cases d with
    | false =>
      refine ⟨fun q => (nomatch q), ?_⟩
      unfold itm at e
      rw [h, h', if_neg Bool.false_ne_true, if_neg Bool.false_ne_true, if_neg Bool.false_ne_true, if_neg Bool.false_ne_true] at e
      simp at e; exact e
    | true =>
      have q1 := kv_itm k h
      have q2 := kv_itm k' h'
      rw [e, q2] at q1
      have := Prod.mk.inj (Except.ok.inj q1)
      exact ⟨fun _ => this.1.symm, this.2.symm⟩
/-- what due asks of a child -/
noncomputable def sig (d : Bool) (c : T) : Bool × List Nat × List Nat × PyData := (c.isX, if c.isX = true then c.txt else [], if d = true ∧ c.isX = false then c.hd.kr else [], c.due)
theorem due_x {n : Nat} {c : T} (o : T.Ok n c) (h : c.isX = true) : c.due = .list [tx [120], tx c.txt] := by
  cases c with
  | node _ _ _ => cases h
  | leaf hh x s =>
    cases x with
    | false => cases h
    | true => rw [due_leaf]; rfl
theorem sigs {d : Bool} {n n' : Nat} : ∀ {cs cs' : List T}, (∀ c ∈ cs, HdOk c.hd) → (∀ c ∈ cs, T.Ok n c) → (∀ c ∈ cs', HdOk c.hd) → (∀ c ∈ cs', T.Ok n' c) →
    (∀ c ∈ cs, ∀ c' ∈ cs', c.isX = false → c'.isX = false → c.write = c'.write → c.due = c'.due) → cs.map (itm d) = cs'.map (itm d) → cs.map (sig d) = cs'.map (sig d)
  | [], [], _, _, _, _, _, _ => rfl
  | [], _ :: _, _, _, _, _, _, e => by cases e
  | _ :: _, [], _, _, _, _, _, e => by cases e
  | c :: cs, c' :: cs', k1, o1, k2, o2, ih, e => by
    rw [List.map_cons, List.map_cons] at e ⊢
    obtain ⟨e1, e2⟩ := List.cons.inj e
    have r := sigs (fun x h => k1 x (.tail _ h)) (fun x h => o1 x (.tail _ h)) (fun x h => k2 x (.tail _ h)) (fun x h => o2 x (.tail _ h)) (fun x hx y hy => ih x (.tail _ hx) y (.tail _ hy)) e2
    rw [r]
    congr 1
    obtain ⟨s1, s2, s3⟩ := itm_same (k1 c (.head _)) (k2 c' (.head _)) (o1 c (.head _)) (o2 c' (.head _)) e1
    unfold sig
    cases hx : c.isX with
    | true =>
      have hx' : c'.isX = true := s1 ▸ hx
      rw [hx', due_x (o1 c (.head _)) hx, due_x (o2 c' (.head _)) hx', s2 hx]; simp
    | false =>
      have hx' : c'.isX = false := s1 ▸ hx
      rw [hx', ih c (.head _) c' (.head _) hx hx' (s3 hx).2]
      cases d with
      | false => simp
      | true => rw [(s3 hx).1 rfl]; simp
theorem words_sig (d : Bool) (cs : List T) : words cs = ((cs.map (sig d)).filter (·.1)).map (·.2.1) := by
  induction cs with
  | nil => rfl
  | cons c r ih =>
    unfold words at ih ⊢
    rw [List.map_cons, List.filter_cons, List.filter_cons]
    show _ = List.map _ (if c.isX = true then _ else _)
    cases hx : c.isX with
    | true => rw [if_pos rfl, if_pos rfl, List.map_cons, List.map_cons, ih]; unfold sig; rw [hx]; rfl
    | false => rw [if_neg Bool.false_ne_true, if_neg Bool.false_ne_true, ih]
theorem no_x {cs : List T} (h : words cs = []) : ∀ c ∈ cs, c.isX = false := fun c hc => by
  cases hx : c.isX with
  | false => rfl
  | true =>
    have : c ∈ cs.filter T.isX := List.mem_filter.mpr ⟨hc, hx⟩
    unfold words at h
    rw [List.map_eq_nil_iff.mp h] at this; cases this
theorem write_due : ∀ (n : Nat) (t t' : T) (n' : Nat), T.Ok n t → T.Ok n' t' → t.isX = false → t'.isX = false → t.write = t'.write → t.due = t'.due := by
  intro n
  induction n using Nat.strongRecOn with
  | _ n ih =>
  intro t t' n' o o' hx hx' e
  cases t with
  | leaf h x s =>
    cases x with
    | true => cases hx
    | false =>
      cases t' with
      | leaf h' x' s' =>
        cases x' with
        | true => cases hx'
        | false =>
          rw [write_leaf, write_leaf] at e
          rw [due_leaf, due_leaf, (List.cons.inj e).2]
      | node h' d' cs' =>
        rw [write_leaf, write_tail] at e
        cases d' <;> cases e
  | node h d cs =>
    cases t' with
    | leaf h' x' s' =>
      rw [write_leaf, write_tail] at e
      cases d <;> cases e
    | node h' d' cs' =>
      rw [write_tail, write_tail] at e
      have hd : d = d' := by cases d <;> cases d' <;> first | rfl | cases e
      subst hd
      have e := List.append_cancel_left e
      cases o with
      | @node m _ _ _ o1 o2 =>
      cases o' with
      | @node m' _ _ _ p1 p2 =>
      have ei : cs.map (itm d) = cs'.map (itm d) := by rw [← http_tail o1 o2, ← http_tail p1 p2, e]
      have hs := sigs o1 o2 p1 p2 (fun c hc c' hc' h1 h2 hw => ih m (Nat.lt_succ_self m) c c' m' (o2 c hc) (p2 c' hc') h1 h2 hw) ei
      cases d with
      | false =>
        rw [due_list, due_list]
        have := congrArg (List.map (·.2.2.2)) hs
        rw [List.map_map, List.map_map] at this
        have this : cs.map T.due = cs'.map T.due := this
        rw [this]
      | true =>
        have hw : words cs = words cs' := by rw [words_sig true cs, words_sig true cs', hs]
        cases hws : words cs with
        | cons v r => rw [due_err h cs hws, due_err h' cs' (hw ▸ hws)]
        | nil =>
          have hws' : words cs' = [] := hw ▸ hws
          rw [due_dict h cs hws, due_dict h' cs' hws']
          have hdu : dues cs = dues cs' := by
            rw [dues_map, dues_map]
            have a1 : cs.map (fun t => (t.hd.kr, t.due)) = (cs.map (sig true)).map (fun p => (p.2.2.1, p.2.2.2)) := by
              rw [List.map_map]
              refine List.map_congr_left fun c hc => ?_
              simp [sig, no_x hws c hc]
            have a2 : cs'.map (fun t => (t.hd.kr, t.due)) = (cs'.map (sig true)).map (fun p => (p.2.2.1, p.2.2.2)) := by
              rw [List.map_map]
              refine List.map_congr_left fun c hc => ?_
              simp [sig, no_x hws' c hc]
            rw [a1, a2, hs]
          have hpr : keqv [] (cs.map (itm true)) = keqv [] (cs'.map (itm true)) := by rw [ei]
          rw [keqv_okT o1 o2 hws, keqv_okT p1 p2 hws'] at hpr
          have hn : namesOf cs = namesOf cs' := by
            have := congrArg (List.map (·.1)) (Except.ok.inj hpr)
            unfold table at this
            rw [List.map_map, List.map_map] at this
            have id1 : ∀ l : List (List Nat), ∀ g : List Nat → List Nat, l.map ((fun p : List Nat × List Nat => p.1) ∘ fun k => (k, g k)) = l := fun l g => by
              have : ((fun p : List Nat × List Nat => p.1) ∘ fun k => (k, g k)) = id := rfl
              rw [this, List.map_id]
            rw [id1, id1] at this
            exact this
          rw [hdu, hn]
theorem itm_due {d : Bool} {n n' : Nat} {c c' : T} (k : HdOk c.hd) (k' : HdOk c'.hd) (o : T.Ok n c) (o' : T.Ok n' c') (e : itm d c = itm d c') : c.due = c'.due := by
  obtain ⟨s1, s2, s3⟩ := itm_same k k' o o' e
  cases hx : c.isX with
  | true => rw [due_x o hx, due_x o' (s1 ▸ hx), s2 hx]
  | false => exact write_due n c c' n' o o' hx (s1 ▸ hx) (s3 hx).2
/-- the due of an item's text, among these children -/
noncomputable def dueOf (d : Bool) (cs : List T) (x : List Nat) : PyData := open Classical in if h : ∃ c, c ∈ cs ∧ itm d c = x then h.choose.due else .none
theorem dueOf_itm {d : Bool} {cs : List T} {n : Nat} (o1 : ∀ c ∈ cs, HdOk c.hd) (o2 : ∀ c ∈ cs, T.Ok n c) {c : T} (hc : c ∈ cs) : dueOf d cs (itm d c) = c.due := by
  unfold dueOf
  have h : ∃ c', c' ∈ cs ∧ itm d c' = itm d c := ⟨c, hc, rfl⟩
  rw [dif_pos h]
  exact itm_due (o1 _ h.choose_spec.1) (o1 c hc) (o2 _ h.choose_spec.1) (o2 c hc) h.choose_spec.2
end Mine
end

section
set_option maxRecDepth 100000
set_option maxHeartbeats 1500000
namespace Mine
theorem http_size (t : List Nat) : (http t).length ≤ t.length + 1 ∧ ∀ p ∈ http t, p.length ≤ t.length := by
  obtain ⟨a, b⟩ := hraw_size t
  unfold http
  refine ⟨by rw [List.length_map]; exact a, fun p hp => ?_⟩
  obtain ⟨x, hx, rfl⟩ := List.mem_map.mp hp
  exact Nat.le_trans (trim_length x) (b x hx)
theorem sl_one (c : Nat) (r : List Nat) : sl (some 1) none (c :: r) = r := sl_from 1 (c :: r)
theorem sl_first (c : Nat) (r : List Nat) : sl none (some 1) (c :: r) = [c] := sl_upto 1 (c :: r)
theorem sl_quo (b : List Nat) : sl (some 1) (some (-1)) ([34] ++ b ++ [34]) = b := by
  rw [sl_inner]
  have h1 : ([34] ++ b ++ [34]).length - 1 = ([34] ++ b).length := by simp
  rw [h1, List.take_left]; rfl
theorem dict_keys (cs : List T) : ((table (prs cs)).map fun kv => (tx kv.1, tx kv.2)).map (·.1) = (namesOf cs).map tx := by
  unfold table namesOf
  rw [List.map_map, List.map_map]
  exact List.map_congr_left fun k _ => rfl
theorem dict_mem {cs : List T} {k : List Nat} (hk : k ∈ namesOf cs) {c : T} (h : lastC k cs = some c) : (tx k, tx c.write) ∈ (table (prs cs)).map fun kv => (tx kv.1, tx kv.2) := by
  rw [← lastOf_prs h]
  unfold table
  rw [List.map_map]
  exact List.mem_map.mpr ⟨k, hk, rfl⟩
theorem errD_ve {v : List Nat} (h : ¬ v = [118, 61]) : errD v = .list [.str "e", .str "ValueError"] := by
  unfold errD; rw [if_neg h]; rfl
theorem errD_ie {v : List Nat} (h : v = [118, 61]) : errD v = .list [.str "e", .str "IndexError"] := by
  unfold errD; rw [if_pos h]; rfl
section
variable {w : World} {mg mb : Str → Option Value} {base : Heap} {nm : List (Str × NameKind)} {n : Nat} {ρ : Loc}

/-- _law_one -/
theorem c_one {n : Nat} {c : T} (k : HdOk c.hd) (o : T.Ok n c) (hz : c.isX = false → c.write.length ≤ 100000) (hs : c.isX = false → Fn (wd w mg mb base) 67 (2 * n + 4) [tx c.write] c.due) : Fn (wd w mg mb base) 62 (2 * n + 5) [tx (itm false c)] c.due := by
  refine fn_intro1 (n := 2 * n + 4) (x := "item") rfl rfl rfl (fun _ => rfl) rfl rfl rfl rfl (fun _ => rfl) ?_
  cases hx : c.isX with
  | true =>
    have hi : itm false c = c.txt := by unfold itm; rw [if_pos hx]
    rw [hi]
    have hd := due_x o hx
    have ht := txt_x o hx
    obtain ⟨r, hr, hr2⟩ : ∃ r, c.txt = 118 :: r ∧ r.length ≤ 1 := by
      rcases ht with q | q <;> rw [q]
      · exact ⟨[], rfl, by simp⟩
      · exact ⟨[61], rfl, by simp⟩
    rw [hd, hr]
    refine ex_go (ex_if (tr_cmp (cm_eqs (a := [118]) (b := [34]) (Ev.cast (congrArg tx (sl_first 118 r)) (ev_slS (md := .O) (ev_name (d := tx (118 :: r)) rfl (.inl rfl)) .none (.some ev_int) (by simp; omega))) (ev_tx rfl))) (fun hb => ?_) fun hb => ?_)
    · exact absurd hb (by decide)
    · refine ex_nil ?_
      exact ex_last (ex_return (evg_list (evs_cons (ev_tx (l := [120]) rfl) (evs_cons (ev_name (d := tx (118 :: r)) rfl (.inr (.inr rfl))) evs_nil)) (by simp)).ev (.inl rfl))
  | false =>
    have hi : itm false c = [34] ++ c.write ++ [34] := by unfold itm; rw [hx]; simp
    rw [hi]
    have hz := hz hx
    have hl : ([34] ++ c.write ++ [34]).length = c.write.length + 2 := by simp
    refine ex_go (ex_if (tr_cmp (cm_eqs (a := [34]) (b := [34]) (Ev.cast (congrArg tx (sl_first 34 (c.write ++ [34]))) (ev_slS (md := .O) (ev_name (d := tx ([34] ++ c.write ++ [34])) rfl (.inl rfl)) .none (.some ev_int) (by simp only [List.length_cons, List.length_append, List.length_nil]; omega))) (ev_tx rfl))) (fun hb => ?_) fun hb => ?_)
    · exact ex_last (ex_return (ev_call (d_seen rfl) (evs_cons (Ev.cast (congrArg tx (sl_quo c.write)) (ev_slS (md := .O) (ev_name (d := tx ([34] ++ c.write ++ [34])) rfl (.inl rfl)) (.some ev_int) (.some (ev_neg ev_int)) (by omega))) evs_nil) (Fn.mono (hs hx) (by omega))) (.inl rfl))
    · exact absurd hb (by decide)

/-- _law_seen -/
theorem c_seen : ∀ (n : Nat) (t : T), T.Ok n t → t.isX = false → t.write.length ≤ 100000 → t.sz ≤ 100 → Fn (wd w mg mb base) 67 (2 * n + 4) [tx t.write] t.due := by
  intro n
  induction n using Nat.strongRecOn with
  | _ n ih =>
  intro t ok hx hz hs
  refine fn_introC (n := 2 * n + 3) (x := "body") (y := "table") rfl rfl rfl (fun _ => rfl) rfl rfl rfl (.inr rfl) (fun _ => rfl) (fun q => nomatch q) (by decide) ?_
  cases t with
  | leaf h x s =>
    cases x with
    | true => cases hx
    | false =>
      rw [write_leaf] at hz ⊢
      rw [due_leaf]
      refine ex_go (ex_if (tr_cmp (cm_eqs (a := [116]) (b := [116]) (ev_itemS (j := 0) (c := 116) (ev_name (d := tx (116 :: s)) rfl (.inl rfl)) ev_int (by simp [seqIndex?]) rfl (by omega)) (ev_tx rfl))) (fun hb => ?_) fun hb => absurd hb (by decide))
      exact ex_last (ex_return (evg_list (evs_cons (ev_tx (l := [116]) rfl) (evs_cons (Ev.cast (congrArg tx (sl_one 116 s)) (ev_slS (ev_name (d := tx (116 :: s)) rfl (.inl rfl)) (.some ev_int) .none (by omega))) evs_nil)) (by simp)).ev (.inl rfl))
  | node h d cs =>
    cases ok with
    | @node m _ _ _ o1 o2 =>
    have hlt : m < m + 1 := Nat.lt_succ_self m
    rw [sz_node] at hs
    have hcl : cs.length ≤ 100 := by have := szs_len cs; omega
    have hsz : ∀ c ∈ cs, c.sz ≤ 100 := fun c hc => by
      have := szs_mem hc
      omega
    have hcw : ∀ c ∈ cs, c.isX = false → c.write.length ≤ 100000 := fun c hc hb => Nat.le_trans (child_len (h := h) (d := d) hc hb) hz
    have hrec : ∀ c ∈ cs, c.isX = false → Fn (wd w mg mb base) 67 (2 * m + 4) [tx c.write] c.due := fun c hc hb => ih m hlt c (o2 c hc) hb (hcw c hc hb) (hsz c hc)
    have hht := http_tail (d := d) o1 o2
    obtain ⟨q, hq, hkq⟩ : ∃ q, knd d = [q] ∧ (q = 108 ∧ d = false ∨ q = 100 ∧ d = true) := by
      cases d
      · exact ⟨108, rfl, .inl ⟨rfl, rfl⟩⟩
      · exact ⟨100, rfl, .inr ⟨rfl, rfl⟩⟩
    have hw : (T.node h d cs).write = q :: tailOf d cs := by rw [write_tail, hq]; rfl
    rw [hw] at hz ⊢
    simp only [List.length_cons] at hz
    refine ex_go (ex_if (tr_cmp (cm_eqs (a := [q]) (b := [116]) (ev_itemS (j := 0) (c := q) (ev_name (d := tx (q :: tailOf d cs)) rfl (.inl rfl)) ev_int (by simp [seqIndex?]) rfl (by simp only [List.length_cons]; omega)) (ev_tx rfl))) (fun hb => ?_) fun hb => ?_)
    · rcases hkq with ⟨rfl, _⟩ | ⟨rfl, _⟩ <;> exact absurd hb (by decide)
    refine ex_nil ?_
    refine ex_go (ex_assign (d := .list ((cs.map (itm d)).map tx)) (Ev.cast (by rw [hht]) (ev_call (d_http rfl) (evs_cons (Ev.cast (congrArg tx (sl_one q (tailOf d cs))) (ev_slS (md := .O) (ev_name (d := tx (q :: tailOf d cs)) rfl (.inl rfl)) (.some ev_int) .none (by simp only [List.length_cons]; omega))) evs_nil) (Fn.mono (c_http (tailOf d cs) (by omega)) (by omega)))) rfl ?_)
    refine ex_go (ex_if (tr_cmp (cm_eqs (a := [q]) (b := [108]) (ev_itemS (j := 0) (c := q) (ev_name (d := tx (q :: tailOf d cs)) rfl (.inl rfl)) ev_int (by simp [seqIndex?]) rfl (by simp only [List.length_cons]; omega)) (ev_tx rfl))) (fun hb => ?_) fun hb => ?_)
    · obtain rfl : d = false := by
        rcases hkq with ⟨rfl, e⟩ | ⟨rfl, _⟩
        · exact e
        · exact absurd hb (by decide)
      rw [due_list]
      refine ex_last (ex_return (evg_list (evs_cons (ev_tx (l := [108]) rfl) (evs_cons (Ev.cast ?e ((evg_comp (md := .N) (compOk_plain rfl (by decide) (by decide) (by decide) (by decide)) (evi_list (ev_name (d := .list ((cs.map (itm false)).map tx)) rfl (.inr (.inl rfl)))).lax (by simp; omega) (.inr rfl) (fun z q => nomatch q) (fun _ => true) (onTx (dueOf false cs)) (fun dd ρ₁ hd2 hI => ?turn)).ev.le rfl)) evs_nil)) (by simp)).ev (.inl rfl))
      case e =>
        rw [List.filter_eq_self.mpr (fun _ _ => rfl), List.map_map, List.map_map]
        congr 1
        refine List.map_congr_left fun c hc => ?_
        exact dueOf_itm o1 o2 hc
      case turn =>
        obtain ⟨x, hx2, rfl⟩ := List.mem_map.mp hd2
        obtain ⟨c, hc, rfl⟩ := List.mem_map.mp hx2
        refine ⟨_, (as_name rfl).toZ, hI.put' (fun q => nomatch q), .inl ⟨rfl, rfl⟩, fun _ => ?_⟩
        show Ev _ _ _ _ _ _ (dueOf false cs (itm false c))
        rw [dueOf_itm o1 o2 hc]
        exact ev_call (d_one rfl) (evs_cons (ev_name (d := tx (itm false c)) rfl (.inl rfl)) evs_nil) (Fn.mono (c_one (o1 c hc) (o2 c hc) (hcw c hc) (hrec c hc)) (by omega))
    · obtain rfl : d = true := by
        rcases hkq with ⟨rfl, _⟩ | ⟨rfl, e⟩
        · exact absurd hb (by decide)
        · exact e
      refine ex_nil ?_
      have hsz1 : (cs.map (itm true)).length ≤ 100000 := by rw [List.length_map]; omega
      have hsz2 : ∀ p ∈ cs.map (itm true), p.length ≤ 100000 := fun p hp => by
        rw [← hht] at hp
        have := (http_size _).2 p hp
        omega
      have hF := c_keqv (w := w) (mg := mg) (mb := mb) (base := base) (cs.map (itm true)) hsz1 hsz2
      cases hws : words cs with
      | cons v r =>
        rw [due_err h cs hws]
        rw [keqv_bad o1 o2 hws] at hF
        refine ex_go (ex_tryX (d := errD v) (cls := if v = [118, 61] then "IndexError" else "ValueError") (exx_assign (evx_call (d_keqv rfl) (evs_cons (ev_name (d := .list ((cs.map (itm true)).map tx)) rfl (.inl rfl)) evs_nil) (Fn.mono hF (by omega)))) ?_ (b_VE rfl) (b_IE rfl) rfl (.inl rfl))
        by_cases hv : v = [118, 61]
        · rw [errD_ie hv, if_pos hv]; exact .inr ⟨rfl, evk_list2⟩
        · rw [errD_ve hv, if_neg hv]; exact .inl ⟨rfl, evk_list2⟩
      | nil =>
        rw [due_dict h cs hws]
        rw [keqv_okT o1 o2 hws] at hF
        have hnl : (namesOf cs).length ≤ cs.length := by
          have := keysOf_len (pairs := prs cs) (acc := [])
          unfold prs at this
          simp only [List.length_nil, List.length_map, Nat.zero_add] at this
          exact this
        refine ex_go (ex_tryO (ex_last (ex_assignC (d := dictD (table (prs cs))) (ev_call (d_keqv rfl) (evs_cons (ev_name (d := .list ((cs.map (itm true)).map tx)) rfl (.inl rfl)) evs_nil) (Fn.mono hF (by omega))) rfl rfl ?_)))
        have e : (namesOf cs).map (fun k => PyData.tuple [tx k, lastIn k (dues cs)]) = ((((table (prs cs)).map fun kv => (tx kv.1, tx kv.2)).map (·.1)).filter fun _ => true).map (onTx fun k => .tuple [tx k, lastIn k (dues cs)]) := by
          rw [dict_keys, List.filter_eq_self.mpr (fun _ _ => rfl), List.map_map]; rfl
        rw [e]
        refine ex_last (ex_return (evg_list (evs_cons (ev_tx (l := [100]) rfl) (evs_cons ((evg_comp (md := .N) (xc := none) (compOk_free (z := "table") rfl (by decide) (.inl rfl) (by decide) (.inl rfl) ?clos (by decide) (fun _ => push_none _ (by decide)) (fun x q => nomatch q)) (evi_dict (ev_name (d := dictD (table (prs cs))) rfl (.inr (.inl rfl)))).lax ?len (.inr rfl) (fun z q => ⟨_, by cases q; rfl⟩) (fun _ => true) (onTx fun k => .tuple [tx k, lastIn k (dues cs)]) (fun dd ρ₁ hdd hI => ?turn)).ev.le rfl) evs_nil)) (by simp)).ev (.inl rfl))
        case clos =>
          intro env c hc
          unfold closureFor cellOf
          dsimp only
          simp only [List.forIn_cons, List.forIn_nil, hc]
          rfl
        case len => rw [dict_keys, List.length_map]; omega
        case turn =>
          rw [dict_keys] at hdd
          obtain ⟨k, hk, rfl⟩ := List.mem_map.mp hdd
          refine ⟨_, (as_name rfl).toZ, hI.put' (by decide), .inl ⟨rfl, rfl⟩, fun _ => ?_⟩
          have hp : put "key" (.dat (tx k)) ρ₁ "table" = some (.dat (dictD (table (prs cs)))) := hI.2 "table" rfl
          obtain ⟨c, hlc, hcm, hck⟩ := names_last hk
          show Ev _ _ _ _ _ _ (.tuple [tx k, lastIn k (dues cs)])
          rw [lastIn_dues k cs hlc]
          exact ev_tuple (evs_cons (ev_name rfl (.inr (.inr rfl))) (evs_cons (ev_call (d_seen rfl) (evs_cons (ev_itemD (md := .O) (d := tx c.write) (k := ⟨k.toArray⟩) (ev_name hp (.inl rfl)) (ev_name (d := tx k) rfl (.inl rfl)) (dict_mem hk hlc)) evs_nil) (Fn.mono (hrec c hcm (no_x hws c hcm)) (by omega))) evs_nil)) (by simp)
end
end Mine
end

section
set_option maxRecDepth 100000
namespace Mine

theorem ints_rd {B : Wd} {P : Addr → Prop} {h : Heap} : ∀ {vs : List Value} {ns : List Int}, IntsAre vs ns → Rds B P h vs (ns.map .int) := by
  intro vs ns hI
  induction hI with
  | nil => exact .nil
  | cons _ _ _ ih => exact .cons (.int _ _) ih

/-- the law's body, entered -/
theorem law_enter {B : Wd} {nm : List (Str × NameKind)} {n : Nat} {body : List Stmt} {A : Around} {s₁ : Shared} {h₁ : Heap} {tk : Nat} {qual : Str} {scope : Scope} {fa a : Addr} {cd : Value} {vs : List Value} {ns : List Int} {R : Flow → Shared → Prop} {E : Value → Shared → Prop}
    (ok : B.Ok) (hb : B.base = s₁.heap) (F : Fr s₁.heap s₁.heap.objs.size h₁ (fun x => List.lookup x [(("script" : Str), Value.ref a)].reverse)) (hL : s₁.heap.IsList a vs.toArray) (hI : IntsAre vs ns)
    (hh : A.handled = none) (hf : A.frames = some []) (hd : A.depth + 1 + n ≤ 990) (hu : A.units + 3 + 8 * n ≤ 9000) (hnm : scope.names = nm) (hk : scope.kind = .function) (hx : nm.lookup ("script" : Str) = some .local) (tok : 1 ≤ tk)
    (hE : PassesOwn B.M (A.deeper (envOf qual scope s₁.heap.objs.size fa cd)) (envOf qual scope s₁.heap.objs.size fa cd) E)
    (hX : Ex B (fun _ => False) nm n (put "script" (.dat (.list (ns.map .int))) fun _ => none) body (fun fl _ => fl = .ret (.bool true)))
    (hR : ∀ h' tk', (∀ b o, s₁.heap.get? b = some o → h'.get? b = some o) → R (.ret (.bool true)) { s₁ with heap := h', toks := tk' }) (hnc : ∀ x ∈ nm, x.2 ≠ .cell := by decide) :
    wpAny B.M (A.deeper (envOf qual scope s₁.heap.objs.size fa cd)) (execs body (envOf qual scope s₁.heap.objs.size fa cd)) R E { s₁ with heap := h₁, toks := tk } := by
  generalize hEn : envOf qual scope s₁.heap.objs.size fa cd = env at hE ⊢
  have eL : env.locals = s₁.heap.objs.size := by rw [← hEn]; rfl
  have eF : env.frame = some env.locals := by rw [eL, ← hEn]; rfl
  have eN : env.scope.names = nm := by rw [← hEn]; exact hnm
  have eC : env.cells = [] := by rw [← hEn]; rfl
  have ea : adr [env] = [env.locals] := by unfold adr; simp [eF]
  have nL : s₁.heap.get? env.locals = none := by rw [eL]; exact get_size _
  have ns0 : h₁.Ns env.locals (fun x => List.lookup x [(("script" : Str), Value.ref a)].reverse) := by rw [eL]; exact F.ns
  have st : Stay (adr [env]) [] s₁.heap h₁ := .of_all F.keep
  have nA : ∀ b o, s₁.heap.get? b = some o → b ≠ env.locals := fun b o e q => by rw [q, nL] at e; cases e
  have R₀ : SR B s₁.heap [env] env [] (put "script" (.dat (.list (ns.map .int))) fun _ => none) h₁ := by
    refine ⟨fun b o e => F.keep b o (hb ▸ e), ⟨(by rw [← hEn]; show scope.kind ≠ _; rw [hk]; exact (fun z => nomatch z)), ?_, trivial⟩, st, fun a ha => (nomatch ha), ⟨by rw [hb]; exact nL, nL⟩, (fun p hp => by rw [eC] at hp; cases hp), ⟨(fun p hp => by rw [eC] at hp; cases hp), (fun p hp => by rw [eC] at hp; cases hp)⟩,
      _, fun _ => none, ns0, fun _ _ _ e => (nomatch e), fun _ _ e => (nomatch e), fun x lv e => ?_⟩
    · obtain ⟨o, es, ep, e, d, _⟩ := id ns0
      exact ⟨env.locals, o, eF, by rw [hb]; exact nL, e, fun vs q => by rw [q] at d; cases d⟩
    · by_cases q : x = "script"
      · subst q
        rw [put_eq] at e; cases e
        obtain ⟨o, eo, _⟩ := id hL
        refine ⟨.ref a, .inl ⟨?_, rfl⟩, .list ⟨(by rw [ea]; simp; exact nA a o eo), nA a o eo, (fun z => nomatch z)⟩ (isList_keep hL fun o e => F.keep a o e) (by simpa using ints_rd hI)⟩
        unfold Env.kindOf; rw [eN]; exact hx
      · rw [put_ne _ _ q] at e; cases e
  have S : Sta B nm n (A.deeper env) [env] env s₁.heap [] (put "script" (.dat (.list (ns.map .int))) fun _ => none) { s₁ with heap := h₁, toks := tk } :=
    ⟨ok, ⟨by rw [← hEn]; exact hk, eN, by rw [← hEn]; rfl, by rw [← hEn]; rfl, hh, Around.frames_deeper hf, hd, hu, fun _ => ⟨⟨[], rfl⟩, eF⟩, fun _ x hx => (hnc _ (mem_of_lookup hx) rfl).elim⟩, R₀, tok⟩
  refine wpAny_mono (hX (A.deeper env) [env] env s₁.heap [] _ E S ⟨hE, fun _ _ _ _ _ _ _ x => x.elim⟩) (fun f s' p => ?_) fun _ _ x => x
  obtain ⟨fl, ρ', own', h', tk', rfl, t', q, st', no, R', fr⟩ := p
  subst q
  cases f with
  | ret v =>
    obtain rfl := Rd.bool_inv fr
    exact hR h' tk' fun b o e => R'.kept.keep b o (by rw [ea]; simp; exact nA b o e) (fun q => nomatch q) e
  | next => exact fr.elim
  | cont => exact fr.elim
  | brk => exact fr.elim
end Mine
end

section
set_option maxRecDepth 100000
set_option maxHeartbeats 8000000
namespace Mine
theorem flat_ints (ns : List Int) : ∀ x ∈ ns.map PyData.int, flat x = true := fun x hx => by
  obtain ⟨i, _, rfl⟩ := List.mem_map.mp hx; rfl
theorem every_map {α β : Type} (f : α → β) (k : Nat) (xs : List α) : every k (xs.map f) = (every k xs).map f := by
  unfold every
  rw [List.length_map, List.map_filterMap]
  congr 1
  funext i
  rw [List.getElem?_map]
theorem every_len {α : Type} (xs : List α) (h : xs.length ≤ 63) : (every (xs.length / 25 + 1) xs).length ≤ 25 := by
  unfold every
  refine Nat.le_trans (List.length_filterMap_le _ _) ?_
  rw [List.length_range]
  have : xs.length / 25 = 0 ∨ xs.length / 25 = 1 ∨ xs.length / 25 = 2 := by omega
  rcases this with q | q | q <;> rw [q] <;> omega
theorem nds_all : ∀ {l : List PyData}, (∀ x ∈ l, nd x = true) → nds l = true
  | [], _ => rfl
  | x :: l, h => by unfold nds; rw [h x (.head _), nds_all fun y hy => h y (.tail _ hy)]; rfl
theorem nd_list {l : List PyData} (h : ∀ x ∈ l, nd x = true) : nd (.list l) = true := nds_all h
theorem depthAll_le {b : Nat} : ∀ {l : List PyData}, (∀ x ∈ l, x.depth ≤ b) → PyData.depthAll l ≤ b
  | [], _ => by simp [PyData.depthAll]
  | x :: l, h => by
    have h1 := h x (.head _)
    have h2 := depthAll_le (b := b) (l := l) fun y hy => h y (.tail _ hy)
    simp only [PyData.depthAll]; omega
theorem depth_two {a b : PyData} {m : Nat} (h1 : a.depth ≤ m) (h2 : b.depth ≤ m) : (PyData.list [a, b]).depth ≤ m + 1 ∧ (PyData.tuple [a, b]).depth ≤ m + 1 := by
  have := depthAll_le (b := m) (l := [a, b]) fun x hx => by
    rcases List.mem_cons.mp hx with rfl | hx
    · exact h1
    · rw [List.mem_singleton.mp hx]; exact h2
  exact ⟨by simp only [PyData.depth]; omega, by simp only [PyData.depth]; omega⟩
theorem nd_two {a b : PyData} (h1 : nd a = true) (h2 : nd b = true) : nd (.list [a, b]) = true ∧ nd (.tuple [a, b]) = true := by
  constructor <;> · show nds [a, b] = true; unfold nds; rw [h1]; unfold nds; rw [h2]; rfl
theorem due_nd : ∀ (n : Nat) (t : T), T.Ok n t → nd t.due = true ∧ t.due.depth ≤ 4 * n + 4 := by
  intro n
  induction n using Nat.strongRecOn with
  | _ n ih =>
  intro t o
  have d0 : ∀ s, (PyData.str s).depth ≤ 4 * n + 3 := fun s => by simp [PyData.depth]
  cases o with
  | leaf _ _ =>
    rw [due_leaf]
    exact ⟨rfl, (depth_two (d0 _) (d0 _)).1⟩
  | @node m h d cs o1 o2 =>
    have hc : ∀ c ∈ cs, nd c.due = true ∧ c.due.depth ≤ 4 * m + 4 := fun c hc => ih m (Nat.lt_succ_self m) c (o2 c hc)
    cases d with
    | false =>
      rw [due_list]
      refine ⟨(nd_two rfl (nd_list fun x hx => ?_)).1, (depth_two (d0 _) ?_).1⟩
      · obtain ⟨c, hcm, rfl⟩ := List.mem_map.mp hx; exact (hc c hcm).1
      · have := depthAll_le (b := 4 * m + 4) (l := cs.map T.due) fun x hx => by
          obtain ⟨c, hcm, rfl⟩ := List.mem_map.mp hx; exact (hc c hcm).2
        simp only [PyData.depth]; omega
    | true =>
      cases hws : words cs with
      | cons v r => rw [due_err h cs hws]; exact ⟨rfl, (depth_two (d0 _) (d0 _)).1⟩
      | nil =>
        rw [due_dict h cs hws]
        refine ⟨(nd_two rfl (nd_list fun x hx => ?_)).1, (depth_two (d0 _) ?_).1⟩
        · obtain ⟨k, hk, rfl⟩ := List.mem_map.mp hx
          obtain ⟨c, hlc, hcm, _⟩ := names_last hk
          rw [lastIn_dues k cs hlc]
          exact (nd_two rfl (hc c hcm).1).2
        · have := depthAll_le (b := 4 * m + 5) (l := (namesOf cs).map fun k => PyData.tuple [tx k, lastIn k (dues cs)]) fun x hx => by
            obtain ⟨k, hk, rfl⟩ := List.mem_map.mp hx
            obtain ⟨c, hlc, hcm, _⟩ := names_last hk
            rw [lastIn_dues k cs hlc]
            exact (depth_two (by simp [PyData.depth]) (hc c hcm).2).2
          simp only [PyData.depth]; omega
end Mine
open Mine in
theorem Mine.t02 : PySem.Challenge.rw_dz0130_02.Holds := hd02 (by
  k_go0
  all_goals try k_fold
  rename_i hg KX X V GL TP B TE TW _ _ M _ _ hcd ns hs hlay0 hL1 hr1 hl2 _ _ a vs _ hL ra w1 r0 hI hr hc1 hc2 K0 hD h₁ F N0
  refine law_enter (B := wd _ _ _ _) (n := 20) (ns := ns) ⟨KX, topRead_of TP, ⟨72, _, by decide, KX _ _ rfl⟩⟩ rfl F hL hI rfl rfl (by decide) (by decide) rfl rfl rfl ?tok PassesOwn.leaving ?body ?fin
  case tok => exact Nat.le_add_left _ _
  case fin =>
    intro h' tk' keep
    exact ⟨.inl ⟨.bool true, .bool true, [], rfl, fun _ => rfl, .bool _, postW_of (X := true == true) (by decide) (w_eq_bool (by simp [WTm.value]) (by simp [WTm.value])) rfl, fun _ => ⟨.nil, fun _ h => nomatch h⟩⟩, keep, rfl, hg⟩
  case body =>
    have hlen : ns.length ≤ 63 := by omega
    refine ex_go (ex_assign (d := .list (ns.map .int)) (Ev.cast ?_ (evg_slL (md := .C) (ev_name (d := .list (ns.map .int)) rfl (.inl rfl)) .none (.some ev_int) (by simp; omega) (flat_ints ns)).ev) rfl ?_)
    · rw [show (63 : Int) = ((63 : Nat) : Int) from rfl, sl_upto, List.take_of_length_le (by simpa using hlen)]
    obtain ⟨K, hK⟩ : ∃ K : Nat, K = ns.length / 25 + 1 := ⟨_, rfl⟩
    obtain ⟨few, hfew⟩ : ∃ few, few = every K ns := ⟨_, rfl⟩
    have hfl : few.length ≤ 25 := by rw [hfew, hK]; exact every_len ns hlen
    obtain ⟨t, o, hsz, ⟨cs, htc⟩, hF⟩ := c_tree (w := _) (mg := _) (mb := _) (base := _) few hfl
    refine ex_go (ex_assign (d := t.dat) (ev_call (d_tree rfl) (evs_cons (Ev.cast ?_ (evg_every (md := .O) (k := K) (ev_name (d := .list (ns.map .int)) rfl (.inl rfl)) (Ev.cast ?_ (ev_add (ev_div (ev_lenL (b_len rfl) (ev_name (d := .list (ns.map .int)) rfl (.inl rfl)) (by simp; omega)) ev_int (by decide) (by decide)) ev_int)) (by omega) (by simp; omega) (flat_ints ns)).ev) evs_nil) (Fn.mono hF (by decide))) rfl ?_)
    · rw [every_map, hfew]
    · rw [hK, List.length_map, Int.fdiv_eq_ediv_of_nonneg _ (by decide)]; rfl
    have hwl := write_small o hsz
    have hnx : t.isX = false := by rw [htc]; rfl
    have hw : t.write = 108 :: tailOf false cs := by rw [htc, write_tail]; rfl
    obtain ⟨hnd, hdp⟩ := due_nd 4 t o
    have hdue : t.due = .list [tx [108], .list (cs.map T.due)] := by rw [htc, due_list]
    obtain ⟨o1, o2⟩ : (∀ c ∈ cs, HdOk c.hd) ∧ ∀ c ∈ cs, T.Ok 3 c := by
      rw [htc] at o
      cases o with
      | node a b => exact ⟨a, b⟩
    have hss : szs cs ≤ 26 := by rw [htc, sz_node] at hsz; omega
    have hcl : cs.length ≤ 26 := by have := szs_len cs; omega
    have hcw : ∀ c ∈ cs, c.isX = false → c.write.length ≤ 100000 := fun c hc hb => by
      have := child_len (h := ⟨[], [], []⟩) (d := false) hc hb
      rw [← htc] at this; omega
    have htl : (tailOf false cs).length ≤ 50000 := by rw [hw] at hwl; simp only [List.length_cons] at hwl; omega
    have hht := http_tail (d := false) o1 o2
    refine ex_go (ex_assign (d := tx (108 :: tailOf false cs)) (Ev.cast (congrArg tx hw) (ev_call (d_write rfl) (evs_cons (ev_name (d := t.dat) rfl (.inl rfl)) evs_nil) (Fn.mono (c_write 4 t o hnx (by omega) (by omega)) (by decide)))) rfl ?_)
    refine ex_go (ex_comp (md := .N) (compOk_plain rfl (by decide) (by decide) (by decide) (by decide)) (evi_list (ds := (cs.map (itm false)).map tx) (Ev.cast (by rw [hht]) (ev_call (d_http rfl) (evs_cons (Ev.cast (congrArg tx (sl_one 108 (tailOf false cs))) (ev_slS (md := .O) (ev_name (d := tx (108 :: tailOf false cs)) rfl (.inl rfl)) (.some ev_int) .none (by simp only [List.length_cons]; omega))) evs_nil) (Fn.mono (c_http (tailOf false cs) (by omega)) (by decide))))).lax (by simp; omega) (.inr rfl) (fun z q => nomatch q) (fun _ => true) (onTx (dueOf false cs)) ?turn rfl ?_ ?hsw)
    case hsw =>
      intro env hk hn
      unfold swapsWith Env.blockKind Env.kindOf
      dsimp only
      rw [hk, hn]; rfl
    case turn =>
      intro dd ρ₁ hd2 hI
      obtain ⟨x, hx2, rfl⟩ := List.mem_map.mp hd2
      obtain ⟨c, hc, rfl⟩ := List.mem_map.mp hx2
      refine ⟨_, (as_name rfl).toZ, hI.put' (fun q => nomatch q), .inl ⟨rfl, rfl⟩, fun _ => ?_⟩
      show Ev _ _ _ _ _ _ (dueOf false cs (itm false c))
      rw [dueOf_itm o1 o2 hc]
      refine ev_call (d_one rfl) (evs_cons (ev_name (d := tx (itm false c)) rfl (.inl rfl)) evs_nil) (Fn.mono (c_one (o1 c hc) (o2 c hc) (hcw c hc) (fun hb => c_seen 3 c (o2 c hc) hb (hcw c hc hb) ?_)) (by decide))
      have := szs_mem hc; omega
    have es : (((cs.map (itm false)).map tx).filter fun _ => true).map (onTx (dueOf false cs)) = cs.map T.due := by
      rw [List.filter_eq_self.mpr (fun _ _ => rfl), List.map_map, List.map_map]
      exact List.map_congr_left fun c hc => dueOf_itm o1 o2 hc
    rw [es]
    refine ex_last (ex_return (d := .bool true) (Ev.cast (congrArg PyData.bool (eqv_self t.due hnd)) (ev_cmp (cm_eq (da := t.due) (db := t.due) (Ev.cast hdue.symm (evg_list (evs_cons (ev_tx (l := [108]) rfl) (evs_cons (ev_name (d := .list (cs.map T.due)) rfl (.inl rfl)) evs_nil)) (by simp)).ev) (ev_call (d_due rfl) (evs_cons (ev_name (d := t.dat) rfl (.inl rfl)) evs_nil) (Fn.mono (c_due 4 t o (by omega)) (by decide))) (by rw [hdue]; rfl) (by rw [hdue]; rfl) hnd hnd (Nat.le_trans (Nat.min_le_left _ _) (by omega))))) rfl))
end

theorem PySem.Challenge.cw_dz0130_02_holds : PySem.Challenge.rw_dz0130_02.Holds :=
  Mine.t02
