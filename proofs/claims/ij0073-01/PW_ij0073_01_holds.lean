import PyProof.Rows.All
import Wide.All
import OpenK.AllK
import Wide.FinOn
import Lean
import PySem.Challenge.RW_ij0073_01
set_option Elab.async false
set_option maxRecDepth 1000000
set_option autoImplicit false
set_option linter.all false
namespace Mine
open PySem PySem.W PyProof.Rows PySem.Calls PySem.Spec

/-- data as the law builds them -/
inductive D where
  | int (i : Int) | bool (b : Bool) | str (s : Str)
  | tup (l : List D) | lst (l : List D)
  | d0 | d2 (f g : D)
  | obj (a : Addr) | mis (l : List D) | cmp (l : D) | raw (v : Value)

structure Cfg where
  prog : Program
  w : World
  P : Addr
  cA : Addr
  ln : Int
  cl : Int
  K : Frag
  mg : Str → Option Value
  mb : Str → Option Value
  TC : Addr
  MM : Addr
  hK : noTabs K = true

def tupObj (vs : List Value) (n : Nat) : Obj := { cls := .type "tuple", data := .seq vs.toArray n }
def lstObj (vs : List Value) (n : Nat) : Obj := { cls := .type "list", data := .seq vs.toArray n }

variable (C : Cfg)

abbrev kS : KeyKind C.prog C.w Str := PySem.strKind C.prog C.w

mutual
def Rep (h : Heap) (ex : List Addr) : D → Value → Prop
  | .int i, v => ∃ t, v = .int i t
  | .bool b, v => v = .bool b
  | .str s, v => ∃ t, v = .str s t
  | .tup ds, v => ∃ a vs n, v = .ref a ∧ a ∉ ex ∧ h.get? a = some (tupObj vs n) ∧ RepL h ex ds vs
  | .lst ds, v => ∃ a vs n, v = .ref a ∧ a ∉ ex ∧ h.get? a = some (lstObj vs n) ∧ RepL h ex ds vs
  | .d0, v => ∃ a, v = .ref a ∧ a ∉ ex ∧ (a == sysModules) = false ∧ h.DictOf (kS C) a []
  | .d2 f g, v => ∃ a x y, v = .ref a ∧ a ∉ ex ∧ (a == sysModules) = false ∧ h.DictOf (kS C) a [("f", x), ("g", y)] ∧ Rep h ex f x ∧ Rep h ex g y
  | .obj b, v => v = .ref b ∧ b ∉ ex ∧ h.get? b = some { cls := .type "object" }
  | .mis ds, v => ∃ a dx vs n, v = .ref a ∧ a ∉ ex ∧ dx ∉ ex ∧ h.get? a = some { cls := .ref C.MM, dict := some dx, data := .seq vs.toArray n } ∧ h.get? dx = some emptyDict ∧ RepL h ex ds vs
  | .cmp d, v => ∃ a dx es n x, v = .ref a ∧ a ∉ ex ∧ dx ∉ ex ∧ h.get? a = some (instObj C.TC dx) ∧ h.get? dx = some (dictOf es n) ∧ getL "comp_select_list" es = some (some x) ∧ getL "compare" es = some none ∧ Rep h ex d x
  | .raw u, v => v = u
def RepL (h : Heap) (ex : List Addr) : List D → List Value → Prop
  | [], vs => vs = []
  | d :: ds, vs => ∃ v r, vs = v :: r ∧ Rep h ex d v ∧ RepL h ex ds r
end

variable {C}
/-- an object of a program's data: neither a table nor a cell -/
def Solid (o : Obj) : Prop := o.cls ≠ .none ∧ ∀ v, o.data ≠ .cell v
theorem dictOf_cls {K : Type} [DecidableEq K] {prog : Program} {w : World} {knd : KeyKind prog w K} {h : Heap} {a : Addr} {kvs : List (K × Value)} (x : h.DictOf knd a kvs) :
    ∃ o, h.get? a = some o ∧ Solid o := by
  obtain ⟨o, es, ep, ho, he, hd, _⟩ := x
  exact ⟨o, ho, by rw [he.1]; nofun, by rw [hd]; nofun⟩

theorem dictOf_move {K : Type} [DecidableEq K] {prog : Program} {w : World} {knd : KeyKind prog w K} {h h' : Heap} {a : Addr} {kvs : List (K × Value)} (x : h.DictOf knd a kvs)
    (hk : ∀ o, h.get? a = some o → Solid o → h'.get? a = some o) : h'.DictOf knd a kvs := by
  obtain ⟨o, es, ep, ho, he, hd, r⟩ := x
  exact ⟨o, es, ep, hk o ho ⟨by rw [he.1]; nofun, by rw [hd]; nofun⟩, he, hd, r⟩

section
variable {h h' : Heap} {ex ex' : List Addr} (hk : ∀ b o, b ∉ ex → h.get? b = some o → Solid o → h'.get? b = some o ∧ b ∉ ex')
include hk
mutual
theorem Rep.move : ∀ (d : D) (v : Value), Rep C h ex d v → Rep C h' ex' d v
  | .int i, v, x => by simpa only [Rep] using x
  | .bool b, v, x => by simpa only [Rep] using x
  | .str s, v, x => by simpa only [Rep] using x
  | .tup ds, v, x => by
    simp only [Rep] at x ⊢
    obtain ⟨a, vs, n, e, ha, hg, r⟩ := x
    have k := hk a _ ha hg ⟨nofun, nofun⟩
    exact ⟨a, vs, n, e, k.2, k.1, RepL.move ds vs r⟩
  | .lst ds, v, x => by
    simp only [Rep] at x ⊢
    obtain ⟨a, vs, n, e, ha, hg, r⟩ := x
    have k := hk a _ ha hg ⟨nofun, nofun⟩
    exact ⟨a, vs, n, e, k.2, k.1, RepL.move ds vs r⟩
  | .d0, v, x => by
    simp only [Rep] at x ⊢
    obtain ⟨a, e, ha, hs, hd⟩ := x
    obtain ⟨o, ho, hc⟩ := dictOf_cls hd
    exact ⟨a, e, (hk a _ ha ho hc).2, hs, dictOf_move hd fun o ho hc => (hk a o ha ho hc).1⟩
  | .d2 f g, v, x => by
    simp only [Rep] at x ⊢
    obtain ⟨a, p, q, e, ha, hs, hd, r1, r2⟩ := x
    obtain ⟨o, ho, hc⟩ := dictOf_cls hd
    exact ⟨a, p, q, e, (hk a _ ha ho hc).2, hs, dictOf_move hd fun o ho hc => (hk a o ha ho hc).1, Rep.move f p r1, Rep.move g q r2⟩
  | .obj b, v, x => by
    simp only [Rep] at x ⊢
    have k := hk b _ x.2.1 x.2.2 ⟨nofun, nofun⟩
    exact ⟨x.1, k.2, k.1⟩
  | .mis ds, v, x => by
    simp only [Rep] at x ⊢
    obtain ⟨a, dx, vs, n, e, ha, hdx, hg, hd, r⟩ := x
    have k := hk a _ ha hg ⟨nofun, nofun⟩
    have k2 := hk dx _ hdx hd ⟨nofun, nofun⟩
    exact ⟨a, dx, vs, n, e, k.2, k2.2, k.1, k2.1, RepL.move ds vs r⟩
  | .cmp d, v, x => by
    simp only [Rep] at x ⊢
    obtain ⟨a, dx, es, n, y, e, ha, hdx, h1, h2, h3, h4, r⟩ := x
    have k1 := hk a _ ha h1 ⟨nofun, nofun⟩
    have k2 := hk dx _ hdx h2 ⟨nofun, nofun⟩
    exact ⟨a, dx, es, n, y, e, k1.2, k2.2, k1.1, k2.1, h3, h4, Rep.move d y r⟩
  | .raw u, v, x => by simpa only [Rep] using x
theorem RepL.move : ∀ (ds : List D) (vs : List Value), RepL C h ex ds vs → RepL C h' ex' ds vs
  | [], vs, x => by simpa only [RepL] using x
  | d :: ds, vs, x => by
    simp only [RepL] at x ⊢
    obtain ⟨v, r, e, r1, r2⟩ := x
    exact ⟨v, r, e, Rep.move d v r1, RepL.move ds r r2⟩
end
end

theorem RepL.length {h : Heap} {ex : List Addr} : ∀ {ds : List D} {vs : List Value}, RepL C h ex ds vs → vs.length = ds.length
  | [], vs, x => by simp only [RepL] at x; subst x; rfl
  | d :: ds, vs, x => by
    simp only [RepL] at x
    obtain ⟨v, r, e, _, r2⟩ := x
    subst e
    simp [RepL.length r2]
theorem RepL.get {h : Heap} {ex : List Addr} : ∀ {ds : List D} {vs : List Value}, RepL C h ex ds vs → ∀ (i : Nat) (d : D), ds[i]? = some d → ∃ v, vs[i]? = some v ∧ Rep C h ex d v
  | [], vs, x, i, d, e => by simp at e
  | d0 :: ds, vs, x, i, d, e => by
    simp only [RepL] at x
    obtain ⟨v, r, ev, r1, r2⟩ := x
    subst ev
    cases i with
    | zero => simp at e; subst e; exact ⟨v, rfl, r1⟩
    | succ i => simp at e ⊢; exact RepL.get r2 i d e
theorem RepL.get' {h : Heap} {ex : List Addr} : ∀ {ds : List D} {vs : List Value}, RepL C h ex ds vs → ∀ (i : Nat) (v : Value), vs[i]? = some v → ∃ d, ds[i]? = some d ∧ Rep C h ex d v
  | [], vs, x, i, d, e => by simp only [RepL] at x; subst x; simp at e
  | d0 :: ds, vs, x, i, d, e => by
    simp only [RepL] at x
    obtain ⟨v, r, ev, r1, r2⟩ := x
    subst ev
    cases i with
    | zero => simp at e; subst e; exact ⟨d0, rfl, r1⟩
    | succ i => simp at e ⊢; exact RepL.get' r2 i d e
theorem RepL.append {h : Heap} {ex : List Addr} : ∀ {ds es : List D} {vs us : List Value}, RepL C h ex ds vs → RepL C h ex es us → RepL C h ex (ds ++ es) (vs ++ us)
  | [], es, vs, us, x, y => by simp only [RepL] at x; subst x; exact y
  | d :: ds, es, vs, us, x, y => by
    simp only [RepL] at x
    obtain ⟨v, r, e, r1, r2⟩ := x
    subst e
    simp only [List.cons_append, RepL]
    exact ⟨v, _, rfl, r1, RepL.append r2 y⟩
theorem RepL.one {h : Heap} {ex : List Addr} {d : D} {v : Value} (r : Rep C h ex d v) : RepL C h ex [d] [v] := by
  simp only [RepL]; exact ⟨v, [], rfl, r, rfl⟩
theorem RepL.nil {h : Heap} {ex : List Addr} : RepL C h ex [] [] := by simp only [RepL]
theorem RepL.cons {h : Heap} {ex : List Addr} {d : D} {v : Value} {ds : List D} {vs : List Value} (r : Rep C h ex d v) (r2 : RepL C h ex ds vs) : RepL C h ex (d :: ds) (v :: vs) := by
  simp only [RepL]; exact ⟨v, vs, rfl, r, r2⟩
theorem RepL.take {h : Heap} {ex : List Addr} : ∀ {ds : List D} {vs : List Value} (n : Nat), RepL C h ex ds vs → RepL C h ex (ds.take n) (vs.take n)
  | [], vs, n, x => by simp only [RepL] at x; subst x; simp [RepL]
  | d :: ds, vs, 0, x => by simp [RepL]
  | d :: ds, vs, n + 1, x => by
    simp only [RepL] at x
    obtain ⟨v, r, e, r1, r2⟩ := x
    subst e
    simp only [List.take_succ_cons]
    exact RepL.cons r1 (RepL.take n r2)
theorem RepL.drop {h : Heap} {ex : List Addr} : ∀ {ds : List D} {vs : List Value} (n : Nat), RepL C h ex ds vs → RepL C h ex (ds.drop n) (vs.drop n)
  | [], vs, n, x => by simp only [RepL] at x; subst x; simp [RepL]
  | d :: ds, vs, 0, x => by simpa using x
  | d :: ds, vs, n + 1, x => by
    simp only [RepL] at x
    obtain ⟨v, r, e, r1, r2⟩ := x
    subst e
    simp only [List.drop_succ_cons]
    exact RepL.drop n r2
theorem RepL.set {h : Heap} {ex : List Addr} {d : D} {v : Value} (rv : Rep C h ex d v) : ∀ {ds : List D} {vs : List Value} (n : Nat), RepL C h ex ds vs → RepL C h ex (ds.set n d) (vs.set n v)
  | [], vs, n, x => by simp only [RepL] at x; subst x; simp [RepL]
  | d0 :: ds, vs, 0, x => by
    simp only [RepL] at x
    obtain ⟨v, r, e, r1, r2⟩ := x
    subst e
    exact RepL.cons rv r2
  | d0 :: ds, vs, n + 1, x => by
    simp only [RepL] at x
    obtain ⟨v, r, e, r1, r2⟩ := x
    subst e
    exact RepL.cons r1 (RepL.set rv n r2)
end Mine
namespace Mine
open PySem PySem.W PyProof.Rows PySem.Calls PySem.Spec

structure G1 (C : Cfg) (h : Heap) : Prop where
  kin : C.K.In h
  g : h.Ns mainGlobals C.mg
  b : h.Ns builtinsNs C.mb
  nolimit : h.NoLimit
  hd : CodeHd h C.cA C.P
  bi : h.BuiltinsAt C.mg C.P

def TabOK (C : Cfg) (h : Heap) : Prop := ∃ ps, h.get? C.P = some (tabObj ps) ∧ (ps = #[] ∨ ∃ c' : Addr, ps = #[rawInt C.ln, rawInt C.cl, .ref c'])

theorem TabOK.ne {C : Cfg} {h : Heap} (x : TabOK C h) {b : Addr} {o : Obj} (e : h.get? b = some o) (hc : o.cls ≠ .none) : b ≠ C.P := fun q => by
  obtain ⟨ps, hp, _⟩ := x
  rw [← q, e] at hp
  cases hp
  exact hc rfl
theorem TabOK.neD {C : Cfg} {h : Heap} (x : TabOK C h) {b : Addr} {o : Obj} (e : h.get? b = some o) (hc : ∀ vs, o.data ≠ .fields vs) : b ≠ C.P := fun q => by
  obtain ⟨ps, hp, _⟩ := x
  rw [← q, e] at hp
  cases hp
  exact hc _ rfl
theorem TabOK.keeps {C : Cfg} {h h' : Heap} (x : TabOK C h) (k : ∀ o, h.get? C.P = some o → h'.get? C.P = some o) : TabOK C h' := by
  obtain ⟨ps, hp, r⟩ := x
  exact ⟨ps, k _ hp, r⟩
theorem TabOK.same {C : Cfg} {h h' : Heap} {a : Addr} (x : TabOK C h) (hs : Heap.SameBut a h h') (ha : a ≠ C.P) : TabOK C h' :=
  x.keeps fun o e => (hs.2 C.P (Ne.symm ha)).trans e

theorem ns_ext {C : Cfg} {h h' : Heap} {a : Addr} {m : Str → Option Value} (x : h.Ns a m) (T : TabOK C h) (e : Heap.ExtBut C.P h h') : h'.Ns a m := by
  obtain ⟨o, es, ep, ho, hd, r⟩ := x
  exact ⟨o, es, ep, e _ _ (T.neD ho (by rw [hd]; nofun)) ho, hd, r⟩
theorem cell_ext {C : Cfg} {h h' : Heap} {a : Addr} {m : Option Value} (x : h.IsCell a m) (T : TabOK C h) (e : Heap.ExtBut C.P h h') : h'.IsCell a m := by
  obtain ⟨o, ho, hd⟩ := x
  exact ⟨o, e _ _ (T.neD ho (by rw [hd]; nofun)) ho, hd⟩

theorem G1.ext {C : Cfg} {h h' : Heap} (x : G1 C h) (T : TabOK C h) (e : Heap.ExtBut C.P h h') : G1 C h' where
  kin := fun a o q => by
    refine e _ _ ?_ (x.kin a o q)
    intro hP
    obtain ⟨ps, hp, _⟩ := T
    have := x.kin a o q
    rw [hP, hp] at this
    cases this
    exact absurd (show false = true from List.all_eq_true.mp C.hK _ (mem_of_lookupK q)) Bool.false_ne_true
  g := ns_ext x.g T e
  b := ns_ext x.b T e
  nolimit := let ⟨mc, a, r⟩ := x.nolimit; ⟨mc, ns_ext a T e, r⟩
  hd := let ⟨o, vs, file, tf, flags, tg, inF, text, tt, e1, e2, r⟩ := x.hd; ⟨o, vs, file, tf, flags, tg, inF, text, tt, e _ _ (T.ne e1 (by rw [e2]; nofun)) e1, e2, r⟩
  bi := let ⟨bm, o, a1, a2, a3, a4, a5, a6, r⟩ := x.bi; ⟨bm, o, a1, a2, a3, a4, e _ _ (T.ne a5 (by rw [a6]; nofun)) a5, a6, r⟩

/-- what a step of the program may change behind its frame -/
structure Go (C : Cfg) (s s' : Shared) : Prop where
  ext : Heap.ExtBut C.P s.heap s'.heap
  tab : TabOK C s.heap → TabOK C s'.heap
  os : s'.os = s.os
  bare : AllBare s.gens → AllBare s'.gens
theorem Go.refl {C : Cfg} (s : Shared) : Go C s s := ⟨.refl _ _, id, rfl, id⟩
theorem Go.trans {C : Cfg} {s s1 s2 : Shared} (a : Go C s s1) (b : Go C s1 s2) : Go C s s2 := ⟨a.ext.trans b.ext, b.tab ∘ a.tab, b.os.trans a.os, b.bare ∘ a.bare⟩
theorem Go.keep {C : Cfg} {s s' : Shared} (k : ∀ b o, s.heap.get? b = some o → s'.heap.get? b = some o) (os : s'.os = s.os := by rfl) (g : s'.gens = s.gens := by rfl) : Go C s s' :=
  ⟨fun b o _ e => k b o e, fun T => T.keeps fun o e => k _ o e, os, fun x => by rw [g]; exact x⟩
theorem Go.push {C : Cfg} {s s' : Shared} (o : Obj) (e : s'.heap = s.heap.push o) (os : s'.os = s.os := by rfl) (g : s'.gens = s.gens := by rfl) : Go C s s' :=
  .keep (fun b o' h => by rw [e]; exact Heap.get?_push_of_some _ h) os g

theorem Rep.go {C : Cfg} {s s' : Shared} (g : Go C s s') (T : TabOK C s.heap) {ex : List Addr} {d : D} {v : Value} (r : Rep C s.heap ex d v) : Rep C s'.heap ex d v :=
  Rep.move (fun b o hb e hc => ⟨g.ext _ _ (T.ne e hc.1) e, hb⟩) d v r
theorem RepL.go {C : Cfg} {s s' : Shared} (g : Go C s s') (T : TabOK C s.heap) {ex : List Addr} {d : List D} {v : List Value} (r : RepL C s.heap ex d v) : RepL C s'.heap ex d v :=
  RepL.move (fun b o hb e hc => ⟨g.ext _ _ (T.ne e hc.1) e, hb⟩) d v r

inductive Slot where
  | dat (d : D)
  | own (a : Addr) (ds : List D)
  | ownd (a : Addr) (kvs : List (Str × D))
  | gho (a : Addr) (ds : List D)
def Slot.addr : Slot → List Addr
  | .dat _ => [] | .own a _ => [a] | .ownd a _ => [a] | .gho a _ => [a]
abbrev Sto := List (Str × Slot)
def owns (σ : Sto) : List Addr := σ.flatMap fun p => p.2.addr
def Sto.set (σ : Sto) (x : Str) (s : Slot) : Sto := (x, s) :: σ.filter fun p => !(p.1 == x)

structure EC where
  sc : Scope
  code : Value
  qual : Str
structure EnvOK (ec : EC) (env : Env) : Prop where
  sc : env.scope = ec.sc
  code : env.code = ec.code
  qual : env.qual = ec.qual
  gl : env.globals = mainGlobals
  bi : env.builtins = builtinsNs
  kind : ec.sc.kind = .function

def EC.kind (ec : EC) (x : Str) : Option NameKind := ec.sc.names.lookup x

def VarAt (ec : EC) (env : Env) (h : Heap) (x : Str) (v : Value) : Prop :=
  (ec.kind x = some .local ∧ ∃ m, h.Ns env.locals m ∧ m x = some v) ∨
  ((ec.kind x = some .cell ∨ ec.kind x = some .free) ∧ ∃ c, env.cells.lookup x = some c ∧ h.IsCell c (some v))

def SlotAt (C : Cfg) (ec : EC) (env : Env) (h₀ : Heap) (ex : List Addr) (h : Heap) (x : Str) : Slot → Prop
  | .dat d => ∃ v, VarAt ec env h x v ∧ Rep C h ex d v
  | .own a ds => VarAt ec env h x (.ref a) ∧ h₀.get? a = none ∧ ∃ vs n, h.get? a = some (lstObj vs n) ∧ RepL C h ex ds vs
  | .ownd a kvs => VarAt ec env h x (.ref a) ∧ h₀.get? a = none ∧ (a == sysModules) = false ∧ ∃ us, h.DictOf (kS C) a ((kvs.map (·.1)).zip us) ∧ RepL C h ex (kvs.map (·.2)) us
  | .gho a ds => h₀.get? a = none ∧ ∃ vs n, h.get? a = some (lstObj vs n) ∧ RepL C h ex ds vs

abbrev exOf (env : Env) (σ : Sto) (ex : List Addr) : List Addr := env.locals :: (owns σ ++ ex)

structure Sta (C : Cfg) (ec : EC) (W : List Str) (env : Env) (h₀ : Heap) (ex : List Addr) (σ : Sto) (h : Heap) : Prop where
  base : Heap.ExtBut C.P h₀ h
  g0 : G1 C h₀
  t0 : TabOK C h₀
  tab : TabOK C h
  ns : ∃ m, h.Ns env.locals m
  newL : h₀.get? env.locals = none
  wr : ∀ x ∈ W, ec.kind x = some .cell ∧ ∃ c v, env.cells.lookup x = some c ∧ h.IsCell c v ∧ h₀.get? c = none
  apart : ∀ x y c, env.cells.lookup x = some c → env.cells.lookup y = some c → x = y
  cells : ∀ x c, env.cells.lookup x = some c → ∃ v, h.IsCell c v
  slots : ∀ x s, σ.lookup x = some s → SlotAt C ec env h₀ (exOf env σ ex) h x s
  nodup : (exOf env σ ex).Nodup
  proper : ∀ p ∈ σ, σ.lookup p.1 = some p.2
  alive : ∀ a ∈ exOf env σ ex, h.get? a ≠ none

theorem Sta.g {C : Cfg} {ec : EC} {W : List Str} {env : Env} {h₀ : Heap} {ex : List Addr} {σ : Sto} {h : Heap} (S : Sta C ec W env h₀ ex σ h) : G1 C h := S.g0.ext S.t0 S.base

theorem VarAt.ext {C : Cfg} {ec : EC} {env : Env} {h h' : Heap} {x : Str} {v : Value} (V : VarAt ec env h x v) (T : TabOK C h) (e : Heap.ExtBut C.P h h') : VarAt ec env h' x v := by
  rcases V with ⟨hk, m, hn, hm⟩ | ⟨hk, c, hc, hi⟩
  · exact .inl ⟨hk, m, ns_ext hn T e, hm⟩
  · exact .inr ⟨hk, c, hc, cell_ext hi T e⟩

theorem dictOf_ext {C : Cfg} {K : Type} [DecidableEq K] {prog : Program} {w : World} {knd : KeyKind prog w K} {h h' : Heap} {a : Addr} {kvs : List (K × Value)} (x : h.DictOf knd a kvs) (T : TabOK C h) (e : Heap.ExtBut C.P h h') : h'.DictOf knd a kvs :=
  dictOf_move x fun o ho hc => e _ _ (T.ne ho hc.1) ho

theorem SlotAt.go {C : Cfg} {ec : EC} {env : Env} {h₀ : Heap} {ex : List Addr} {s s' : Shared} {x : Str} (g : Go C s s') (T : TabOK C s.heap) : ∀ {sl : Slot}, SlotAt C ec env h₀ ex s.heap x sl → SlotAt C ec env h₀ ex s'.heap x sl
  | .dat d, ⟨v, V, r⟩ => ⟨v, V.ext T g.ext, r.go g T⟩
  | .own a ds, ⟨V, hn, vs, n, ha, r⟩ => ⟨V.ext T g.ext, hn, vs, n, g.ext _ _ (T.ne ha nofun) ha, r.go g T⟩
  | .ownd a kvs, ⟨V, hn, hs, us, ha, r⟩ => ⟨V.ext T g.ext, hn, hs, us, dictOf_ext ha T g.ext, r.go g T⟩
  | .gho a ds, ⟨hn, vs, n, ha, r⟩ => ⟨hn, vs, n, g.ext _ _ (T.ne ha nofun) ha, r.go g T⟩

theorem alive_ext {C : Cfg} {h h' : Heap} {a : Addr} (T : TabOK C h) (T' : TabOK C h') (e : Heap.ExtBut C.P h h') (ha : h.get? a ≠ none) : h'.get? a ≠ none := by
  by_cases hP : a = C.P
  · subst hP
    obtain ⟨ps, hp, _⟩ := T'
    rw [hp]; nofun
  · cases hq : h.get? a with
    | none => exact absurd hq ha
    | some o => rw [e a o hP hq]; nofun

theorem Sta.go {C : Cfg} {ec : EC} {W : List Str} {env : Env} {h₀ : Heap} {ex : List Addr} {σ : Sto} {s s' : Shared} (S : Sta C ec W env h₀ ex σ s.heap) (g : Go C s s') : Sta C ec W env h₀ ex σ s'.heap where
  base := S.base.trans g.ext
  g0 := S.g0
  t0 := S.t0
  tab := g.tab S.tab
  ns := let ⟨m, hm⟩ := S.ns; ⟨m, ns_ext hm S.tab g.ext⟩
  newL := S.newL
  wr := fun x hx => let ⟨hk, c, v, hc, hi, hn⟩ := S.wr x hx; ⟨hk, c, v, hc, cell_ext hi S.tab g.ext, hn⟩
  apart := S.apart
  cells := fun x c hx => let ⟨v, hv⟩ := S.cells x c hx; ⟨v, cell_ext hv S.tab g.ext⟩
  slots := fun x sl hx => (S.slots x sl hx).go g S.tab
  nodup := S.nodup
  proper := S.proper
  alive := fun a ha => alive_ext S.tab (g.tab S.tab) g.ext (S.alive a ha)

/-- room for calls -/
structure Room (k : Nat) (A : Around) : Prop where
  handled : A.handled = none
  depth : A.depth + k < recursionLimit
  units : A.units + 8 * k + 100 < cLine
theorem Room.mono {k k' : Nat} {A : Around} (r : Room k A) (h : k' ≤ k) : Room k' A := ⟨r.handled, by have := r.depth; omega, by have := r.units; omega⟩
theorem Room.in1 {k : Nat} {A : Around} (r : Room (k + 1) A) : Room k A.in1 := ⟨r.handled, by have := r.depth; simp; omega, by have := r.units; simp; omega⟩
theorem Room.deeper {k : Nat} {A : Around} (r : Room (k + 1) A) (env : Env) : Room k (A.deeper env) := ⟨r.handled, by have := r.depth; simp only [Around.deeper]; omega, by have := r.units; simp; omega⟩

/-- the expression gives d; all that stood stands -/
def Ev (C : Cfg) (k : Nat) (ec : EC) (σ : Sto) (e : Expr) (d : D) : Prop :=
  ∀ (A : Around) (W : List Str) (env : Env) (h₀ : Heap) (ex : List Addr) (s : Shared) (Q : Value → Shared → Prop) (E : Value → Shared → Prop),
    Room k A → EnvOK ec env → Sta C ec W env h₀ ex σ s.heap →
    (∀ v s', Go C s s' → Rep C s'.heap (exOf env σ ex) d v → Q v s') →
    wpAny (model C.prog C.w) A (eval e env) Q E s
def Tr (C : Cfg) (k : Nat) (ec : EC) (σ : Sto) (e : Expr) (b : Bool) : Prop :=
  ∀ (A : Around) (W : List Str) (env : Env) (h₀ : Heap) (ex : List Addr) (s : Shared) (Q : Bool → Shared → Prop) (E : Value → Shared → Prop),
    Room k A → EnvOK ec env → Sta C ec W env h₀ ex σ s.heap →
    (∀ s', Go C s s' → Q b s') →
    wpAny (model C.prog C.w) A (PySem.isTrue e env (eval e env)) Q E s
def Evs (C : Cfg) (k : Nat) (ec : EC) (σ : Sto) (es : List Expr) (ds : List D) : Prop :=
  ∀ (A : Around) (W : List Str) (env : Env) (h₀ : Heap) (ex : List Addr) (s : Shared) (pos : Pos) (Q : List Value → Shared → Prop) (E : Value → Shared → Prop),
    Room k A → EnvOK ec env → Sta C ec W env h₀ ex σ s.heap →
    (∀ vs s', Go C s s' → RepL C s'.heap (exOf env σ ex) ds vs → Q vs s') →
    wpAny (model C.prog C.w) A (spliced (backTo pos (starEach es env))) Q E s

inductive Out where
  | next (σ : Sto) | brk (σ : Sto) | cont (σ : Sto) | ret (d : D)

/-- what a statement may change: os kept, generators bare -/
structure Gx (s s' : Shared) : Prop where
  os : s'.os = s.os
  bare : AllBare s.gens → AllBare s'.gens
theorem Gx.refl (s : Shared) : Gx s s := ⟨rfl, id⟩
theorem Gx.trans {s s1 s2 : Shared} (a : Gx s s1) (b : Gx s1 s2) : Gx s s2 := ⟨b.os.trans a.os, b.bare ∘ a.bare⟩
theorem Go.gx {C : Cfg} {s s' : Shared} (g : Go C s s') : Gx s s' := ⟨g.os, g.bare⟩

def OutAt (C : Cfg) (ec : EC) (W : List Str) (env : Env) (h₀ : Heap) (ex : List Addr) (h : Heap) (f : Flow) : Out → Prop
  | .next σ => f = .next ∧ Sta C ec W env h₀ ex σ h
  | .brk σ => f = .brk ∧ Sta C ec W env h₀ ex σ h
  | .cont σ => f = .cont ∧ Sta C ec W env h₀ ex σ h
  | .ret d => ∃ v, f = .ret v ∧ Heap.ExtBut C.P h₀ h ∧ TabOK C h ∧ Rep C h ex d v

def Xs (C : Cfg) (k : Nat) (ec : EC) (W : List Str) (σ : Sto) (ss : List Stmt) (Φ : Out → Prop) : Prop :=
  ∀ (A : Around) (env : Env) (h₀ : Heap) (ex : List Addr) (s : Shared) (Q : Flow → Shared → Prop) (E : Value → Shared → Prop),
    Room k A → EnvOK ec env → Sta C ec W env h₀ ex σ s.heap →
    (∀ f s' o, Φ o → OutAt C ec W env h₀ ex s'.heap f o → Gx s s' → Q f s') →
    wpAny (model C.prog C.w) A (execs ss env) Q E s
def X1 (C : Cfg) (k : Nat) (ec : EC) (W : List Str) (σ : Sto) (st : Stmt) (Φ : Out → Prop) : Prop :=
  ∀ (A : Around) (env : Env) (h₀ : Heap) (ex : List Addr) (s : Shared) (Q : Flow → Shared → Prop) (E : Value → Shared → Prop),
    Room k A → EnvOK ec env → Sta C ec W env h₀ ex σ s.heap →
    (∀ f s' o, Φ o → OutAt C ec W env h₀ ex s'.heap f o → Gx s s' → Q f s') →
    wpAny (model C.prog C.w) A (exec st env) Q E s
end Mine
namespace Mine
open PySem PySem.W PyProof.Rows PySem.Calls PySem.Spec

variable {C : Cfg} {k : Nat} {ec : EC} {σ : Sto}

def Alive (h : Heap) (ex : List Addr) : Prop := ∀ a ∈ ex, h.get? a ≠ none
theorem Alive.fresh {h : Heap} {ex : List Addr} (x : Alive h ex) : h.objs.size ∉ ex := fun m => by
  cases q : h.get? h.objs.size with
  | none => exact x _ m q
  | some o => exact absurd (Heap.lt_size q) (Nat.lt_irrefl _)
theorem Alive.go {s s' : Shared} {ex : List Addr} (x : Alive s.heap ex) (T : TabOK C s.heap) (g : Go C s s') : Alive s'.heap ex := fun a ha => alive_ext T (g.tab T) g.ext (x a ha)

-- what an operation asks of the state
structure Pre (C : Cfg) (k : Nat) (A : Around) (ex : List Addr) (s : Shared) : Prop where
  room : Room k A
  g : G1 C s.heap
  tab : TabOK C s.heap
  alive : Alive s.heap ex
theorem Pre.go {A : Around} {s s' : Shared} {ex : List Addr} (p : Pre C k A ex s) (g : Go C s s') : Pre C k A ex s' := ⟨p.room, p.g.ext p.tab g.ext, g.tab p.tab, p.alive.go p.tab g⟩
theorem Sta.pre {A : Around} {W : List Str} {env : Env} {h₀ : Heap} {ex : List Addr} {s : Shared} (S : Sta C ec W env h₀ ex σ s.heap) (r : Room k A) : Pre C k A (exOf env σ ex) s := ⟨r, S.g, S.tab, S.alive⟩

theorem Rep.push {h : Heap} {ex : List Addr} {d : D} {v : Value} (r : Rep C h ex d v) (o : Obj) : Rep C (h.push o) ex d v :=
  Rep.move (fun b o' hb e _ => ⟨Heap.get?_push_of_some _ e, hb⟩) d v r
theorem RepL.push {h : Heap} {ex : List Addr} {d : List D} {v : List Value} (r : RepL C h ex d v) (o : Obj) : RepL C (h.push o) ex d v :=
  RepL.move (fun b o' hb e _ => ⟨Heap.get?_push_of_some _ e, hb⟩) d v r
theorem Rep.keep {h h' : Heap} {ex : List Addr} {d : D} {v : Value} (r : Rep C h ex d v) (k : ∀ b o, h.get? b = some o → h'.get? b = some o) : Rep C h' ex d v :=
  Rep.move (fun b o' hb e _ => ⟨k _ _ e, hb⟩) d v r
theorem RepL.keep {h h' : Heap} {ex : List Addr} {d : List D} {v : List Value} (r : RepL C h ex d v) (k : ∀ b o, h.get? b = some o → h'.get? b = some o) : RepL C h' ex d v :=
  RepL.move (fun b o' hb e _ => ⟨k _ _ e, hb⟩) d v r

/-- names -/
theorem ev_var {x : Str} {d : D} {pos : Pos} (hx : σ.lookup x = some (.dat d)) (h1 : (x == ("__debug__" : Str)) = false) (h2 : (x == ("__classdict__" : Str)) = false) : Ev C k ec σ (.Name x pos) d := by
  intro A W env h₀ ex s Q E hr he S hQ
  obtain ⟨v, V, r⟩ := S.slots _ _ hx
  refine wpAny_Name ?_ h1
  have hk : env.scope.kind = .function := by rw [he.sc]; exact he.kind
  have hq : ∀ q, ec.kind x = some q → env.kindOf x = some q := fun q e => by unfold Env.kindOf; rw [he.sc]; exact e
  rcases V with ⟨e, m, hn, hm⟩ | ⟨e | e, c, hc, hi⟩
  · exact wpAny_loadName_local hk (hq _ e) hn hm (hQ v s (.refl s) r)
  · exact wpAny_loadName_cell hk (hq _ e) hc hi (hQ v s (.refl s) r)
  · exact wpAny_loadName_free hk (hq _ e) hc hi (hQ v s (.refl s) r) h2
theorem ev_glob {x : Str} {v : Value} {pos : Pos} (hk : ec.kind x = some .globalImplicit) (hx : C.mg x = some v) (h1 : (x == ("__debug__" : Str)) = false := by decide) : Ev C k ec σ (.Name x pos) (.raw v) := by
  intro A W env h₀ ex s Q E hr he S hQ
  refine Name_function_global (by rw [he.sc]; exact he.kind) (by unfold Env.kindOf; rw [he.sc]; exact hk) (loadGlobal_global (by rw [he.gl]; exact S.g.g) hx (hQ v s (.refl s) (by simp only [Rep]))) h1
theorem ev_built {x : Str} {v : Value} {pos : Pos} (hk : ec.kind x = some .globalImplicit) (hx : C.mg x = none) (hb : C.mb x = some v) (h1 : (x == ("__debug__" : Str)) = false := by decide) : Ev C k ec σ (.Name x pos) (.raw v) := by
  intro A W env h₀ ex s Q E hr he S hQ
  refine Name_function_global (by rw [he.sc]; exact he.kind) (by unfold Env.kindOf; rw [he.sc]; exact hk) (loadGlobal_builtin (by rw [he.gl]; exact S.g.g) hx (by rw [he.bi]; exact S.g.b) hb (hQ v s (.refl s) (by simp only [Rep]))) h1

/-- constants -/
theorem ev_int {i : Int} {n : Nat} {pos : Pos} : Ev C k ec σ (.Constant (.int i) n pos) (.int i) := by
  intro A W env h₀ ex s Q E hr he S hQ
  exact wpAny_Constant_int (hQ _ _ (.keep fun _ _ e => e) (by simp only [Rep]; exact ⟨_, rfl⟩))
theorem ev_bool {b : Bool} {n : Nat} {pos : Pos} : Ev C k ec σ (.Constant (.bool b) n pos) (.bool b) := by
  intro A W env h₀ ex s Q E hr he S hQ
  exact wpAny_Constant_bool (hQ _ _ (.refl _) (by simp only [Rep]))
theorem ev_str {x : Str} {n : Nat} {pos : Pos} : Ev C k ec σ (.Constant (.str x) n pos) (.str x) := by
  intro A W env h₀ ex s Q E hr he S hQ
  exact wpAny_Constant_str (hQ _ _ (.keep fun _ _ e => e) (by simp only [Rep]; exact ⟨_, rfl⟩))

/-- operators -/
def Bo (C : Cfg) (k : Nat) (op : Operator) (a b d : D) : Prop :=
  ∀ (A : Around) (ex : List Addr) (s : Shared) (v u : Value) (Q : Value → Shared → Prop) (E : Value → Shared → Prop), Pre C k A ex s → Rep C s.heap ex a v → Rep C s.heap ex b u →
    (∀ r s', Go C s s' → Rep C s'.heap ex d r → Q r s') → wpAny (model C.prog C.w) A (binaryOp op v u) Q E s
theorem ev_bin {l r : Expr} {op : Operator} {pos : Pos} {a b d : D} (h1 : Ev C k ec σ l a) (h2 : Ev C k ec σ r b) (h : Bo C k op a b d) : Ev C k ec σ (.BinOp l op r pos) d := by
  intro A W env h₀ ex s Q E hr he S hQ
  refine wpAny_BinOp (h1 _ _ _ _ _ _ _ _ hr he S fun v s1 g1 r1 => ?_)
  refine h2 _ _ _ _ _ _ _ _ hr he (S.go g1) fun u s2 g2 r2 => ?_
  have S2 := (S.go g1).go g2
  exact h _ _ _ _ _ _ _ (S2.pre hr) (r1.go g2 (S.go g1).tab) r2 fun w s3 g3 r3 => hQ _ _ ((g1.trans g2).trans g3) r3

theorem rep_int {h : Heap} {ex : List Addr} {i : Int} {t : Tok} : Rep C h ex (.int i) (.int i t) := by simp only [Rep]; exact ⟨_, rfl⟩
theorem rep_bool {h : Heap} {ex : List Addr} {b : Bool} : Rep C h ex (.bool b) (.bool b) := by simp only [Rep]

theorem bo_add {a b : Int} : Bo C k .Add (.int a) (.int b) (.int (a + b)) := by
  intro A ex s v u Q E p r1 r2 hQ
  simp only [Rep] at r1 r2
  obtain ⟨t, rfl⟩ := r1
  obtain ⟨t', rfl⟩ := r2
  exact add_int (hQ _ _ (.keep fun _ _ e => e) rep_int)
theorem bo_sub {a b : Int} : Bo C k .Sub (.int a) (.int b) (.int (a - b)) := by
  intro A ex s v u Q E p r1 r2 hQ
  simp only [Rep] at r1 r2
  obtain ⟨t, rfl⟩ := r1
  obtain ⟨t', rfl⟩ := r2
  exact sub_int (hQ _ _ (.keep fun _ _ e => e) rep_int)
theorem bo_mul {a b : Int} (hm : IntMulOk a b) : Bo C k .Mult (.int a) (.int b) (.int (a * b)) := by
  intro A ex s v u Q E p r1 r2 hQ
  simp only [Rep] at r1 r2
  obtain ⟨t, rfl⟩ := r1
  obtain ⟨t', rfl⟩ := r2
  exact mul_int (hQ _ _ (.keep fun _ _ e => e) rep_int) hm
theorem bo_fdiv {a b : Int} (hb : b ≠ 0) (hm : Builtin.divisionGoesByPylong a b = false) : Bo C k .FloorDiv (.int a) (.int b) (.int (Int.fdiv a b)) := by
  intro A ex s v u Q E p r1 r2 hQ
  simp only [Rep] at r1 r2
  obtain ⟨t, rfl⟩ := r1
  obtain ⟨t', rfl⟩ := r2
  exact floordiv_int hb (hQ _ _ (.keep fun _ _ e => e) rep_int) (.inl hm)
theorem bo_mod {a b : Int} (hb : b ≠ 0) : Bo C k .Mod (.int a) (.int b) (.int (Int.fmod a b)) := by
  intro A ex s v u Q E p r1 r2 hQ
  simp only [Rep] at r1 r2
  obtain ⟨t, rfl⟩ := r1
  obtain ⟨t', rfl⟩ := r2
  exact mod_int hb (hQ _ _ (.keep fun _ _ e => e) rep_int)
theorem bo_pow {a n : Int} (h0 : 0 ≤ n) (hb : (Builtin.Int.intBits a : Int) * n ≤ 2 ^ 27) : Bo C k .Pow (.int a) (.int n) (.int (a ^ n.toNat)) := by
  intro A ex s v u Q E p r1 r2 hQ
  simp only [Rep] at r1 r2
  obtain ⟨t, rfl⟩ := r1
  obtain ⟨t', rfl⟩ := r2
  exact pow_int h0 hb (hQ _ _ (.keep fun _ _ e => e) rep_int)
theorem ev_neg {x : Expr} {pos : Pos} {a : Int} (h : Ev C k ec σ x (.int a)) : Ev C k ec σ (.UnaryOp .USub x pos) (.int (-a)) := by
  intro A W env h₀ ex s Q E hr he S hQ
  refine wpAny_UnaryOp (h _ _ _ _ _ _ _ _ hr he S fun v s1 g1 r1 => ?_)
  simp only [Rep] at r1
  obtain ⟨t, rfl⟩ := r1
  exact neg_int (hQ _ _ (g1.trans (.keep fun _ _ e => e)) rep_int)

/-- comparisons -/
def Co (C : Cfg) (k : Nat) (op : CmpOp) (a b : D) (d : Bool) : Prop :=
  ∀ (A : Around) (ex : List Addr) (s : Shared) (v u : Value) (Q : Value → Shared → Prop) (E : Value → Shared → Prop), Pre C k A ex s → Rep C s.heap ex a v → Rep C s.heap ex b u →
    (∀ s', Go C s s' → Q (.bool d) s') → wpAny (model C.prog C.w) A (compareOp op v u) Q E s
theorem ev_cmp {l r : Expr} {op : CmpOp} {pos : Pos} {a b : D} {d : Bool} (h1 : Ev C k ec σ l a) (h2 : Ev C k ec σ r b) (h : Co C k op a b d) (hm : behindInMarks op r = false) : Ev C k ec σ (.Compare l [op] [r] pos) (.bool d) := by
  intro A W env h₀ ex s Q E hr he S hQ
  refine wpAny_Compare1 (h1 _ _ _ _ _ _ _ _ hr he S fun v s1 g1 r1 => ?_) hm
  refine h2 _ _ _ _ _ _ _ _ hr he (S.go g1) fun u s2 g2 r2 => ?_
  have S2 := (S.go g1).go g2
  exact h _ _ _ _ _ _ _ (S2.pre hr) (r1.go g2 (S.go g1).tab) r2 fun s3 g3 => hQ _ _ ((g1.trans g2).trans g3) rep_bool
theorem tr_cmp {l r : Expr} {op : CmpOp} {pos : Pos} {a b : D} {d : Bool} (h1 : Ev C k ec σ l a) (h2 : Ev C k ec σ r b) (h : Co C k op a b d) (hm : behindInMarks op r = false) : Tr C k ec σ (.Compare l [op] [r] pos) d := by
  intro A W env h₀ ex s Q E hr he S hQ
  refine wpAny_isTrue_Compare1 (h1 _ _ _ _ _ _ _ _ hr he S fun v s1 g1 r1 => ?_) hm
  refine h2 _ _ _ _ _ _ _ _ hr he (S.go g1) fun u s2 g2 r2 => ?_
  have S2 := (S.go g1).go g2
  exact h _ _ _ _ _ _ _ (S2.pre hr) (r1.go g2 (S.go g1).tab) r2 fun s3 g3 => wpAny_truthy_bool (hQ _ ((g1.trans g2).trans g3))
theorem tr_not {x : Expr} {pos : Pos} {b : Bool} (h : Tr C k ec σ x b) : Tr C k ec σ (.UnaryOp .Not x pos) (!b) := by
  intro A W env h₀ ex s Q E hr he S hQ
  exact wpAny_isTrue_Not (h _ _ _ _ _ _ _ _ hr he S fun s1 g1 => hQ _ g1)
theorem tr_or {x y : Expr} {pos : Pos} {a b : Bool} (h : Tr C k ec σ x a) (h2 : a = false → Tr C k ec σ y b) : Tr C k ec σ (.BoolOp .Or [x, y] pos) (a || b) := by
  intro A W env h₀ ex s Q E hr he S hQ
  refine wpAny_isTrue_BoolOp (wpAny_allTrue_Or_cons (h _ _ _ _ _ _ _ _ hr he S fun s1 g1 => ?_))
  cases a with
  | true => exact hQ _ g1
  | false =>
    refine wpAny_allTrue_Or_cons (h2 rfl _ _ _ _ _ _ _ _ hr he (S.go g1) fun s2 g2 => ?_)
    cases b with
    | true => exact hQ _ (g1.trans g2)
    | false => exact wpAny_allTrue_Or_nil (hQ _ (g1.trans g2))
theorem tr_and {x y : Expr} {pos : Pos} {a b : Bool} (h : Tr C k ec σ x a) (h2 : a = true → Tr C k ec σ y b) : Tr C k ec σ (.BoolOp .And [x, y] pos) (a && b) := by
  intro A W env h₀ ex s Q E hr he S hQ
  refine wpAny_isTrue_BoolOp (wpAny_allTrue_And_cons (h _ _ _ _ _ _ _ _ hr he S fun s1 g1 => ?_))
  cases a with
  | false => exact hQ _ g1
  | true =>
    refine wpAny_allTrue_And_cons (h2 rfl _ _ _ _ _ _ _ _ hr he (S.go g1) fun s2 g2 => ?_)
    cases b with
    | false => exact hQ _ (g1.trans g2)
    | true => exact wpAny_allTrue_And_nil (hQ _ (g1.trans g2))
/-- a test that is a plain bool value -/
theorem tr_val {e : Expr} {b : Bool} (h : Ev C k ec σ e (.bool b))
    (hs : ∀ env whole, PySem.isTrue e env whole = (do let v ← whole; standAt (Expr.pos e); holding [v] (truthy v))) : Tr C k ec σ e b := by
  intro A W env h₀ ex s Q E hr he S hQ
  refine wpAny_isTrue_value (h _ _ _ _ _ _ _ _ hr he S fun v s1 g1 r1 => ?_) (hs _ _)
  simp only [Rep] at r1
  subst r1
  exact wpAny_truthy_bool (hQ _ g1)
theorem co_lt {a b : Int} : Co C k .Lt (.int a) (.int b) (decide (a < b)) := by
  intro A ex s v u Q E p r1 r2 hQ
  simp only [Rep] at r1 r2
  obtain ⟨t, rfl⟩ := r1
  obtain ⟨t', rfl⟩ := r2
  exact lt_int (hQ _ (.refl _))
theorem co_gt {a b : Int} : Co C k .Gt (.int a) (.int b) (decide (b < a)) := by
  intro A ex s v u Q E p r1 r2 hQ
  simp only [Rep] at r1 r2
  obtain ⟨t, rfl⟩ := r1
  obtain ⟨t', rfl⟩ := r2
  exact gt_int (hQ _ (.refl _))
theorem co_eq {a b : Int} : Co C k .Eq (.int a) (.int b) (a == b) := by
  intro A ex s v u Q E p r1 r2 hQ
  simp only [Rep] at r1 r2
  obtain ⟨t, rfl⟩ := r1
  obtain ⟨t', rfl⟩ := r2
  exact eq_int (hQ _ (.refl _))
theorem co_ne {a b : Int} : Co C k .NotEq (.int a) (.int b) (a != b) := by
  intro A ex s v u Q E p r1 r2 hQ
  simp only [Rep] at r1 r2
  obtain ⟨t, rfl⟩ := r1
  obtain ⟨t', rfl⟩ := r2
  exact ne_int (hQ _ (.refl _))

theorem ev_ifexp {t b o : Expr} {pos : Pos} {c : Bool} {d : D} (ht : Tr C k ec σ t c) (hb : c = true → Ev C k ec σ b d) (ho : c = false → Ev C k ec σ o d) : Ev C k ec σ (.IfExp t b o pos) d := by
  intro A W env h₀ ex s Q E hr he S hQ
  refine wpAny_IfExp (ht _ _ _ _ _ _ _ _ hr he S fun s1 g1 => ?_)
  cases c with
  | true => exact hb rfl _ _ _ _ _ _ _ _ hr he (S.go g1) fun v s2 g2 r2 => hQ _ _ (g1.trans g2) r2
  | false => exact ho rfl _ _ _ _ _ _ _ _ hr he (S.go g1) fun v s2 g2 r2 => hQ _ _ (g1.trans g2) r2
theorem ev_and {x y : Expr} {pos : Pos} {a b : Bool} (h : Ev C k ec σ x (.bool a)) (h2 : a = true → Ev C k ec σ y (.bool b)) : Ev C k ec σ (.BoolOp .And [x, y] pos) (.bool (a && b)) := by
  intro A W env h₀ ex s Q E hr he S hQ
  refine wpAny_And2 (h _ _ _ _ _ _ _ _ hr he S fun v s1 g1 r1 => ?_)
  simp only [Rep] at r1
  subst r1
  refine wpAny_truthy_bool ?_
  cases a with
  | false => exact hQ _ _ g1 rep_bool
  | true => exact h2 rfl _ _ _ _ _ _ _ _ hr he (S.go g1) fun v s2 g2 r2 => hQ _ _ (g1.trans g2) r2

/-- lists of expressions -/
theorem evs_nil : Evs C k ec σ [] [] := by
  intro A W env h₀ ex s pos Q E hr he S hQ
  exact wpAny_items_nil (hQ _ _ (.refl _) .nil)
theorem evs_cons {e : Expr} {es : List Expr} {d : D} {ds : List D} (h1 : Ev C k ec σ e d) (h2 : Evs C k ec σ es ds) (hs : ∀ env, starEach (e :: es) env = (false, eval e env) :: starEach es env) : Evs C k ec σ (e :: es) (d :: ds) := by
  intro A W env h₀ ex s pos Q E hr he S hQ
  refine wpAny_items_cons (h1 _ _ _ _ _ _ _ _ hr he S fun v s1 g1 r1 => ?_) (hs env)
  exact h2 _ _ _ _ _ _ _ _ _ hr he (S.go g1) fun vs s2 g2 r2 => hQ _ _ (g1.trans g2) (.cons (r1.go g2 (S.go g1).tab) r2)
theorem ev_tuple {es : List Expr} {ds : List D} {n : Nat} {pos : Pos} (h : Evs C k ec σ es ds) (hl : ds.length ≤ 1000) : Ev C k ec σ (.Tuple es n pos) (.tup ds) := by
  intro A W env h₀ ex s Q E hr he S hQ
  refine wpAny_Tuple_spliced (h _ _ _ _ _ _ _ _ _ hr he S fun vs s1 g1 r1 => ?_)
  have S1 := S.go g1
  refine ⟨by rw [r1.length, sizeLine_eq]; omega, hQ _ _ (g1.trans (.push _ rfl)) ?_⟩
  simp only [Rep]
  exact ⟨_, vs, 0, rfl, (S1.pre hr).alive.fresh, Heap.get?_push_size _ rfl, r1.push _⟩
theorem ev_list {es : List Expr} {ds : List D} {pos : Pos} (h : Evs C k ec σ es ds) (hl : ds.length ≤ 1000) : Ev C k ec σ (.List es pos) (.lst ds) := by
  intro A W env h₀ ex s Q E hr he S hQ
  refine wpAny_List_spliced (h _ _ _ _ _ _ _ _ _ hr he S fun vs s1 g1 r1 => ?_)
  have S1 := S.go g1
  refine ⟨by rw [r1.length, sizeLine_eq]; omega, hQ _ _ (g1.trans (.push _ rfl)) ?_⟩
  simp only [Rep]
  exact ⟨_, vs, 0, rfl, (S1.pre hr).alive.fresh, Heap.get?_push_size _ rfl, r1.push _⟩
end Mine
namespace Mine
open PySem PySem.W PyProof.Rows PySem.Calls PySem.Spec

variable {C : Cfg} {k : Nat} {ec : EC} {σ : Sto}

def Dict0 (h : Heap) (a : Addr) : Prop := (a == sysModules) = false ∧ ∃ o ep, h.get? a = some o ∧ o.cls = .type "dict" ∧ o.data = .dict #[] ep
def Dict2 (h : Heap) (a : Addr) (x y : Value) : Prop := (a == sysModules) = false ∧ ∃ o ep h1 h2 t1 t2, h.get? a = some o ∧ o.cls = .type "dict" ∧ o.data = .dict #[⟨h1, .str "f" t1, x⟩, ⟨h2, .str "g" t2, y⟩] ep

theorem dict0_of {h : Heap} {a : Addr} (hs : (a == sysModules) = false) (x : h.DictOf (kS C) a []) : Dict0 h a := by
  obtain ⟨o, es, ep, ho, he, hd, _, hp, _⟩ := x
  obtain ⟨l⟩ := es
  cases hp
  exact ⟨hs, o, ep, ho, he.1, hd⟩
theorem dict2_of {h : Heap} {a : Addr} {x y : Value} (hs : (a == sysModules) = false) (q : h.DictOf (kS C) a [("f", x), ("g", y)]) : Dict2 h a x y := by
  obtain ⟨o, es, ep, ho, he, hd, _, hp, _⟩ := q
  obtain ⟨l⟩ := es
  change Pairs (kS C) l _ at hp
  cases hp with
  | @cons e1 _ _ _ k1 v1 r =>
    cases r with
    | @cons e2 _ _ _ k2 v2 r =>
      cases r
      obtain ⟨h1, key1, val1⟩ := e1
      obtain ⟨h2, key2, val2⟩ := e2
      obtain ⟨t1, rfl⟩ := Value.isStrOf_shape k1
      obtain ⟨t2, rfl⟩ := Value.isStrOf_shape k2
      simp only at v1 v2
      subst v1 v2
      exact ⟨hs, o, ep, h1, h2, t1, t2, ho, he.1, hd⟩

section
variable {A : Around} {s : Shared} {a b : Addr} {x y x' y' : Value} {p q : Bool}
theorem rc_dict {r : Bool} {oa ob : Obj} (ha : s.heap.get? a = some oa) (hca : oa.cls = .type "dict") (hb : s.heap.get? b = some ob) (hcb : ob.cls = .type "dict") (hu : A.units < cLine)
    (h : ∀ (prog : Program) (w : World) (E : Value → Shared → Prop) (Q : Bool → Shared → Prop), Q r s → wpAny (model prog w) A.in1 (Builtin.Dict.samePairs "dict.__eq__" a b) Q E s) : SeqAt.RcAt A s (.ref a) (.ref b) r := by
  intro prog w E Q hq
  have ta : s.TypeIs (.ref a) "dict" := ⟨oa, ha, hca⟩
  have tb : s.TypeIs (.ref b) "dict" := ⟨ob, hb, hcb⟩
  refine wpAny_richCompare_same_room (op := .Eq) ta tb PySem.F.slot_dict_eq (wpAny_call_entry PySem.F.slot_dict_eq ta PySem.F.entry_dict_eq ?_ (PySem.F.args_dict_eq_2 _ _)) hu
  show wpAny _ _ (Builtin.Dict.dictSlotArgs "__eq__" ⟨[.ref a, .ref b], []⟩ >>= _) _ _ s
  refine wpAny_bind ?_
  unfold Builtin.Dict.dictSlotArgs
  refine wpAny_bind (wpAny_notOrdered_dict ta ?_)
  show wpAny _ _ (pure (Value.ref a, Value.ref b)) _ _ s
  refine wpAny_pure ?_
  refine wpAny_bind (wpAny_isInstance (T := "dict") tb PySem.F.sub_dict_dict ?_)
  simp only [Bool.not_true, Bool.false_eq_true, if_false]
  refine wpAny_bind (wpAny_pure (wpAny_bind (wpAny_pure ?_)))
  refine wpAny_bind (h _ _ _ _ ?_)
  refine wpAny_pure ⟨_, rfl, ?_, ?_⟩
  · exact fun x => nomatch x
  · simpa using hq

theorem same00 {nm : String} (da : Dict0 s.heap a) (db : Dict0 s.heap b) (prog : Program) (w : World) (E : Value → Shared → Prop) (Q : Bool → Shared → Prop) (hq : Q true s) : wpAny (model prog w) A (Builtin.Dict.samePairs nm a b) Q E s := by
  obtain ⟨sa, oa, ep, ha, _, hda⟩ := da
  obtain ⟨sb, ob, ep', hb, _, hdb⟩ := db
  unfold Builtin.Dict.samePairs Builtin.Dict.showsAll
  rw [if_neg (by rw [sa]; exact Bool.false_ne_true), if_neg (by rw [sb]; exact Bool.false_ne_true)]
  refine wpAny_bind (wpAny_pure (wpAny_bind (wpAny_pure ?_)))
  refine wpAny_bind (wpAny_dictEntries ha hda ?_)
  dsimp only
  refine wpAny_bind (wpAny_dictEntries hb hdb ?_)
  rw [if_neg (by decide)]
  refine wpAny_bind (wpAny_dictEpoch ha hda ?_)
  refine wpAny_bind ?_
  rw [Std.Legacy.Range.forIn_eq_forIn_range']
  exact wpAny_pure (wpAny_pure hq)
theorem same_sizes {nm : String} {oa ob : Obj} {es es' : Array DictEntry} {ep ep' : Nat} (sa : (a == sysModules) = false) (sb : (b == sysModules) = false) (ha : s.heap.get? a = some oa) (hda : oa.data = .dict es ep) (hb : s.heap.get? b = some ob) (hdb : ob.data = .dict es' ep') (hn : (es.size != es'.size) = true)
    (prog : Program) (w : World) (E : Value → Shared → Prop) (Q : Bool → Shared → Prop) (hq : Q false s) : wpAny (model prog w) A (Builtin.Dict.samePairs nm a b) Q E s := by
  unfold Builtin.Dict.samePairs Builtin.Dict.showsAll
  rw [if_neg (by rw [sa]; exact Bool.false_ne_true), if_neg (by rw [sb]; exact Bool.false_ne_true)]
  refine wpAny_bind (wpAny_pure (wpAny_bind (wpAny_pure ?_)))
  refine wpAny_bind (wpAny_dictEntries ha hda ?_)
  dsimp only
  refine wpAny_bind (wpAny_dictEntries hb hdb ?_)
  rw [if_pos hn]
  exact wpAny_bind (wpAny_rule (wpAny_pure hq))
theorem same22 {nm : String} (da : Dict2 s.heap a x y) (db : Dict2 s.heap b x' y') (e1 : SeqAt.EqAt A s x x' p) (e2 : SeqAt.EqAt A s y y' q) (prog : Program) (w : World) (E : Value → Shared → Prop) (Q : Bool → Shared → Prop) (hq : Q (p && q) s) : wpAny (model prog w) A (Builtin.Dict.samePairs nm a b) Q E s := by
  obtain ⟨sa, oa, ep, h1, h2, t1, t2, ha, _, hda⟩ := da
  obtain ⟨sb, ob, ep', h1', h2', t1', t2', hb, _, hdb⟩ := db
  unfold Builtin.Dict.samePairs Builtin.Dict.showsAll
  rw [if_neg (by rw [sa]; exact Bool.false_ne_true), if_neg (by rw [sb]; exact Bool.false_ne_true)]
  refine wpAny_bind (wpAny_pure (wpAny_bind (wpAny_pure ?_)))
  refine wpAny_bind (wpAny_dictEntries ha hda ?_)
  dsimp only
  refine wpAny_bind (wpAny_dictEntries hb hdb ?_)
  rw [if_neg (by simp)]
  refine wpAny_bind (wpAny_dictEpoch ha hda ?_)
  refine wpAny_bind ?_
  rw [Std.Legacy.Range.forIn_eq_forIn_range']
  simp only [Std.Legacy.Range.size, Nat.sub_zero, Nat.add_sub_cancel, Nat.div_one]
  have er : List.range' 0 (#[(⟨h1, .str "f" t1, x⟩ : DictEntry), ⟨h2, .str "g" t2, y⟩]).size = [0, 1] := rfl
  show wpAny _ _ (forIn (List.range' 0 (#[(⟨h1, .str "f" t1, x⟩ : DictEntry), ⟨h2, .str "g" t2, y⟩]).size) _ _) _ _ _
  rw [er, List.forIn_cons]
  refine wpAny_bind ?_
  refine wpAny_bind (wpAny_dictEntries ha hda ?_)
  show wpAny _ _ (holding [Value.str "f" t1, x] _ >>= _) _ _ _
  refine wpAny_bind (wpAny_holding (wpAny_bind (KTD.kt_dictFind_strs hb hdb (by simp [isExactStrKey]) ?_)))
  have ef : (#[(⟨h1', .str "f" t1', x'⟩ : DictEntry), ⟨h2', .str "g" t2', y'⟩]).findIdx? (fun e => e.key.isStr "f") = some 0 := by
    rw [Array.findIdx?_eq_some_iff_getElem]
    exact ⟨by simp, by simp [Value.isStr], fun j hj => absurd hj (Nat.not_lt_zero _)⟩
  rw [ef]
  refine wpAny_bind (wpAny_dictEntries hb hdb ?_)
  show wpAny _ _ (holding [x'] (eqBool x x')) _ _ _
  refine wpAny_holding (e1 _ _ _ _ ?_)
  cases p with
  | false =>
    show wpAny _ _ (if (!false) = true then _ else _) _ _ _
    rw [if_pos (by decide)]
    exact wpAny_pure (wpAny_pure (wpAny_pure hq))
  | true =>
    show wpAny _ _ (if (!true) = true then _ else _) _ _ _
    rw [if_neg (by decide)]
    refine wpAny_bind (wpAny_dictEpoch ha hda ?_)
    rw [if_neg (by simp)]
    refine wpAny_pure ?_
    show wpAny _ _ (forIn [1] _ _) _ _ _
    rw [List.forIn_cons]
    refine wpAny_bind ?_
    refine wpAny_bind (wpAny_dictEntries ha hda ?_)
    show wpAny _ _ (holding [Value.str "g" t2, y] _ >>= _) _ _ _
    refine wpAny_bind (wpAny_holding (wpAny_bind (KTD.kt_dictFind_strs hb hdb (by simp [isExactStrKey]) ?_)))
    have eg : (#[(⟨h1', .str "f" t1', x'⟩ : DictEntry), ⟨h2', .str "g" t2', y'⟩]).findIdx? (fun e => e.key.isStr "g") = some 1 := by
      rw [Array.findIdx?_eq_some_iff_getElem]
      refine ⟨by simp, by simp [Value.isStr], fun j hj => ?_⟩
      have : j = 0 := by omega
      subst this
      simp [Value.isStr]
      decide
    rw [eg]
    refine wpAny_bind (wpAny_dictEntries hb hdb ?_)
    show wpAny _ _ (holding [y'] (eqBool y y')) _ _ _
    refine wpAny_holding (e2 _ _ _ _ ?_)
    cases q with
    | false =>
      show wpAny _ _ (if (!false) = true then _ else _) _ _ _
      rw [if_pos (by decide)]
      exact wpAny_pure (wpAny_pure (wpAny_pure hq))
    | true =>
      show wpAny _ _ (if (!true) = true then _ else _) _ _ _
      rw [if_neg (by decide)]
      refine wpAny_bind (wpAny_dictEpoch ha hda ?_)
      rw [if_neg (by simp)]
      refine wpAny_pure ?_
      show wpAny _ _ (forIn [] _ _) _ _ _
      exact wpAny_pure (wpAny_pure hq)
end
end Mine
namespace Mine
open PySem PySem.W PyProof.Rows PySem.Calls PySem.Spec
open SeqAt
open AutoSeq1 (wpAny_loadPart')

variable {C : Cfg} {k : Nat} {ec : EC} {σ : Sto}

theorem tuple_eq_declines_object (l b : Addr) (items : Array Value) (n : Nat) :
    Meets (Builtin.«tuple.__eq__» ⟨[.ref l, .ref b], []⟩) (fun _ R s => s.heap.get? l = some { cls := .type "tuple", data := .seq items n } ∧ s.heap.get? b = some { cls := .type "object" } ∧ R (.ok (.ret .notImplemented)) s) :=
  .of_wp fun prog w A R s h => by obtain ⟨hp, g, d, tk, os⟩ := s; obtain ⟨hl, hb, h⟩ := h; have f1 := F.sub_object_tuple; wp_walk using wpAny_loadPart' hl, wpAny_loadPart' hb; exact ⟨_, rfl, h⟩
theorem object_eq_declines (l b : Addr) (items : Array Value) (n : Nat) (hne : b ≠ l) :
    Meets (Builtin.«object.__eq__» ⟨[.ref b, .ref l], []⟩) (fun _ R s => s.heap.get? l = some { cls := .type "tuple", data := .seq items n } ∧ s.heap.get? b = some { cls := .type "object" } ∧ R (.ok (.ret .notImplemented)) s) :=
  .of_wp fun prog w A R s h => by
    obtain ⟨hl, hb, h⟩ := h
    refine objEq_entry_other hne hb hl (by simp) ?_
    exact ⟨_, rfl, h⟩

theorem rc_obj_tup {A : Around} {s : Shared} {a b : Addr} {items : Array Value} {n : Nat} (ho : s.heap.get? a = some { cls := .type "object" }) (hb : s.heap.get? b = some { cls := .type "tuple", data := .seq items n }) (hu : A.units < cLine) : SeqAt.RcAt A s (.ref a) (.ref b) false := by
  intro prog w E Q h
  have ta : s.TypeIs (.ref a) "object" := ⟨_, ho, rfl⟩
  have tb : s.TypeIs (.ref b) "tuple" := ⟨_, hb, rfl⟩
  have hne : a ≠ b := fun e => by rw [e, hb] at ho; simp at ho
  have h1 := F.slot_object_eq
  have h2 := F.slot_tuple_eq_refl
  rcases hi : cmpInfo CmpOp.Eq with ⟨sym, f, r⟩
  rw [hi] at h1 h2
  simp only [richCompare, hi, ta.oneThing_none]
  try with_reducible refine wpAny_holding ?_
  refine wpAny_bind (wpAny_cRoomFor_or (.inr hu) ?_)
  refine wpAny_bind (wpAny_typeOf ta (wpAny_bind (wpAny_typeOf tb ?_)))
  rw [if_pos (by decide)]
  refine wpAny_bind (wpAny_of_eq F.sub_tuple_object ?_)
  simp only [if_true, Bool.not_true, Bool.false_eq_true, if_false]
  refine wpAny_bind (m := tryCompare (.ref b) _ (.ref a)) (wpAny_tryCompare_declines tb h2 (call_meets F.slot_tuple_eq_refl tb F.entry_tuple_eq (F.args_tuple_eq_2 _ _) (tuple_eq_declines_object b a items n) ⟨hb, ho, rfl, ?_⟩))
  refine wpAny_bind (m := tryCompare (.ref a) _ (.ref b)) (wpAny_tryCompare_declines ta h1 (call_meets F.slot_object_eq ta F.entry_object_eq (F.args_object_eq_2 _ _) (object_eq_declines b a items n hne) ⟨hb, ho, rfl, ?_⟩))
  exact wpAny_bind (wpAny_rule (wpAny_bind (wpAny_isSame_ref_other hne ho hb (by simp) (wpAny_pure h))))

/-- of one shape, as far as they are compared -/
def sim : Nat → D → D → Bool
  | _, .int _, .int _ => true
  | n + 1, .tup ds, .tup es => (ds.zip es).all fun p => sim n p.1 p.2
  | n + 1, .lst ds, .lst es => (ds.zip es).all fun p => sim n p.1 p.2
  | _, .d0, .d0 => true
  | _, .d0, .d2 _ _ => true
  | _, .d2 _ _, .d0 => true
  | n + 1, .d2 f g, .d2 f' g' => sim n f f' && sim n g g'
  | _, .obj _, .tup _ => true
  | _, _, _ => false

theorem zip_get {α β : Type} {ds : List α} {es : List β} {p : α → β → Bool} (h : ((ds.zip es).all fun q => p q.1 q.2) = true) (j : Nat) (d : α) (e : β) (h1 : ds[j]? = some d) (h2 : es[j]? = some e) : p d e = true := by
  refine List.all_eq_true.mp h (d, e) ?_
  rw [List.mem_iff_getElem?]
  exact ⟨j, by rw [List.getElem?_zip_eq_some]; exact ⟨h1, h2⟩⟩

theorem repL_unique {h : Heap} {ex ex' : List Addr} {n : Nat} (ih : ∀ d e v, sim n d e = true → Rep C h ex d v → Rep C h ex' e v → d = e) : ∀ (ds es : List D) (vs : List Value), ((ds.zip es).all fun q => sim n q.1 q.2) = true → RepL C h ex ds vs → RepL C h ex' es vs → ds = es
  | [], es, vs, _, r, r' => by
    simp only [RepL] at r; subst r
    have := r'.length
    simp at this
    exact (List.length_eq_zero_iff.mp this.symm).symm
  | d :: ds, [], vs, _, r, r' => by
    simp only [RepL] at r'; subst r'
    have := r.length
    simp at this
  | d :: ds, e :: es, vs, hs, r, r' => by
    simp only [RepL] at r r'
    obtain ⟨v, q, e1, r1, r2⟩ := r
    obtain ⟨v', q', e1', r1', r2'⟩ := r'
    rw [e1] at e1'
    cases e1'
    simp only [List.zip_cons_cons, List.all_cons, Bool.and_eq_true] at hs
    rw [ih d e v hs.1 r1 r1', repL_unique ih ds es q hs.2 r2 r2']

theorem rep_unique {h : Heap} {ex ex' : List Addr} : ∀ (n : Nat) (d e : D) (v : Value), sim n d e = true → Rep C h ex d v → Rep C h ex' e v → d = e := by
  intro n
  induction n with
  | zero =>
    intro d e v hs r r'
    cases d <;> cases e <;> simp only [sim, Bool.false_eq_true] at hs <;> simp only [Rep] at r r'
    case int.int i j => obtain ⟨t, rfl⟩ := r; obtain ⟨t', h⟩ := r'; cases h; rfl
    case d0.d2 f g =>
      obtain ⟨a, rfl, _, s1, q⟩ := r
      obtain ⟨b, x, y, e, _, s2, q', _⟩ := r'
      cases e
      obtain ⟨_, o, ep, ho, _, hd⟩ := dict0_of s1 q
      obtain ⟨_, o', ep', _, _, _, _, ho', _, hd'⟩ := dict2_of s2 q'
      rw [ho] at ho'; cases ho'; rw [hd] at hd'; cases hd'
    case d2.d0 f g =>
      obtain ⟨a, rfl, _, s1, q⟩ := r'
      obtain ⟨b, x, y, e, _, s2, q', _⟩ := r
      cases e
      obtain ⟨_, o, ep, ho, _, hd⟩ := dict0_of s1 q
      obtain ⟨_, o', ep', _, _, _, _, ho', _, hd'⟩ := dict2_of s2 q'
      rw [ho] at ho'; cases ho'; rw [hd] at hd'; cases hd'
    case obj.tup a l =>
      obtain ⟨rfl, _, ho⟩ := r
      obtain ⟨b, vs, n, e, _, hb, _⟩ := r'
      cases e
      rw [ho] at hb; simp [tupObj] at hb
    all_goals rfl
  | succ n ih =>
    intro d e v hs r r'
    cases d <;> cases e <;> simp only [sim, Bool.false_eq_true] at hs <;> simp only [Rep] at r r'
    case int.int i j => obtain ⟨t, rfl⟩ := r; obtain ⟨t', h⟩ := r'; cases h; rfl
    case tup.tup ds es =>
      obtain ⟨a, vs, m, rfl, _, ha, r⟩ := r
      obtain ⟨b, us, m', e, _, hb, r'⟩ := r'
      cases e
      rw [ha] at hb
      have e2 : vs = us := by simpa [tupObj] using congrArg (fun o => match o with | some (o : Obj) => (match o.data with | .seq xs _ => xs.toList | _ => []) | none => []) hb
      subst e2
      rw [repL_unique (ih · · ·) ds es vs hs r r']
    case lst.lst ds es =>
      obtain ⟨a, vs, m, rfl, _, ha, r⟩ := r
      obtain ⟨b, us, m', e, _, hb, r'⟩ := r'
      cases e
      rw [ha] at hb
      have e2 : vs = us := by simpa [lstObj] using congrArg (fun o => match o with | some (o : Obj) => (match o.data with | .seq xs _ => xs.toList | _ => []) | none => []) hb
      subst e2
      rw [repL_unique (ih · · ·) ds es vs hs r r']
    case d0.d2 f g =>
      obtain ⟨a, rfl, _, s1, q⟩ := r
      obtain ⟨b, x, y, e, _, s2, q', _⟩ := r'
      cases e
      obtain ⟨_, o, ep, ho, _, hd⟩ := dict0_of s1 q
      obtain ⟨_, o', ep', _, _, _, _, ho', _, hd'⟩ := dict2_of s2 q'
      rw [ho] at ho'; cases ho'; rw [hd] at hd'; cases hd'
    case d2.d0 f g =>
      obtain ⟨a, rfl, _, s1, q⟩ := r'
      obtain ⟨b, x, y, e, _, s2, q', _⟩ := r
      cases e
      obtain ⟨_, o, ep, ho, _, hd⟩ := dict0_of s1 q
      obtain ⟨_, o', ep', _, _, _, _, ho', _, hd'⟩ := dict2_of s2 q'
      rw [ho] at ho'; cases ho'; rw [hd] at hd'; cases hd'
    case d2.d2 f g f' g' =>
      obtain ⟨a, x, y, rfl, _, s1, q, rf, rg⟩ := r
      obtain ⟨b, x', y', e, _, s2, q', rf', rg'⟩ := r'
      cases e
      obtain ⟨_, o, ep, _, _, _, _, ho, _, hd⟩ := dict2_of s1 q
      obtain ⟨_, o', ep', _, _, _, _, ho', _, hd'⟩ := dict2_of s2 q'
      rw [ho] at ho'; cases ho'; rw [hd] at hd'; cases hd'
      simp only [Bool.and_eq_true] at hs
      rw [ih f f' x hs.1 rf rf', ih g g' y hs.2 rg rg']
    case obj.tup a l =>
      obtain ⟨rfl, _, ho⟩ := r
      obtain ⟨b, vs, n, e, _, hb, _⟩ := r'
      cases e
      rw [ho] at hb; simp [tupObj] at hb
    all_goals rfl

open Classical in
theorem seqEq {ds es : List D} {e : Nat → Bool} (he : ∀ j d d', ds[j]? = some d → es[j]? = some d' → e j = decide (d = d')) : ((List.range (min ds.length es.length)).all e && (ds.length == es.length)) = decide (ds = es) := by
  by_cases q : ds = es
  · subst q
    rw [decide_eq_true rfl]
    simp only [Nat.min_self, beq_self_eq_true, Bool.and_true, List.all_eq_true, List.mem_range]
    intro j hj
    rw [he j _ _ (List.getElem?_eq_getElem hj) (List.getElem?_eq_getElem hj)]
    exact decide_eq_true rfl
  · rw [decide_eq_false q]
    by_cases hl : ds.length = es.length
    · rw [hl, beq_self_eq_true, Bool.and_true]
      refine Bool.eq_false_iff.mpr fun ha => q ?_
      refine List.ext_getElem hl fun j h1 h2 => ?_
      have := List.all_eq_true.mp ha j (by simp; omega)
      rw [he j _ _ (List.getElem?_eq_getElem h1) (List.getElem?_eq_getElem h2)] at this
      exact of_decide_eq_true this
    · rw [show (ds.length == es.length) = false by simpa using hl, Bool.and_false]

theorem tup_at {h : Heap} {a : Addr} {vs : List Value} {n : Nat} (e : h.get? a = some (tupObj vs n)) : h.IsTuple a vs.toArray := ⟨_, e, rfl, n, rfl⟩
theorem lst_at {h : Heap} {a : Addr} {vs : List Value} {n : Nat} (e : h.get? a = some (lstObj vs n)) : h.IsList a vs.toArray := ⟨_, e, rfl, n, rfl⟩

open Classical in
theorem eq_at : ∀ (n : Nat) (d e : D) (A : Around) (s : Shared) (ex ex' : List Addr) (v u : Value), sim n d e = true → Rep C s.heap ex d v → Rep C s.heap ex' e u → A.units + n + 1 < cLine → SeqAt.EqAt A s v u (decide (d = e)) := by
  have items : ∀ (n : Nat), (∀ (d e : D) (A : Around) (s : Shared) (ex ex' : List Addr) (v u : Value), sim n d e = true → Rep C s.heap ex d v → Rep C s.heap ex' e u → A.units + n + 1 < cLine → SeqAt.EqAt A s v u (decide (d = e))) →
      ∀ (ds es : List D) (A : Around) (s : Shared) (ex ex' : List Addr) (vs us : List Value), ((ds.zip es).all fun q => sim n q.1 q.2) = true → RepL C s.heap ex ds vs → RepL C s.heap ex' es us → A.units + n + 1 < cLine →
      ∀ j (h1 : j < vs.toArray.size) (h2 : j < us.toArray.size), SeqAt.EqAt A s vs.toArray[j] us.toArray[j] (match ds[j]?, es[j]? with | some d, some d' => decide (d = d') | _, _ => false) := by
    intro n ih ds es A s ex ex' vs us hs r r' hu j h1 h2
    have h1' : j < vs.length := by simpa using h1
    have h2' : j < us.length := by simpa using h2
    obtain ⟨d, hd, rd⟩ := r.get' j vs[j] (List.getElem?_eq_getElem h1')
    obtain ⟨e, he, re⟩ := r'.get' j us[j] (List.getElem?_eq_getElem h2')
    rw [hd, he]
    simpa using ih d e A s ex ex' _ _ (zip_get hs j d e hd he) rd re hu
  have dicts : ∀ (A : Around) (s : Shared) (a b : Addr) (x y x' y' : Value) (p q : Bool), A.units < cLine → Dict2 s.heap a x y → Dict2 s.heap b x' y' → SeqAt.EqAt A.in1 s x x' p → SeqAt.EqAt A.in1 s y y' q → SeqAt.RcAt A s (.ref a) (.ref b) (p && q) := by
    intro A s a b x y x' y' p q hu da db e1 e2
    obtain ⟨_, oa, _, _, _, _, _, ha, ca, _⟩ := id da
    obtain ⟨_, ob, _, _, _, _, _, hb, cb, _⟩ := id db
    exact rc_dict ha ca hb cb hu fun prog w E Q hq => same22 da db e1 e2 prog w E Q hq
  intro n
  induction n with
  | zero =>
    intro d e A s ex ex' v u hs r r' hu
    cases d <;> cases e <;> simp only [sim, Bool.false_eq_true] at hs <;> simp only [Rep] at r r'
    case int.int i j =>
      obtain ⟨t, rfl⟩ := r; obtain ⟨t', rfl⟩ := r'
      have := SeqAt.EqAt.int_int (A := A) (s := s) i t j t'
      have e : (i == j) = decide (D.int i = D.int j) := by by_cases q : i = j <;> simp [q]
      rw [e] at this; exact this
    case d0.d0 =>
      obtain ⟨a, rfl, _, s1, q⟩ := r
      obtain ⟨b, rfl, _, s2, q'⟩ := r'
      by_cases hab : a = b
      · subst hab; rw [decide_eq_true rfl]; exact .same _
      · obtain ⟨_, oa, ep, ho, hc, hd⟩ := id (dict0_of s1 q)
        obtain ⟨_, ob, ep', ho', hc', hd'⟩ := id (dict0_of s2 q')
        rw [decide_eq_true rfl]
        exact .of_refs hab (rc_dict ho hc ho' hc' (by omega) fun prog w E Q hq => same00 (dict0_of s1 q) (dict0_of s2 q') prog w E Q hq)
    case d0.d2 f g =>
      obtain ⟨a, rfl, _, s1, q⟩ := r
      obtain ⟨b, x, y, rfl, _, s2, q', _⟩ := r'
      obtain ⟨_, o, ep, ho, hc, hd⟩ := dict0_of s1 q
      obtain ⟨_, o', ep', _, _, _, _, ho', hc', hd'⟩ := dict2_of s2 q'
      rw [decide_eq_false nofun]
      refine .of_refs (fun e => ?_) (rc_dict ho hc ho' hc' (by omega) fun prog w E Q hq => same_sizes s1 s2 ho hd ho' hd' (by rfl) prog w E Q hq)
      subst e; rw [ho] at ho'; cases ho'; rw [hd] at hd'; cases hd'
    case d2.d0 f g =>
      obtain ⟨b, x, y, rfl, _, s2, q', _⟩ := r
      obtain ⟨a, rfl, _, s1, q⟩ := r'
      obtain ⟨_, o, ep, ho, hc, hd⟩ := dict0_of s1 q
      obtain ⟨_, o', ep', _, _, _, _, ho', hc', hd'⟩ := dict2_of s2 q'
      rw [decide_eq_false nofun]
      refine .of_refs (fun e => ?_) (rc_dict ho' hc' ho hc (by omega) fun prog w E Q hq => same_sizes s2 s1 ho' hd' ho hd (by rfl) prog w E Q hq)
      subst e; rw [ho] at ho'; cases ho'; rw [hd] at hd'; cases hd'
    case obj.tup a l =>
      obtain ⟨rfl, _, ho⟩ := r
      obtain ⟨b, vs, m, rfl, _, hb, _⟩ := r'
      rw [decide_eq_false nofun]
      exact .of_refs (fun e => by subst e; rw [ho] at hb; simp [tupObj] at hb) (rc_obj_tup ho hb (by omega))
  | succ n ih =>
    intro d e A s ex ex' v u hs r r' hu
    have hu1 : A.in1.units + n + 1 < cLine := by simp; omega
    have hu0 : A.units < cLine := by omega
    cases d <;> cases e <;> simp only [sim, Bool.false_eq_true] at hs <;> simp only [Rep] at r r'
    case int.int i j =>
      obtain ⟨t, rfl⟩ := r; obtain ⟨t', rfl⟩ := r'
      have := SeqAt.EqAt.int_int (A := A) (s := s) i t j t'
      have e : (i == j) = decide (D.int i = D.int j) := by by_cases q : i = j <;> simp [q]
      rw [e] at this; exact this
    case tup.tup ds es =>
      obtain ⟨a, vs, m, rfl, _, ha, r⟩ := r
      obtain ⟨b, us, m', rfl, _, hb, r'⟩ := r'
      by_cases hab : a = b
      · subst hab
        have : D.tup ds = D.tup es := rep_unique (n + 1) _ _ (.ref a) (by simpa only [sim] using hs) (by simp only [Rep]; exact ⟨a, vs, m, rfl, ‹_›, ha, r⟩) (by simp only [Rep]; exact ⟨a, us, m', rfl, ‹_›, hb, r'⟩)
        rw [decide_eq_true this]; exact .same _
      · refine .of_refs hab ?_
        have q := SeqAt.RcAt.tuples (tup_at ha) (tup_at hb) hu0 (items n ih ds es A.in1 s ex ex' vs us hs r r' hu1)
        simp only [List.size_toArray, r.length, r'.length] at q
        rw [seqEq (by intro j d d' h1 h2; rw [h1, h2])] at q
        have e2 : decide (ds = es) = decide (D.tup ds = D.tup es) := by by_cases q : ds = es <;> simp [q]
        rw [e2] at q
        exact q
    case lst.lst ds es =>
      obtain ⟨a, vs, m, rfl, _, ha, r⟩ := r
      obtain ⟨b, us, m', rfl, _, hb, r'⟩ := r'
      by_cases hab : a = b
      · subst hab
        have : D.lst ds = D.lst es := rep_unique (n + 1) _ _ (.ref a) (by simpa only [sim] using hs) (by simp only [Rep]; exact ⟨a, vs, m, rfl, ‹_›, ha, r⟩) (by simp only [Rep]; exact ⟨a, us, m', rfl, ‹_›, hb, r'⟩)
        rw [decide_eq_true this]; exact .same _
      · refine .of_refs hab ?_
        by_cases hl : ds.length = es.length
        · have q := SeqAt.RcAt.lists (lst_at ha) (lst_at hb) (by simp [r.length, r'.length, hl]) hu0 (items n ih ds es A.in1 s ex ex' vs us hs r r' hu1)
          have e1 := seqEq (ds := ds) (es := es) (e := fun j => match ds[j]?, es[j]? with | some d, some d' => decide (d = d') | _, _ => false) (by intro j d d' h1 h2; rw [h1, h2])
          rw [show (ds.length == es.length) = true by simpa using hl, Bool.and_true, hl, Nat.min_self] at e1
          simp only [List.size_toArray, r.length, hl] at q
          rw [e1] at q
          have e2 : decide (ds = es) = decide (D.lst ds = D.lst es) := by by_cases q : ds = es <;> simp [q]
          rw [e2] at q
          exact q
        · rw [decide_eq_false (fun q => hl (by cases q; rfl))]
          exact SeqAt.RcAt.lists_lengths (lst_at ha) (lst_at hb) (by simp [r.length, r'.length, hl]) hu0
    case d0.d0 =>
      obtain ⟨a, rfl, _, s1, q⟩ := r
      obtain ⟨b, rfl, _, s2, q'⟩ := r'
      by_cases hab : a = b
      · subst hab; rw [decide_eq_true rfl]; exact .same _
      · obtain ⟨_, oa, ep, ho, hc, hd⟩ := id (dict0_of s1 q)
        obtain ⟨_, ob, ep', ho', hc', hd'⟩ := id (dict0_of s2 q')
        rw [decide_eq_true rfl]
        exact .of_refs hab (rc_dict ho hc ho' hc' (by omega) fun prog w E Q hq => same00 (dict0_of s1 q) (dict0_of s2 q') prog w E Q hq)
    case d0.d2 f g =>
      obtain ⟨a, rfl, _, s1, q⟩ := r
      obtain ⟨b, x, y, rfl, _, s2, q', _⟩ := r'
      obtain ⟨_, o, ep, ho, hc, hd⟩ := dict0_of s1 q
      obtain ⟨_, o', ep', _, _, _, _, ho', hc', hd'⟩ := dict2_of s2 q'
      rw [decide_eq_false nofun]
      refine .of_refs (fun e => ?_) (rc_dict ho hc ho' hc' (by omega) fun prog w E Q hq => same_sizes s1 s2 ho hd ho' hd' (by rfl) prog w E Q hq)
      subst e; rw [ho] at ho'; cases ho'; rw [hd] at hd'; cases hd'
    case d2.d0 f g =>
      obtain ⟨b, x, y, rfl, _, s2, q', _⟩ := r
      obtain ⟨a, rfl, _, s1, q⟩ := r'
      obtain ⟨_, o, ep, ho, hc, hd⟩ := dict0_of s1 q
      obtain ⟨_, o', ep', _, _, _, _, ho', hc', hd'⟩ := dict2_of s2 q'
      rw [decide_eq_false nofun]
      refine .of_refs (fun e => ?_) (rc_dict ho' hc' ho hc (by omega) fun prog w E Q hq => same_sizes s2 s1 ho' hd' ho hd (by rfl) prog w E Q hq)
      subst e; rw [ho] at ho'; cases ho'; rw [hd] at hd'; cases hd'
    case d2.d2 f g f' g' =>
      obtain ⟨a, x, y, rfl, _, s1, q, rf, rg⟩ := r
      obtain ⟨b, x', y', rfl, _, s2, q', rf', rg'⟩ := r'
      simp only [Bool.and_eq_true] at hs
      by_cases hab : a = b
      · subst hab
        have : D.d2 f g = D.d2 f' g' := rep_unique (n + 1) _ _ (.ref a) (by simp only [sim, hs.1, hs.2]; rfl) (by simp only [Rep]; exact ⟨a, x, y, rfl, ‹_›, s1, q, rf, rg⟩) (by simp only [Rep]; exact ⟨a, x', y', rfl, ‹_›, s2, q', rf', rg'⟩)
        rw [decide_eq_true this]; exact .same _
      · have e1 : (decide (f = f') && decide (g = g')) = decide (D.d2 f g = D.d2 f' g') := by
          by_cases q : f = f' <;> by_cases q2 : g = g' <;> simp [q, q2]
        rw [← e1]
        exact .of_refs hab (dicts A s a b x y x' y' _ _ hu0 (dict2_of s1 q) (dict2_of s2 q') (ih f f' A.in1 s ex ex' x x' hs.1 rf rf' hu1) (ih g g' A.in1 s ex ex' y y' hs.2 rg rg' hu1))
    case obj.tup a l =>
      obtain ⟨rfl, _, ho⟩ := r
      obtain ⟨b, vs, m, rfl, _, hb, _⟩ := r'
      rw [decide_eq_false nofun]
      exact .of_refs (fun e => by subst e; rw [ho] at hb; simp [tupObj] at hb) (rc_obj_tup ho hb (by omega))
end Mine
namespace Mine
open PySem PySem.W PyProof.Rows PySem.Calls PySem.Spec

variable {C : Cfg} {k : Nat} {ec : EC} {σ : Sto}

open Classical in
theorem items_at {n : Nat} {ds es : List D} {A : Around} {s : Shared} {ex ex' : List Addr} {vs us : List Value} (hs : ((ds.zip es).all fun q => sim n q.1 q.2) = true) (r : RepL C s.heap ex ds vs) (r' : RepL C s.heap ex' es us) (hu : A.units + n + 1 < cLine) :
      ∀ j (h1 : j < vs.toArray.size) (h2 : j < us.toArray.size), SeqAt.EqAt A s vs.toArray[j] us.toArray[j] (match ds[j]?, es[j]? with | some d, some d' => decide (d = d') | _, _ => false) := by
    intro j h1 h2
    have h1' : j < vs.length := by simpa using h1
    have h2' : j < us.length := by simpa using h2
    obtain ⟨d, hd, rd⟩ := r.get' j vs[j] (List.getElem?_eq_getElem h1')
    obtain ⟨e, he, re⟩ := r'.get' j us[j] (List.getElem?_eq_getElem h2')
    rw [hd, he]
    simpa using eq_at n d e A s ex ex' _ _ (zip_get hs j d e hd he) rd re hu

theorem Pre.units {A : Around} {ex : List Addr} {s : Shared} (p : Pre C k A ex s) {n : Nat} (hn : n ≤ 90) : A.in1.units + n + 1 < cLine ∧ A.units < cLine := by
  have := p.room.units
  simp
  omega

open Classical in
theorem co_eq_tup {n : Nat} {ds es : List D} (hs : sim (n + 1) (.tup ds) (.tup es) = true) (hn : n ≤ 90) : Co C k .Eq (.tup ds) (.tup es) (decide (ds = es)) := by
  intro A ex s v u Q E p r1 r2 hQ
  simp only [Rep] at r1 r2
  obtain ⟨a, vs, m, rfl, _, ha, r⟩ := r1
  obtain ⟨b, us, m', rfl, _, hb, r'⟩ := r2
  obtain ⟨u1, u2⟩ := p.units hn
  have q := SeqAt.RcAt.tuples (tup_at ha) (tup_at hb) u2 (items_at (by simpa only [sim] using hs) r r' u1)
  simp only [List.size_toArray, r.length, r'.length] at q
  rw [seqEq (by intro j d d' h1 h2; rw [h1, h2])] at q
  exact q _ _ E Q (hQ s (.refl s))
open Classical in
theorem co_ne_tup {n : Nat} {ds es : List D} (hs : sim (n + 1) (.tup ds) (.tup es) = true) (hn : n ≤ 90) : Co C k .NotEq (.tup ds) (.tup es) (!decide (ds = es)) := by
  intro A ex s v u Q E p r1 r2 hQ
  simp only [Rep] at r1 r2
  obtain ⟨a, vs, m, rfl, _, ha, r⟩ := r1
  obtain ⟨b, us, m', rfl, _, hb, r'⟩ := r2
  obtain ⟨u1, u2⟩ := p.units hn
  have q := SeqAt.RcNeAt.tuples (tup_at ha) (tup_at hb) u2 (items_at (by simpa only [sim] using hs) r r' u1)
  simp only [List.size_toArray, r.length, r'.length] at q
  rw [seqEq (by intro j d d' h1 h2; rw [h1, h2])] at q
  exact q _ _ E Q (hQ s (.refl s))
theorem co_eq_obj {a : Addr} {es : List D} : Co C k .Eq (.obj a) (.tup es) false := by
  intro A ex s v u Q E p r1 r2 hQ
  simp only [Rep] at r1 r2
  obtain ⟨rfl, _, ho⟩ := r1
  obtain ⟨b, us, m', rfl, _, hb, r'⟩ := r2
  exact rc_obj_tup ho hb (p.units (n := 0) (by omega)).2 _ _ E Q (hQ s (.refl s))
open Classical in
theorem co_ne_lst {n : Nat} {ds es : List D} (hs : sim (n + 1) (.lst ds) (.lst es) = true) (hn : n ≤ 90) : Co C k .NotEq (.lst ds) (.lst es) (!decide (ds = es)) := by
  intro A ex s v u Q E p r1 r2 hQ
  simp only [Rep] at r1 r2
  obtain ⟨a, vs, m, rfl, _, ha, r⟩ := r1
  obtain ⟨b, us, m', rfl, _, hb, r'⟩ := r2
  obtain ⟨u1, u2⟩ := p.units hn
  by_cases hl : ds.length = es.length
  · have q := SeqAt.RcNeAt.lists (lst_at ha) (lst_at hb) (by simp [r.length, r'.length, hl]) u2 (items_at (by simpa only [sim] using hs) r r' u1)
    have e1 := seqEq (ds := ds) (es := es) (e := fun j => match ds[j]?, es[j]? with | some d, some d' => decide (d = d') | _, _ => false) (by intro j d d' h1 h2; rw [h1, h2])
    rw [show (ds.length == es.length) = true by simpa using hl, Bool.and_true, hl, Nat.min_self] at e1
    simp only [List.size_toArray, r.length, hl] at q
    rw [e1] at q
    exact q _ _ E Q (hQ s (.refl s))
  · have q := SeqAt.RcNeAt.lists_lengths (s := s) (lst_at ha) (lst_at hb) (by simp [r.length, r'.length, hl]) u2
    rw [decide_eq_false (fun q => hl (by rw [q]))] at hQ
    exact q _ _ E Q (hQ s (.refl s))
theorem co_eq_nil {ds : List D} : Co C k .Eq (.lst ds) (.lst []) ds.isEmpty := by
  intro A ex s v u Q E p r1 r2 hQ
  simp only [Rep] at r1 r2
  obtain ⟨a, vs, m, rfl, _, ha, r⟩ := r1
  obtain ⟨b, us, m', rfl, _, hb, r'⟩ := r2
  have hl := r'.length
  simp at hl
  subst hl
  have u2 := (p.units (n := 0) (by omega)).2
  cases ds with
  | nil =>
    have hl := r.length
    simp at hl
    subst hl
    have q := SeqAt.RcAt.lists (e := fun _ => true) (s := s) (lst_at ha) (lst_at hb) rfl u2 (fun j h1 _ => by simp at h1)
    exact q _ _ E Q (hQ s (.refl s))
  | cons d ds =>
    have hl := r.length
    have q := SeqAt.RcAt.lists_lengths (s := s) (lst_at ha) (lst_at hb) (by simp [hl]) u2
    exact q _ _ E Q (hQ s (.refl s))
theorem co_ne_nil {ds : List D} : Co C k .NotEq (.lst ds) (.lst []) (!ds.isEmpty) := by
  intro A ex s v u Q E p r1 r2 hQ
  simp only [Rep] at r1 r2
  obtain ⟨a, vs, m, rfl, _, ha, r⟩ := r1
  obtain ⟨b, us, m', rfl, _, hb, r'⟩ := r2
  have hl := r'.length
  simp at hl
  subst hl
  have u2 := (p.units (n := 0) (by omega)).2
  cases ds with
  | nil =>
    have hl := r.length
    simp at hl
    subst hl
    have q := SeqAt.RcNeAt.lists (e := fun _ => true) (s := s) (lst_at ha) (lst_at hb) rfl u2 (fun j h1 _ => by simp at h1)
    exact q _ _ E Q (hQ s (.refl s))
  | cons d ds =>
    have hl := r.length
    have q := SeqAt.RcNeAt.lists_lengths (s := s) (lst_at ha) (lst_at hb) (by simp [hl]) u2
    exact q _ _ E Q (hQ s (.refl s))

-- membership, count
section
open Classical
variable {h : Heap} {ex ex' : List Addr} {d : D} {n : Nat}
theorem any_rep {x : Value} (hx : Rep C h ex d x) : ∀ {ds : List D} {vs : List Value}, (∀ d' ∈ ds, sim n d' d = true) → RepL C h ex ds vs → vs.any (fun y => decide (Rep C h ex d y)) = decide (d ∈ ds)
  | [], vs, _, r => by simp only [RepL] at r; subst r; simp
  | d' :: ds, vs, hs, r => by
    simp only [RepL] at r
    obtain ⟨v, q, rfl, r1, r2⟩ := r
    rw [List.any_cons, any_rep hx (fun e he => hs e (.tail _ he)) r2]
    by_cases e : d' = d
    · subst e; rw [decide_eq_true r1]; simp
    · rw [decide_eq_false (fun r3 => e (rep_unique n d' d v (hs _ (.head _)) r1 r3))]
      simp [Ne.symm e]
theorem count_rep {x : Value} (hx : Rep C h ex d x) : ∀ {ds : List D} {vs : List Value}, (∀ d' ∈ ds, sim n d' d = true) → RepL C h ex ds vs → vs.countP (fun y => decide (Rep C h ex d y)) = ds.countP fun d' => decide (d' = d)
  | [], vs, _, r => by simp only [RepL] at r; subst r; simp
  | d' :: ds, vs, hs, r => by
    simp only [RepL] at r
    obtain ⟨v, q, rfl, r1, r2⟩ := r
    rw [List.countP_cons, List.countP_cons, count_rep hx (fun e he => hs e (.tail _ he)) r2]
    by_cases e : d' = d
    · subst e; rw [decide_eq_true r1]; simp
    · rw [decide_eq_false (fun r3 => e (rep_unique n d' d v (hs _ (.head _)) r1 r3))]
      simp [e]
theorem mem_rep : ∀ {ds : List D} {vs : List Value}, RepL C h ex ds vs → ∀ y ∈ vs, ∃ d' ∈ ds, Rep C h ex d' y
  | [], vs, r, y, hy => by simp only [RepL] at r; subst r; simp at hy
  | d' :: ds, vs, r, y, hy => by
    simp only [RepL] at r
    obtain ⟨v, q, rfl, r1, r2⟩ := r
    rcases List.mem_cons.mp hy with rfl | hy
    · exact ⟨d', .head _, r1⟩
    · obtain ⟨e, he, re⟩ := mem_rep r2 y hy
      exact ⟨e, .tail _ he, re⟩
theorem eqs_rep {A : Around} {s : Shared} {x : Value} (hx : Rep C s.heap ex d x) {ds : List D} {vs : List Value} (hs : ∀ d' ∈ ds, sim n d' d = true) (r : RepL C s.heap ex ds vs) (hu : A.units + n + 1 < cLine) :
    ∀ y, y ∈ vs.toArray → SeqAt.EqAt A s y x (decide (Rep C s.heap ex d y)) := by
  intro y hy
  obtain ⟨d', hd', r1⟩ := mem_rep r y (by simpa using hy)
  have q := eq_at n d' d A s ex ex y x (hs _ hd') r1 hx hu
  by_cases e : d' = d
  · subst e
    rw [decide_eq_true r1]; rw [decide_eq_true rfl] at q; exact q
  · rw [decide_eq_false (fun r3 => e (rep_unique n d' d y (hs _ hd') r1 r3))]
    rw [decide_eq_false e] at q; exact q
theorem co_in {n : Nat} {d : D} {ds : List D} (hs : ∀ d' ∈ ds, sim n d' d = true) (hn : n ≤ 90) : Co C k .In d (.lst ds) (decide (d ∈ ds)) := by
  intro A ex s v u Q E p r1 r2 hQ
  simp only [Rep] at r2
  obtain ⟨b, us, m', rfl, _, hb, r'⟩ := r2
  refine SeqAt.in_listAt _ (lst_at hb) (eqs_rep r1 hs r' (p.units hn).1) ?_
  rw [List.any_toArray, any_rep r1 hs r']
  exact hQ s (.refl s)
theorem co_notin {n : Nat} {d : D} {ds : List D} (hs : ∀ d' ∈ ds, sim n d' d = true) (hn : n ≤ 90) : Co C k .NotIn d (.lst ds) (!decide (d ∈ ds)) := by
  intro A ex s v u Q E p r1 r2 hQ
  simp only [Rep] at r2
  obtain ⟨b, us, m', rfl, _, hb, r'⟩ := r2
  refine SeqAt.notIn_listAt _ (lst_at hb) (eqs_rep r1 hs r' (p.units hn).1) ?_
  rw [List.any_toArray, any_rep r1 hs r']
  exact hQ s (.refl s)
end

/-- a value whose object is a list of data, an own one too -/
def El (C : Cfg) (k : Nat) (ec : EC) (σ : Sto) (e : Expr) (ds : List D) : Prop :=
  ∀ (A : Around) (W : List Str) (env : Env) (h₀ : Heap) (ex : List Addr) (s : Shared) (Q : Value → Shared → Prop) (E : Value → Shared → Prop),
    Room k A → EnvOK ec env → Sta C ec W env h₀ ex σ s.heap →
    (∀ a vs n s', Go C s s' → s'.heap.get? a = some (lstObj vs n) → RepL C s'.heap (exOf env σ ex) ds vs → Q (.ref a) s') →
    wpAny (model C.prog C.w) A (eval e env) Q E s
theorem el_ev {e : Expr} {ds : List D} (h : Ev C k ec σ e (.lst ds)) : El C k ec σ e ds := by
  intro A W env h₀ ex s Q E hr he S hQ
  refine h _ _ _ _ _ _ _ _ hr he S fun v s1 g1 r1 => ?_
  simp only [Rep] at r1
  obtain ⟨a, vs, n, rfl, _, ha, r⟩ := r1
  exact hQ _ _ _ _ g1 ha r
theorem name_wp {x : Str} {v : Value} {pos : Pos} {A : Around} {W : List Str} {env : Env} {h₀ : Heap} {ex : List Addr} {s : Shared} {Q : Value → Shared → Prop} {E : Value → Shared → Prop} (he : EnvOK ec env) (V : VarAt ec env s.heap x v) (h1 : (x == ("__debug__" : Str)) = false) (h2 : (x == ("__classdict__" : Str)) = false) (hQ : Q v s) :
    wpAny (model C.prog C.w) A (eval (.Name x pos) env) Q E s := by
  refine wpAny_Name ?_ h1
  have hk : env.scope.kind = .function := by rw [he.sc]; exact he.kind
  have hq : ∀ q, ec.kind x = some q → env.kindOf x = some q := fun q e => by unfold Env.kindOf; rw [he.sc]; exact e
  rcases V with ⟨e, m, hn, hm⟩ | ⟨e | e, c, hc, hi⟩
  · exact wpAny_loadName_local hk (hq _ e) hn hm hQ
  · exact wpAny_loadName_cell hk (hq _ e) hc hi hQ
  · exact wpAny_loadName_free hk (hq _ e) hc hi hQ h2
theorem el_own {x : Str} {a : Addr} {ds : List D} {pos : Pos} (hx : σ.lookup x = some (.own a ds)) (h1 : (x == ("__debug__" : Str)) = false) (h2 : (x == ("__classdict__" : Str)) = false) : El C k ec σ (.Name x pos) ds := by
  intro A W env h₀ ex s Q E hr he S hQ
  obtain ⟨V, _, vs, n, ha, r⟩ := S.slots _ _ hx
  exact name_wp (W := W) (h₀ := h₀) (ex := ex) he V h1 h2 (hQ _ _ _ _ (.refl s) ha r)

/-- subscripts -/
theorem ev_item {e i : Expr} {ds : List D} {n : Int} {d : D} {pos : Pos} (h1 : El C k ec σ e ds) (h2 : Ev C k ec σ i (.int n)) (h0 : 0 ≤ n) (hd : ds[n.toNat]? = some d) (hl : ds.length ≤ 2 ^ 40)
    (hs : ∀ (o : Addr) (q : Int) (u : Tok), subscripted i false (.ref o) (.int q u) = operate [.ref o, .int q u] (getItem (.ref o) (.int q u))) : Ev C k ec σ (.Subscript e i pos) d := by
  intro A W env h₀ ex s Q E hr he S hQ
  refine Subscript_ (h1 _ _ _ _ _ _ _ _ hr he S fun a vs m s1 g1 ha r => ?_)
  refine h2 _ _ _ _ _ _ _ _ hr he (S.go g1) fun u s2 g2 r2 => ?_
  simp only [Rep] at r2
  obtain ⟨t, rfl⟩ := r2
  have T1 := (S.go g1).tab
  have ha2 := g2.ext _ _ (T1.ne ha nofun) ha
  obtain ⟨v, hv, rv⟩ := (r.go g2 T1).get _ _ hd
  have hlt : n.toNat < ds.length := by
    rcases Nat.lt_or_ge n.toNat ds.length with q | q
    · exact q
    · rw [List.getElem?_eq_none q] at hd; cases hd
  refine tail_any (lst_at ha2).typeIs slot_list_getitem.lookup (wpAny_getItem_list (lst_at ha2) h0 (by omega) (by simpa using hv) (hQ _ _ (g1.trans g2) rv)) (hs _ _ _)
theorem ev_item_neg {e i : Expr} {ds : List D} {n : Int} {j : Nat} {d : D} {pos : Pos} (h1 : El C k ec σ e ds) (h2 : Ev C k ec σ i (.int n)) (h0 : n < 0) (hn : -(2 ^ 63) ≤ n) (hj : seqIndex? n ds.length = some j) (hd : ds[j]? = some d)
    (hs : ∀ (o : Addr) (q : Int) (u : Tok), subscripted i false (.ref o) (.int q u) = operate [.ref o, .int q u] (getItem (.ref o) (.int q u))) : Ev C k ec σ (.Subscript e i pos) d := by
  intro A W env h₀ ex s Q E hr he S hQ
  refine Subscript_ (h1 _ _ _ _ _ _ _ _ hr he S fun a vs m s1 g1 ha r => ?_)
  refine h2 _ _ _ _ _ _ _ _ hr he (S.go g1) fun u s2 g2 r2 => ?_
  simp only [Rep] at r2
  obtain ⟨t, rfl⟩ := r2
  have T1 := (S.go g1).tab
  have ha2 := g2.ext _ _ (T1.ne ha nofun) ha
  obtain ⟨v, hv, rv⟩ := (r.go g2 T1).get _ _ hd
  exact kde_neg (lst_at ha2) h0 hn (by rw [r.length]; exact hj) hv (hQ _ _ (g1.trans g2) rv) (hs _ _ _)
theorem ev_titem {e i : Expr} {ds : List D} {n : Int} {d : D} {pos : Pos} (h1 : Ev C k ec σ e (.tup ds)) (h2 : Ev C k ec σ i (.int n)) (h0 : 0 ≤ n) (hd : ds[n.toNat]? = some d) (hl : ds.length ≤ 2 ^ 40)
    (hs : ∀ (o : Addr) (q : Int) (u : Tok), subscripted i false (.ref o) (.int q u) = operate [.ref o, .int q u] (getItem (.ref o) (.int q u))) : Ev C k ec σ (.Subscript e i pos) d := by
  intro A W env h₀ ex s Q E hr he S hQ
  refine Subscript_ (h1 _ _ _ _ _ _ _ _ hr he S fun v s1 g1 r => ?_)
  simp only [Rep] at r
  obtain ⟨a, vs, m, rfl, _, ha, r⟩ := r
  refine h2 _ _ _ _ _ _ _ _ hr he (S.go g1) fun u s2 g2 r2 => ?_
  simp only [Rep] at r2
  obtain ⟨t, rfl⟩ := r2
  have T1 := (S.go g1).tab
  have ha2 := g2.ext _ _ (T1.ne ha nofun) ha
  obtain ⟨v, hv, rv⟩ := (r.go g2 T1).get _ _ hd
  have hlt : n.toNat < ds.length := by
    rcases Nat.lt_or_ge n.toNat ds.length with q | q
    · exact q
    · rw [List.getElem?_eq_none q] at hd; cases hd
  refine item_tupleT (j := n.toNat) (tup_at ha2) (by omega) (by omega) ?_ hv (hQ _ _ (g1.trans g2) rv) (hs _ _ _)
  have hv2 : n.toNat < vs.length := by rw [r.length]; exact hlt
  unfold seqIndex?
  simp only [if_neg (show ¬ n < 0 by omega)]
  rw [if_pos (by simp only [Bool.and_eq_true, decide_eq_true_eq]; omega)]
end Mine
namespace Mine
open PySem PySem.W PyProof.Rows PySem.Calls PySem.Spec

variable {C : Cfg} {k : Nat} {ec : EC} {σ : Sto} {W : List Str} {env : Env} {h₀ h₁ h h' : Heap} {ex ex' : List Addr}

theorem Sta.notP (S : Sta C ec W env h₀ ex σ h) {a : Addr} (ha : h₀.get? a = none) : a ≠ C.P := fun e => by
  obtain ⟨ps, hp, _⟩ := S.t0
  rw [e, hp] at ha; cases ha
theorem keep_ext {a : Addr} {P : Addr} (e : Heap.ExtBut P h₀ h) (ha : h₀.get? a = none) (hk : ∀ b o, b ≠ a → h.get? b = some o → h'.get? b = some o) : Heap.ExtBut P h₀ h' := fun b o hb q =>
  hk b o (fun e => by rw [e, ha] at q; cases q) (e b o hb q)

/-- addresses apart from the frame and the cells, new and left out of all data -/
structure Side (ec : EC) (env : Env) (h₀ : Heap) (ex ws : List Addr) : Prop where
  ex : ∀ a ∈ ws, a ∈ ex
  new : ∀ a ∈ ws, h₀.get? a = none
  loc : env.locals ∉ ws
  cells : ∀ x c, env.cells.lookup x = some c → c ∉ ws

theorem VarAt.side {ws : List Addr} {x : Str} {v : Value} (V : VarAt ec env h x v) (D : Side ec env h₀ ex ws) (hk : ∀ b o, b ∉ ws → h.get? b = some o → h'.get? b = some o) : VarAt ec env h' x v := by
  rcases V with ⟨hx, m, ⟨o, es, ep, ho, r⟩, hm⟩ | ⟨hx, c, hc, o, ho, hd⟩
  · exact .inl ⟨hx, m, ⟨o, es, ep, hk _ _ D.loc ho, r⟩, hm⟩
  · exact .inr ⟨hx, c, hc, o, hk _ _ (D.cells _ _ hc) ho, hd⟩

theorem Sta.side {ws : List Addr} (S : Sta C ec W env h₀ ex σ h) (D : Side ec env h₀ ex ws) (hk : ∀ b o, b ∉ ws → h.get? b = some o → h'.get? b = some o) (hl : ∀ a ∈ ws, h'.get? a ≠ none) : Sta C ec W env h₀ ex σ h' := by
  have hP : C.P ∉ ws := fun m => S.notP (D.new _ m) rfl
  have hex : ∀ b, b ∉ exOf env σ ex → b ∉ ws := fun b hb m => hb (List.mem_cons_of_mem _ (List.mem_append_right _ (D.ex _ m)))
  have hmv : ∀ b o, b ∉ exOf env σ ex → h.get? b = some o → Solid o → h'.get? b = some o ∧ b ∉ exOf env σ ex := fun b o hb e _ => ⟨hk _ _ (hex b hb) e, hb⟩
  have hown : ∀ x a ds, σ.lookup x = some (.own a ds) → a ∉ ws := fun x a ds e m => by
    have hm : a ∈ owns σ := by
      obtain ⟨l1, l2, rfl, _⟩ := List.lookup_eq_some_iff.mp e
      simp [owns, Slot.addr]
    exact (List.nodup_append.mp (List.nodup_cons.mp S.nodup).2).2.2 a hm a (D.ex _ m) rfl
  have hgho : ∀ x a ds, σ.lookup x = some (.gho a ds) → a ∉ ws := fun x a ds e m => by
    have hm : a ∈ owns σ := by
      obtain ⟨l1, l2, rfl, _⟩ := List.lookup_eq_some_iff.mp e
      simp [owns, Slot.addr]
    exact (List.nodup_append.mp (List.nodup_cons.mp S.nodup).2).2.2 a hm a (D.ex _ m) rfl
  have hownd : ∀ x a ds, σ.lookup x = some (.ownd a ds) → a ∉ ws := fun x a ds e m => by
    have hm : a ∈ owns σ := by
      obtain ⟨l1, l2, rfl, _⟩ := List.lookup_eq_some_iff.mp e
      simp [owns, Slot.addr]
    exact (List.nodup_append.mp (List.nodup_cons.mp S.nodup).2).2.2 a hm a (D.ex _ m) rfl
  exact {
    base := fun b o hb e => hk b o (fun m => by rw [D.new b m] at e; cases e) (S.base b o hb e)
    g0 := S.g0
    t0 := S.t0
    tab := S.tab.keeps fun o e => hk _ _ hP e
    ns := let ⟨m, o, es, ep, ho, r⟩ := S.ns; ⟨m, o, es, ep, hk _ _ D.loc ho, r⟩
    newL := S.newL
    wr := fun x hx => let ⟨q, c, v, hc, ⟨o, ho, hd⟩, hn⟩ := S.wr x hx; ⟨q, c, v, hc, ⟨o, hk _ _ (D.cells _ _ hc) ho, hd⟩, hn⟩
    apart := S.apart
    cells := fun x c hc => let ⟨v, o, ho, hd⟩ := S.cells x c hc; ⟨v, o, hk _ _ (D.cells _ _ hc) ho, hd⟩
    slots := fun x sl hx => by
      have q := S.slots x sl hx
      cases sl with
      | dat d => obtain ⟨v, V, r⟩ := q; exact ⟨v, V.side D hk, Rep.move hmv d v r⟩
      | own a ds => obtain ⟨V, hn, vs, n, ha, r⟩ := q; exact ⟨V.side D hk, hn, vs, n, hk _ _ (hown x a ds hx) ha, RepL.move hmv ds vs r⟩
      | ownd a kvs =>
        obtain ⟨V, hn, hs, us, ha, r⟩ := q
        exact ⟨V.side D hk, hn, hs, us, dictOf_move ha fun o ho _ => hk _ _ (hownd x a kvs hx) ho, RepL.move hmv _ us r⟩
      | gho a ds => obtain ⟨hn, vs, n, ha, r⟩ := q; exact ⟨hn, vs, n, hk _ _ (hgho x a ds hx) ha, RepL.move hmv ds vs r⟩
    nodup := S.nodup
    proper := S.proper
    alive := fun a ha => by
      by_cases m : a ∈ ws
      · exact hl a m
      · cases q : h.get? a with
        | none => exact absurd q (S.alive a ha)
        | some o => rw [hk a o m q]; nofun }

/-- another base -/
theorem Sta.base' (S : Sta C ec W env h₁ ex σ h) (hb : Heap.ExtBut C.P h₀ h) (g0 : G1 C h₀) (t0 : TabOK C h₀)
    (hn : ∀ a, a ≠ C.P → h₁.get? a = none → h₀.get? a = none) : Sta C ec W env h₀ ex σ h where
  base := hb
  g0 := g0
  t0 := t0
  tab := S.tab
  ns := S.ns
  newL := hn _ (S.notP S.newL) S.newL
  wr := fun x hx => let ⟨q, c, v, hc, hi, hq⟩ := S.wr x hx; ⟨q, c, v, hc, hi, hn _ (S.notP hq) hq⟩
  apart := S.apart
  cells := S.cells
  slots := fun x sl hx => by
    have q := S.slots x sl hx
    cases sl with
    | dat d => exact q
    | own a ds => obtain ⟨V, hq, r⟩ := q; exact ⟨V, hn _ (S.notP hq) hq, r⟩
    | ownd a kvs => obtain ⟨V, hq, r⟩ := q; exact ⟨V, hn _ (S.notP hq) hq, r⟩
    | gho a ds => obtain ⟨hq, r⟩ := q; exact ⟨hn _ (S.notP hq) hq, r⟩
  nodup := S.nodup
  proper := S.proper
  alive := S.alive

/-- the cells that the frame may store into -/
def wcells (env : Env) (W : List Str) : List Addr := W.filterMap fun x => env.cells.lookup x
def hid (env : Env) (W : List Str) (σ : Sto) (h : Heap) : Heap := hideAll h (env.locals :: (owns σ ++ wcells env W))

theorem mem_owns {x : Str} {sl : Slot} {a : Addr} (e : σ.lookup x = some sl) (ha : a ∈ sl.addr) : a ∈ owns σ := by
  obtain ⟨l1, l2, rfl, _⟩ := List.lookup_eq_some_iff.mp e
  simp only [owns, List.flatMap_append, List.flatMap_cons, List.mem_append]
  exact .inr (.inl ha)

theorem Sta.hidden (S : Sta C ec W env h₀ ex σ h) {a : Addr} (ha : a ∈ env.locals :: (owns σ ++ wcells env W)) : h₀.get? a = none := by
  rcases List.mem_cons.mp ha with rfl | ha
  · exact S.newL
  · rcases List.mem_append.mp ha with ha | ha
    · obtain ⟨p, hp, ha⟩ := List.mem_flatMap.mp ha
      have q := S.slots _ _ (S.proper p hp)
      obtain ⟨x, sl⟩ := p
      cases sl with
      | dat d => simp [Slot.addr] at ha
      | own b ds => simp [Slot.addr] at ha; subst ha; exact q.2.1
      | ownd b kvs => simp [Slot.addr] at ha; subst ha; exact q.2.1
      | gho b ds => simp [Slot.addr] at ha; subst ha; exact q.1
    · obtain ⟨x, hx, hc⟩ := List.mem_filterMap.mp ha
      obtain ⟨_, c, v, hc', _, hn⟩ := S.wr x hx
      rw [hc] at hc'; cases hc'; exact hn

theorem Sta.hid_ext (S : Sta C ec W env h₀ ex σ h) : Heap.ExtBut C.P h₀ (hid env W σ h) := fun b o hb e =>
  hideAll_get _ (S.base b o hb e) fun m => by rw [S.hidden m] at e; cases e
theorem Sta.hid_tab (S : Sta C ec W env h₀ ex σ h) : TabOK C (hid env W σ h) :=
  S.tab.keeps fun o e => hideAll_get _ e fun m => S.notP (S.hidden m) rfl
theorem Sta.up (S : Sta C ec W env h₀ ex σ h) : Sta C ec W env (hid env W σ h) ex σ h where
  base := fun b o _ e => of_hideAll _ e
  g0 := S.g0.ext S.t0 (S.hid_ext)
  t0 := S.hid_tab
  tab := S.tab
  ns := S.ns
  newL := hideAll_none _ (.head _)
  wr := fun x hx => let ⟨q, c, v, hc, hi, hq⟩ := S.wr x hx; ⟨q, c, v, hc, hi, hideAll_none _ (List.mem_cons_of_mem _ (List.mem_append_right _ (List.mem_filterMap.mpr ⟨x, hx, hc⟩)))⟩
  apart := S.apart
  cells := S.cells
  slots := fun x sl hx => by
    have q := S.slots x sl hx
    cases sl with
    | dat d => exact q
    | own a ds => obtain ⟨V, hq, r⟩ := q; exact ⟨V, hideAll_none _ (List.mem_cons_of_mem _ (List.mem_append_left _ (mem_owns hx (by simp [Slot.addr])))), r⟩
    | ownd a kvs => obtain ⟨V, hq, r⟩ := q; exact ⟨V, hideAll_none _ (List.mem_cons_of_mem _ (List.mem_append_left _ (mem_owns hx (by simp [Slot.addr])))), r⟩
    | gho a ds => obtain ⟨hq, r⟩ := q; exact ⟨hideAll_none _ (List.mem_cons_of_mem _ (List.mem_append_left _ (mem_owns hx (by simp [Slot.addr])))), r⟩
  nodup := S.nodup
  proper := S.proper
  alive := S.alive
/-- from the nearer base to the elder -/
theorem Sta.down {σ' : Sto} (S : Sta C ec W env h₀ ex σ h) (S' : Sta C ec W env (hid env W σ h) ex σ' h') : Sta C ec W env h₀ ex σ' h' :=
  S'.base' ((S.hid_ext).trans S'.base) S.g0 S.t0 fun a hP e => by
    cases q : h₀.get? a with
    | none => rfl
    | some o => rw [S.hid_ext a o hP q] at e; cases e

/-- what stands outside the frame's own stands on -/
theorem Sta.keeps {σ' : Sto} (S : Sta C ec W env h₀ ex σ h) (S' : Sta C ec W env (hid env W σ h) ex σ' h') {b : Addr} {o : Obj} (hb : b ∉ exOf env σ ex) (e : h.get? b = some o) (hs : Solid o) : h'.get? b = some o ∧ b ∉ exOf env σ' ex := by
  have hm : b ∉ env.locals :: (owns σ ++ wcells env W) := fun m => by
    rcases List.mem_cons.mp m with rfl | m
    · exact hb (.head _)
    · rcases List.mem_append.mp m with m | m
      · exact hb (List.mem_cons_of_mem _ (List.mem_append_left _ m))
      · obtain ⟨x, hx, hc⟩ := List.mem_filterMap.mp m
        obtain ⟨_, c, v, hc', ⟨oc, ho, hd⟩, hn⟩ := S.wr x hx
        rw [hc] at hc'; cases hc'
        rw [e] at ho; cases ho
        exact hs.2 _ hd
  have e1 : (hid env W σ h).get? b = some o := hideAll_get _ e hm
  refine ⟨S'.base _ _ (S.tab.ne e hs.1) e1, fun m => ?_⟩
  rcases List.mem_cons.mp m with rfl | m
  · exact hb (.head _)
  · rcases List.mem_append.mp m with m | m
    · have := S'.hidden (List.mem_cons_of_mem _ (List.mem_append_left _ m))
      rw [e1] at this; cases this
    · exact hb (List.mem_cons_of_mem _ (List.mem_append_right _ m))
theorem Sta.rep_on {σ' : Sto} {d : D} {v : Value} (S : Sta C ec W env h₀ ex σ h) (S' : Sta C ec W env (hid env W σ h) ex σ' h') (r : Rep C h (exOf env σ ex) d v) : Rep C h' (exOf env σ' ex) d v :=
  Rep.move (fun b o hb e hs => S.keeps S' hb e hs) d v r
theorem Sta.repL_on {σ' : Sto} {d : List D} {v : List Value} (S : Sta C ec W env h₀ ex σ h) (S' : Sta C ec W env (hid env W σ h) ex σ' h') (r : RepL C h (exOf env σ ex) d v) : RepL C h' (exOf env σ' ex) d v :=
  RepL.move (fun b o hb e hs => S.keeps S' hb e hs) d v r
end Mine
namespace Mine
open PySem PySem.W PyProof.Rows PySem.Calls PySem.Spec

variable {C : Cfg} {k : Nat} {ec : EC} {σ : Sto} {W : List Str} {env : Env} {h₀ h₁ h h' : Heap} {ex ex' : List Addr}

theorem lookup_filter_ne {x y : Str} (hxy : y ≠ x) : ∀ σ : Sto, (σ.filter fun p => !(p.1 == x)).lookup y = σ.lookup y
  | [] => rfl
  | (z, s) :: r => by
    by_cases hz : z = x
    · subst hz
      rw [List.filter_cons_of_neg (by simp), lookup_filter_ne hxy r, List.lookup_cons]
      rw [show (y == z) = false by simpa using hxy]
    · rw [List.filter_cons_of_pos (by simpa using hz), List.lookup_cons, List.lookup_cons, lookup_filter_ne hxy r]
theorem lookup_set_self {x : Str} {s : Slot} : (σ.set x s).lookup x = some s := by
  unfold Sto.set; rw [List.lookup_cons]; simp
theorem lookup_set_ne {x y : Str} {s : Slot} (h : y ≠ x) : (σ.set x s).lookup y = σ.lookup y := by
  unfold Sto.set; rw [List.lookup_cons, show (y == x) = false by simpa using h]; exact lookup_filter_ne h σ
theorem owns_set {x : Str} {s : Slot} : owns (σ.set x s) = s.addr ++ owns (σ.filter fun p => !(p.1 == x)) := by
  unfold Sto.set owns; rw [List.flatMap_cons]
theorem owns_filter_sub (p : Str × Slot → Bool) : ∀ σ : Sto, (owns (σ.filter p)).Sublist (owns σ)
  | [] => .refl _
  | q :: r => by
    by_cases hq : p q = true
    · rw [List.filter_cons_of_pos hq]
      simp only [owns, List.flatMap_cons]
      exact (List.Sublist.refl _).append (owns_filter_sub p r)
    · rw [List.filter_cons_of_neg hq]
      simp only [owns, List.flatMap_cons]
      exact (owns_filter_sub p r).trans (List.sublist_append_right _ _)
theorem proper_set {x : Str} {s : Slot} (hp : ∀ p ∈ σ, σ.lookup p.1 = some p.2) : ∀ p ∈ σ.set x s, (σ.set x s).lookup p.1 = some p.2 := by
  intro p hm
  unfold Sto.set at hm
  rcases List.mem_cons.mp hm with rfl | hm
  · exact lookup_set_self
  · obtain ⟨hm, hne⟩ := List.mem_filter.mp hm
    have hne' : p.1 ≠ x := by simpa using hne
    rw [lookup_set_ne hne']; exact hp p hm

def SlotNew (C : Cfg) (env : Env) (h₀ h : Heap) (ex : List Addr) (σ : Sto) (v : Value) : Slot → Prop
  | .dat d => Rep C h (exOf env σ ex) d v
  | .own a ds => v = .ref a ∧ h₀.get? a = none ∧ ∃ vs n, h.get? a = some (lstObj vs n) ∧ RepL C h (exOf env σ ex) ds vs
  | .ownd a kvs => v = .ref a ∧ h₀.get? a = none ∧ (a == sysModules) = false ∧ ∃ us, h.DictOf (kS C) a ((kvs.map (·.1)).zip us) ∧ RepL C h (exOf env σ ex) (kvs.map (·.2)) us
  | .gho a ds => h₀.get? a = none ∧ ∃ vs n, h.get? a = some (lstObj vs n) ∧ RepL C h (exOf env σ ex) ds vs

theorem Sta.setAt {x : Str} {sl : Slot} {loc : Addr} {v : Value} (S : Sta C ec W env h₀ (sl.addr ++ ex) σ h) (hs : Heap.SameBut loc h h') (hloc : h₀.get? loc = none)
    (hkind : loc = env.locals ∨ ∃ u, h.IsCell loc u) (hlive : h'.get? loc ≠ none) (hns : ∃ m, h'.Ns env.locals m) (hcl : ∀ y c, env.cells.lookup y = some c → ∃ u, h'.IsCell c u)
    (hV : VarAt ec env h' x v) (hO : ∀ y u, y ≠ x → VarAt ec env h y u → VarAt ec env h' y u) (hsl : SlotNew C env h₀ h (sl.addr ++ ex) σ v sl) : Sta C ec W env h₀ ex (σ.set x sl) h' := by
  have hsub : ∀ b, b ∈ exOf env (σ.set x sl) ex → b ∈ exOf env σ (sl.addr ++ ex) := fun b hb => by
    rcases List.mem_cons.mp hb with rfl | hb
    · exact .head _
    · refine List.mem_cons_of_mem _ ?_
      rcases List.mem_append.mp hb with hb | hb
      · rw [owns_set] at hb
        rcases List.mem_append.mp hb with hb | hb
        · exact List.mem_append_right _ (List.mem_append_left _ hb)
        · exact List.mem_append_left _ ((owns_filter_sub _ σ).subset hb)
      · exact List.mem_append_right _ (List.mem_append_right _ hb)
  have hP : loc ≠ C.P := S.notP hloc
  have hmv : ∀ b o, b ∉ exOf env σ (sl.addr ++ ex) → h.get? b = some o → Solid o → h'.get? b = some o ∧ b ∉ exOf env (σ.set x sl) ex := fun b o hb e hso => by
    refine ⟨(hs.2 b fun q => ?_).trans e, fun m => hb (hsub b m)⟩
    subst q
    rcases hkind with rfl | ⟨u, oc, ho, hd⟩
    · exact hb (.head _)
    · rw [e] at ho; cases ho; exact hso.2 _ hd
  have hobj : ∀ b o, h.get? b = some o → Solid o → b ≠ env.locals → h'.get? b = some o := fun b o e hso hd => by
    refine (hs.2 b fun q => ?_).trans e
    subst q
    rcases hkind with rfl | ⟨u, oc, ho, hd'⟩
    · exact hd rfl
    · rw [e] at ho; cases ho; exact hso.2 _ hd'
  have hneL : ∀ a ∈ owns σ ++ (sl.addr ++ ex), a ≠ env.locals := fun a ha q => (List.nodup_cons.mp S.nodup).1 (q ▸ ha)
  have halive : ∀ a, h.get? a ≠ none → h'.get? a ≠ none := fun a ha => by
    by_cases q : a = loc
    · subst q; exact hlive
    · rw [hs.2 a q]; exact ha
  have hbase : Heap.ExtBut C.P h₀ h' := fun b o hb e => (hs.2 b fun q => by rw [q, hloc] at e; cases e).trans (S.base b o hb e)
  refine { base := hbase, g0 := S.g0, t0 := S.t0, tab := S.tab.same hs hP, ns := hns, newL := S.newL, wr := fun y hy => ?_, apart := S.apart, cells := hcl, slots := fun y s hy => ?_, nodup := ?_, proper := proper_set S.proper, alive := fun a ha => halive a (S.alive a (hsub a ha)) }
  · obtain ⟨q, c, u, hc, _, hn⟩ := S.wr y hy
    obtain ⟨u', hu'⟩ := hcl y c hc
    exact ⟨q, c, u', hc, hu', hn⟩
  · by_cases hyx : y = x
    · subst hyx
      rw [lookup_set_self] at hy
      cases hy
      cases sl with
      | dat d => exact ⟨v, hV, Rep.move hmv d v hsl⟩
      | own a ds =>
        obtain ⟨rfl, hn, vs, n, ha, r⟩ := hsl
        exact ⟨hV, hn, vs, n, hobj a _ ha ⟨nofun, nofun⟩ (hneL a (List.mem_append_right _ (List.mem_append_left _ (by simp [Slot.addr])))), RepL.move hmv ds vs r⟩
      | ownd a kvs =>
        obtain ⟨rfl, hn, hsys, us, ha, r⟩ := hsl
        exact ⟨hV, hn, hsys, us, dictOf_move ha fun o ho hso => hobj a o ho hso (hneL a (List.mem_append_right _ (List.mem_append_left _ (by simp [Slot.addr])))), RepL.move hmv _ us r⟩
      | gho a ds =>
        obtain ⟨hn, vs, n, ha, r⟩ := hsl
        exact ⟨hn, vs, n, hobj a _ ha ⟨nofun, nofun⟩ (hneL a (List.mem_append_right _ (List.mem_append_left _ (by simp [Slot.addr])))), RepL.move hmv ds vs r⟩
    · rw [lookup_set_ne hyx] at hy
      have q := S.slots y s hy
      cases s with
      | dat d => obtain ⟨u, V, r⟩ := q; exact ⟨u, hO y u hyx V, Rep.move hmv d u r⟩
      | own a ds =>
        obtain ⟨V, hn, vs, n, ha, r⟩ := q
        exact ⟨hO y _ hyx V, hn, vs, n, hobj a _ ha ⟨nofun, nofun⟩ (hneL a (List.mem_append_left _ (mem_owns hy (by simp [Slot.addr])))), RepL.move hmv ds vs r⟩
      | ownd a kvs =>
        obtain ⟨V, hn, hsys, us, ha, r⟩ := q
        exact ⟨hO y _ hyx V, hn, hsys, us, dictOf_move ha fun o ho hso => hobj a o ho hso (hneL a (List.mem_append_left _ (mem_owns hy (by simp [Slot.addr])))), RepL.move hmv _ us r⟩
      | gho a ds =>
        obtain ⟨hn, vs, n, ha, r⟩ := q
        exact ⟨hn, vs, n, hobj a _ ha ⟨nofun, nofun⟩ (hneL a (List.mem_append_left _ (mem_owns hy (by simp [Slot.addr])))), RepL.move hmv ds vs r⟩
  · have hn := S.nodup
    unfold exOf at hn ⊢
    rw [owns_set]
    obtain ⟨h1, h2⟩ := List.nodup_cons.mp hn
    refine List.nodup_cons.mpr ⟨fun m => h1 ?_, ?_⟩
    · rcases List.mem_append.mp m with m | m
      · rcases List.mem_append.mp m with m | m
        · exact List.mem_append_right _ (List.mem_append_left _ m)
        · exact List.mem_append_left _ ((owns_filter_sub _ σ).subset m)
      · exact List.mem_append_right _ (List.mem_append_right _ m)
    · have h3 : (owns (σ.filter fun p => !(p.1 == x)) ++ (sl.addr ++ ex)).Nodup := ((owns_filter_sub _ σ).append (.refl _)).nodup h2
      refine (List.Perm.nodup_iff ?_).mp h3
      rw [← List.append_assoc]
      exact List.perm_append_comm.append_right ex

/-- storing a datum under a name -/
theorem Sta.storeLocal {x : Str} {sl : Slot} {v : Value} {m : Str → Option Value} (S : Sta C ec W env h₀ (sl.addr ++ ex) σ h) (hk : ec.kind x = some .local) (hn : h.Ns env.locals m) (hn' : h'.Ns env.locals (fun y => if y = x then some v else m y)) (hs : Heap.SameBut env.locals h h')
    (hsl : SlotNew C env h₀ h (sl.addr ++ ex) σ v sl) : Sta C ec W env h₀ ex (σ.set x sl) h' := by
  have hcne : ∀ y c, env.cells.lookup y = some c → c ≠ env.locals := fun y c hc e => by
    obtain ⟨u, o, ho, hd⟩ := S.cells y c hc
    obtain ⟨_, _, _, ho', hd', _⟩ := hn
    rw [e, ho'] at ho; cases ho; rw [hd] at hd'; cases hd'
  refine S.setAt hs S.newL (.inl rfl) (by obtain ⟨o, _, _, ho, _⟩ := hn'; rw [ho]; nofun) ⟨_, hn'⟩ (fun y c hc => ?_) (.inl ⟨hk, _, hn', by simp⟩) (fun y u hy V => ?_) hsl
  · obtain ⟨u, hu⟩ := S.cells y c hc
    exact ⟨u, hu.sameBut hs (hcne y c hc)⟩
  · rcases V with ⟨hq, m', hm', hv⟩ | ⟨hq, c, hc, hi⟩
    · refine .inl ⟨hq, _, hn', ?_⟩
      simp only [hy, if_false]
      obtain ⟨o, es, ep, ho, hd, _, hf⟩ := hn
      obtain ⟨o', es', ep', ho', hd', _, hf'⟩ := hm'
      rw [ho] at ho'; cases ho'; rw [hd] at hd'; cases hd'
      rw [← hf, hf']; exact hv
    · exact .inr ⟨hq, c, hc, hi.sameBut hs (hcne y c hc)⟩
theorem Sta.storeCell {x : Str} {sl : Slot} {v : Value} {c : Addr} (S : Sta C ec W env h₀ (sl.addr ++ ex) σ h) (hx : x ∈ W) (hc : env.cells.lookup x = some c) (hi : h'.IsCell c (some v)) (hs : Heap.SameBut c h h')
    (hsl : SlotNew C env h₀ h (sl.addr ++ ex) σ v sl) : Sta C ec W env h₀ ex (σ.set x sl) h' := by
  obtain ⟨hk, c', u', hc', hi', hnew⟩ := S.wr x hx
  rw [hc] at hc'; cases hc'
  have hne : env.locals ≠ c := fun e => by
    obtain ⟨m, o, es, ep, ho, hd, _⟩ := S.ns
    obtain ⟨o', ho', hd'⟩ := hi'
    rw [e, ho'] at ho; cases ho; rw [hd'] at hd; cases hd
  refine S.setAt hs hnew (.inr ⟨_, hi'⟩) (by obtain ⟨o, ho, _⟩ := hi; rw [ho]; nofun) (let ⟨m, hm⟩ := S.ns; ⟨m, hm.sameBut hs hne⟩) (fun y d hd => ?_) (.inr ⟨.inl hk, c, hc, hi⟩) (fun y u hy V => ?_) hsl
  · by_cases e : d = c
    · subst e; exact ⟨_, hi⟩
    · obtain ⟨u, hu⟩ := S.cells y d hd
      exact ⟨u, hu.sameBut hs e⟩
  · rcases V with ⟨hq, m', hm', hv⟩ | ⟨hq, d, hd, hid⟩
    · exact .inl ⟨hq, m', hm'.sameBut hs hne, hv⟩
    · exact .inr ⟨hq, d, hd, hid.sameBut hs fun e => hy (S.apart _ _ _ hd (e ▸ hc))⟩

/-- a name is stored: local, or a cell of the frame's own -/
theorem store_wp {x : Str} {sl : Slot} {v : Value} {A : Around} {s : Shared} {Q : Unit → Shared → Prop} {E : Value → Shared → Prop} (he : EnvOK ec env) (S : Sta C ec W env h₀ (sl.addr ++ ex) σ s.heap) (hx : ec.kind x = some .local ∨ x ∈ W)
    (hsl : SlotNew C env h₀ s.heap (sl.addr ++ ex) σ v sl) (hQ : ∀ s', Gx s s' → Sta C ec W env h₀ ex (σ.set x sl) s'.heap → Q () s') : wpAny (model C.prog C.w) A (storeName env x v) Q E s := by
  have hk : env.scope.kind = .function := by rw [he.sc]; exact he.kind
  have hq : ∀ q, ec.kind x = some q → env.kindOf x = some q := fun q e => by unfold Env.kindOf; rw [he.sc]; exact e
  rcases hx with hx | hx
  · obtain ⟨m, hm⟩ := S.ns
    exact wpAny_storeName_local (hq _ hx) hm (fun h' hn hs => hQ _ ⟨rfl, id⟩ (S.storeLocal hx hm hn hs hsl)) (by rw [hk]; rfl)
  · obtain ⟨hk', c, u, hc, hi, _⟩ := S.wr x hx
    exact wpAny_storeName_cell hk (hq _ hk') hc hi fun h' hn hs => hQ _ ⟨rfl, id⟩ (S.storeCell hx hc hn hs hsl)
end Mine
namespace Mine
open PySem PySem.W PyProof.Rows PySem.Calls PySem.Spec

variable {C : Cfg} {k : Nat} {ec : EC} {σ : Sto} {W : List Str}

theorem X1.mono {st : Stmt} {Φ Φ' : Out → Prop} (h : X1 C k ec W σ st Φ) (i : ∀ o, Φ o → Φ' o) : X1 C k ec W σ st Φ' :=
  fun A env h₀ ex s Q E hr he S hQ => h A env h₀ ex s Q E hr he S fun f s' o ho => hQ f s' o (i o ho)
theorem Xs.mono {st : List Stmt} {Φ Φ' : Out → Prop} (h : Xs C k ec W σ st Φ) (i : ∀ o, Φ o → Φ' o) : Xs C k ec W σ st Φ' :=
  fun A env h₀ ex s Q E hr he S hQ => h A env h₀ ex s Q E hr he S fun f s' o ho => hQ f s' o (i o ho)
theorem xs_nil {Φ : Out → Prop} (h : Φ (.next σ)) : Xs C k ec W σ [] Φ := fun A env h₀ ex s Q E hr he S hQ =>
  wpAny_execs_nil (hQ _ _ _ h ⟨rfl, S⟩ (.refl s))
/-- what follows a statement -/
def Then (C : Cfg) (k : Nat) (ec : EC) (W : List Str) (rest : List Stmt) (Φ : Out → Prop) : Out → Prop
  | .next σ => Xs C k ec W σ rest Φ
  | o => Φ o
theorem xs_cons {st : Stmt} {rest : List Stmt} {Φ : Out → Prop} (h : X1 C k ec W σ st (Then C k ec W rest Φ)) : Xs C k ec W σ (st :: rest) Φ := fun A env h₀ ex s Q E hr he S hQ => by
  refine wpAny_execs_cons (h _ _ _ _ _ _ _ hr he S fun f s' o ho hf g => ?_)
  cases o with
  | next σ' =>
    obtain ⟨rfl, S'⟩ := hf
    exact ho _ _ _ _ _ _ _ hr he S' fun f2 s2 o2 ho2 hf2 g2 => hQ _ _ _ ho2 hf2 (g.trans g2)
  | brk σ' => obtain ⟨rfl, S'⟩ := hf; exact hQ _ _ _ ho ⟨rfl, S'⟩ g
  | cont σ' => obtain ⟨rfl, S'⟩ := hf; exact hQ _ _ _ ho ⟨rfl, S'⟩ g
  | ret d => obtain ⟨v, rfl, r⟩ := hf; exact hQ _ _ _ ho ⟨v, rfl, r⟩ g

/-- x = e -/
theorem x1_assign {x : Str} {e : Expr} {d : D} {p pos : Pos} {Φ : Out → Prop} (h : Ev C k ec σ e d) (hx : ec.kind x = some .local ∨ x ∈ W) (hs : ∀ env, swapsWith e (some (.Name x p)) pos.line env = pure false) (hΦ : Φ (.next (σ.set x (.dat d)))) : X1 C k ec W σ (.Assign [.Name x p] e pos) Φ :=
  fun A env h₀ ex s Q E hr he S hQ => by
    refine wpAny_Assign_Name (h _ _ _ _ _ _ _ _ hr he S fun v s1 g1 r1 => ?_) (hs env)
    exact store_wp (sl := .dat d) he (S.go g1) hx r1 fun s2 g2 S2 => hQ _ _ _ hΦ ⟨rfl, S2⟩ (g1.gx.trans g2)
/-- return e -/
theorem x1_return {e : Expr} {d : D} {pos : Pos} {Φ : Out → Prop} (h : Ev C k ec σ e d) (hΦ : Φ (.ret d)) : X1 C k ec W σ (.Return (some e) pos) Φ :=
  fun A env h₀ ex s Q E hr he S hQ => by
    refine wpAny_Return_some (h _ _ _ _ _ _ _ _ hr he S fun v s1 g1 r1 => ?_)
    have S1 := S.go g1
    exact hQ _ _ _ hΦ ⟨v, rfl, S1.base, S1.tab, Rep.move (fun b o hb q _ => ⟨q, fun m => hb (List.mem_cons_of_mem _ (List.mem_append_right _ m))⟩) d v r1⟩ g1.gx
theorem x1_if {t : Expr} {b o : List Stmt} {pos : Pos} {c : Bool} {Φ : Out → Prop} (h : Tr C k ec σ t c) (hb : c = true → Xs C k ec W σ b Φ) (ho : c = false → Xs C k ec W σ o Φ) : X1 C k ec W σ (.If t b o pos) Φ :=
  fun A env h₀ ex s Q E hr he S hQ => by
    refine wpAny_If (h _ _ _ _ _ _ _ _ hr he S fun s1 g1 => ?_)
    cases c with
    | true => exact hb rfl _ _ _ _ _ _ _ hr he (S.go g1) fun f s2 o2 h2 hf g2 => hQ _ _ _ h2 hf (g1.gx.trans g2)
    | false => exact ho rfl _ _ _ _ _ _ _ hr he (S.go g1) fun f s2 o2 h2 hf g2 => hQ _ _ _ h2 hf (g1.gx.trans g2)
theorem x1_continue {pos : Pos} {Φ : Out → Prop} (h : Φ (.cont σ)) : X1 C k ec W σ (.Continue pos) Φ :=
  fun A env h₀ ex s Q E hr he S hQ => wpAny_Continue (hQ _ _ _ h ⟨rfl, S⟩ (.refl s))

/-- a list of the frame's own is handed on as data: it is not changed any more -/
theorem Sta.freeze {env : Env} {h₀ h : Heap} {ex : List Addr} {x : Str} {a : Addr} {ds : List D} (S : Sta C ec W env h₀ ex σ h) (hx : σ.lookup x = some (.own a ds)) : Sta C ec W env h₀ ex (σ.set x (.dat (.lst ds))) h := by
  have hsub : ∀ b, b ∈ exOf env (σ.set x (.dat (.lst ds))) ex → b ∈ exOf env σ ex := fun b hb => by
    rcases List.mem_cons.mp hb with rfl | hb
    · exact .head _
    · refine List.mem_cons_of_mem _ ?_
      rcases List.mem_append.mp hb with hb | hb
      · rw [owns_set] at hb
        exact List.mem_append_left _ ((owns_filter_sub _ σ).subset (by simpa [Slot.addr] using hb))
      · exact List.mem_append_right _ hb
  have hmv : ∀ b o, b ∉ exOf env σ ex → h.get? b = some o → Solid o → h.get? b = some o ∧ b ∉ exOf env (σ.set x (.dat (.lst ds))) ex := fun b o hb e _ => ⟨e, fun m => hb (hsub b m)⟩
  -- the owners: x's own goes
  have hperm : ∀ (τ : Sto), (∀ p ∈ τ, τ.lookup p.1 = some p.2 ∨ True) → τ.lookup x = some (.own a ds) → ∃ l1 l2, τ = l1 ++ (x, .own a ds) :: l2 ∧ ∀ p ∈ l1, (x == p.1) = false := fun τ _ e => by
    obtain ⟨l1, l2, rfl, hl⟩ := List.lookup_eq_some_iff.mp e
    exact ⟨l1, l2, rfl, fun p hp => by simpa using hl p hp⟩
  have ha : a ∉ exOf env (σ.set x (.dat (.lst ds))) ex := by
    obtain ⟨l1, l2, rfl, hl⟩ := hperm σ (fun _ _ => .inr trivial) hx
    have hn := S.nodup
    have e1 : owns (l1 ++ (x, Slot.own a ds) :: l2) = owns l1 ++ a :: owns l2 := by simp [owns, Slot.addr]
    unfold exOf at hn ⊢
    rw [e1] at hn
    rw [owns_set]
    intro m
    have hn2 : (env.locals :: (owns l1 ++ a :: (owns l2 ++ ex))).Nodup := by simpa using hn
    have hfil : ∀ b, b ∈ owns ((l1 ++ (x, Slot.own a ds) :: l2).filter fun p => !(p.1 == x)) → b ∈ owns l1 ∨ b ∈ owns l2 := fun b hb => by
      rw [List.filter_append, List.filter_cons_of_neg (by simp)] at hb
      simp only [owns, List.flatMap_append, List.mem_append] at hb
      rcases hb with hb | hb
      · exact .inl ((owns_filter_sub _ l1).subset hb)
      · exact .inr ((owns_filter_sub _ l2).subset hb)
    have hnl : a ∉ env.locals :: (owns l1 ++ (owns l2 ++ ex)) := by
      have hp : (env.locals :: (owns l1 ++ a :: (owns l2 ++ ex))).Perm (a :: (env.locals :: (owns l1 ++ (owns l2 ++ ex)))) := by
        refine (List.Perm.cons _ List.perm_middle).trans (.swap _ _ _)
      exact (List.nodup_cons.mp (hp.nodup_iff.mp hn2)).1
    apply hnl
    rcases List.mem_cons.mp m with rfl | m
    · exact .head _
    · refine List.mem_cons_of_mem _ ?_
      simp only [Slot.addr, List.nil_append] at m
      rcases List.mem_append.mp m with m | m
      · rcases hfil _ m with m | m
        · exact List.mem_append_left _ m
        · exact List.mem_append_right _ (List.mem_append_left _ m)
      · exact List.mem_append_right _ (List.mem_append_right _ m)
  exact { base := S.base, g0 := S.g0, t0 := S.t0, tab := S.tab, ns := S.ns, newL := S.newL, wr := S.wr, apart := S.apart, cells := S.cells, proper := proper_set S.proper,
          slots := fun y s hy => by
            by_cases hyx : y = x
            · subst hyx
              rw [lookup_set_self] at hy
              cases hy
              obtain ⟨V, _, vs, n, hg, r⟩ := S.slots _ _ hx
              refine ⟨_, V, ?_⟩
              simp only [Rep]
              exact ⟨a, vs, n, rfl, ha, hg, RepL.move hmv ds vs r⟩
            · rw [lookup_set_ne hyx] at hy
              have q := S.slots y s hy
              cases s with
              | dat d => obtain ⟨u, V, r⟩ := q; exact ⟨u, V, Rep.move hmv d u r⟩
              | own b es => obtain ⟨V, hn, vs, n, hg, r⟩ := q; exact ⟨V, hn, vs, n, hg, RepL.move hmv es vs r⟩
              | ownd b kvs => obtain ⟨V, hn, hs, us, hg, r⟩ := q; exact ⟨V, hn, hs, us, hg, RepL.move hmv _ us r⟩
              | gho b es => obtain ⟨hn, vs, n, hg, r⟩ := q; exact ⟨hn, vs, n, hg, RepL.move hmv es vs r⟩
          nodup := by
            have hn := S.nodup
            unfold exOf at hn ⊢
            refine List.Nodup.sublist ?_ hn
            rw [owns_set]
            exact (((owns_filter_sub _ σ).append (.refl _))).cons₂ _
          alive := fun b hb => S.alive b (hsub b hb) }
theorem xs_freeze {x : Str} {a : Addr} {ds : List D} {ss : List Stmt} {Φ : Out → Prop} (hx : σ.lookup x = some (.own a ds)) (h : Xs C k ec W (σ.set x (.dat (.lst ds))) ss Φ) : Xs C k ec W σ ss Φ :=
  fun A env h₀ ex s Q E hr he S hQ => h _ _ _ _ _ _ _ hr he (S.freeze hx) hQ

/-- fewer names known -/
theorem Sta.less {env : Env} {h₀ h : Heap} {ex : List Addr} {σ' : Sto} (S : Sta C ec W env h₀ ex σ h) (hs : ∀ x s, σ'.lookup x = some s → σ.lookup x = some s) (ho : ∀ a ∈ owns σ', a ∈ owns σ) (hnd : (owns σ).Nodup → (owns σ').Nodup) (hp : ∀ p ∈ σ', σ'.lookup p.1 = some p.2) : Sta C ec W env h₀ ex σ' h := by
  have hsub : ∀ b, b ∈ exOf env σ' ex → b ∈ exOf env σ ex := fun b hb => by
    rcases List.mem_cons.mp hb with rfl | hb
    · exact .head _
    · refine List.mem_cons_of_mem _ ?_
      rcases List.mem_append.mp hb with hb | hb
      · exact List.mem_append_left _ (ho b hb)
      · exact List.mem_append_right _ hb
  have hmv : ∀ b o, b ∉ exOf env σ ex → h.get? b = some o → Solid o → h.get? b = some o ∧ b ∉ exOf env σ' ex := fun b o hb e _ => ⟨e, fun m => hb (hsub b m)⟩
  exact { base := S.base, g0 := S.g0, t0 := S.t0, tab := S.tab, ns := S.ns, newL := S.newL, wr := S.wr, apart := S.apart, cells := S.cells, proper := hp,
          slots := fun y s hy => by
            have q := S.slots y s (hs _ _ hy)
            cases s with
            | dat d => obtain ⟨u, V, r⟩ := q; exact ⟨u, V, Rep.move hmv d u r⟩
            | own b es => obtain ⟨V, hn, vs, n, hg, r⟩ := q; exact ⟨V, hn, vs, n, hg, RepL.move hmv es vs r⟩
            | ownd b kvs => obtain ⟨V, hn, hs, us, hg, r⟩ := q; exact ⟨V, hn, hs, us, hg, RepL.move hmv _ us r⟩
            | gho b es => obtain ⟨hn, vs, n, hg, r⟩ := q; exact ⟨hn, vs, n, hg, RepL.move hmv es vs r⟩
          nodup := by
            obtain ⟨h1, h2⟩ := List.nodup_cons.mp S.nodup
            obtain ⟨h3, h4, h5⟩ := List.nodup_append.mp h2
            refine List.nodup_cons.mpr ⟨fun m => h1 ?_, List.nodup_append.mpr ⟨hnd h3, h4, fun a ha b hb => h5 a (ho a ha) b hb⟩⟩
            rcases List.mem_append.mp m with m | m
            · exact List.mem_append_left _ (ho _ m)
            · exact List.mem_append_right _ m
          alive := fun b hb => S.alive b (hsub b hb) }
/-- names, one by one -/
def Le : Sto → Sto → Prop
  | [], _ => True
  | (x, s) :: r, σ => σ.lookup x = some s ∧ Le r σ
theorem Le.at : ∀ {σ' σ : Sto}, Le σ' σ → ∀ x s, σ'.lookup x = some s → σ.lookup x = some s
  | [], _, _, x, s, e => by simp at e
  | (y, t) :: r, σ, h, x, s, e => by
    rw [List.lookup_cons] at e
    by_cases hxy : (x == y) = true
    · rw [hxy] at e
      cases e
      rw [eq_of_beq hxy]; exact h.1
    · rw [show (x == y) = false by simpa using hxy] at e
      exact Le.at h.2 x s e
theorem proper_of {σ : Sto} (h : (σ.map (·.1)).Nodup) : ∀ p ∈ σ, σ.lookup p.1 = some p.2 := by
  induction σ with
  | nil => simp
  | cons q r ih =>
    intro p hp
    obtain ⟨h1, h2⟩ := List.nodup_cons.mp h
    rcases List.mem_cons.mp hp with rfl | hp
    · rw [List.lookup_cons]; simp
    · rw [List.lookup_cons, show (p.1 == q.1) = false by
        rw [beq_eq_false_iff_ne]; intro e; exact h1 (List.mem_map.mpr ⟨p, hp, e⟩)]
      exact ih h2 p hp
theorem xs_less {σ' : Sto} {ss : List Stmt} {Φ : Out → Prop} (hl : Le σ' σ) (ho : ∀ a ∈ owns σ', a ∈ owns σ) (hnd : (owns σ).Nodup → (owns σ').Nodup) (hp : (σ'.map (·.1)).Nodup) (h : Xs C k ec W σ' ss Φ) : Xs C k ec W σ ss Φ :=
  fun A env h₀ ex s Q E hr he S hQ => h _ _ _ _ _ _ _ hr he (S.less hl.at ho hnd (proper_of hp)) hQ
end Mine
namespace Mine
open PySem PySem.W PyProof.Rows PySem.Calls PySem.Spec

variable {C : Cfg} {k : Nat} {ec : EC} {σ : Sto} {W : List Str}

theorem Rep.sub {h : Heap} {ex ex' : List Addr} {d : D} {v : Value} (r : Rep C h ex d v) (hs : ∀ b ∈ ex', b ∈ ex) : Rep C h ex' d v := Rep.move (fun b o hb e _ => ⟨e, fun m => hb (hs b m)⟩) d v r
theorem RepL.sub {h : Heap} {ex ex' : List Addr} {d : List D} {v : List Value} (r : RepL C h ex d v) (hs : ∀ b ∈ ex', b ∈ ex) : RepL C h ex' d v := RepL.move (fun b o hb e _ => ⟨e, fun m => hb (hs b m)⟩) d v r

theorem Sta.dropEx {env : Env} {h₀ h : Heap} {ex ws : List Addr} (S : Sta C ec W env h₀ (ws ++ ex) σ h) : Sta C ec W env h₀ ex σ h := by
  have hsub : ∀ b, b ∈ exOf env σ ex → b ∈ exOf env σ (ws ++ ex) := fun b hb => by
    rcases List.mem_cons.mp hb with rfl | hb
    · exact .head _
    · refine List.mem_cons_of_mem _ ?_
      rcases List.mem_append.mp hb with hb | hb
      · exact List.mem_append_left _ hb
      · exact List.mem_append_right _ (List.mem_append_right _ hb)
  exact { base := S.base, g0 := S.g0, t0 := S.t0, tab := S.tab, ns := S.ns, newL := S.newL, wr := S.wr, apart := S.apart, cells := S.cells, proper := S.proper,
          slots := fun y s hy => by
            have q := S.slots y s hy
            cases s with
            | dat d => obtain ⟨u, V, r⟩ := q; exact ⟨u, V, r.sub hsub⟩
            | own b es => obtain ⟨V, hn, vs, n, hg, r⟩ := q; exact ⟨V, hn, vs, n, hg, r.sub hsub⟩
            | ownd b kvs => obtain ⟨V, hn, hs, us, hg, r⟩ := q; exact ⟨V, hn, hs, us, hg, r.sub hsub⟩
            | gho b es => obtain ⟨hn, vs, n, hg, r⟩ := q; exact ⟨hn, vs, n, hg, r.sub hsub⟩
          nodup := by
            have hn := S.nodup
            unfold exOf at hn ⊢
            exact List.Nodup.sublist (((List.Sublist.refl _).append (List.sublist_append_right _ _)).cons₂ _) hn
          alive := fun b hb => S.alive b (hsub b hb) }
/-- new addresses are left out of what stood before -/
theorem Sta.addEx {env : Env} {h₀ : Heap} {ex ws : List Addr} {s s' : Shared} (S : Sta C ec W env h₀ ex σ s.heap) (g : Go C s s') (hw : ∀ b ∈ ws, s.heap.get? b = none) (hl : ∀ b ∈ ws, s'.heap.get? b ≠ none) (hn : ws.Nodup) : Sta C ec W env h₀ (ws ++ ex) σ s'.heap := by
  have S1 := S.go g
  have hmem : ∀ b, b ∈ exOf env σ (ws ++ ex) ↔ b ∈ ws ∨ b ∈ exOf env σ ex := fun b => by
    simp only [exOf, List.mem_cons, List.mem_append]
    constructor
    · rintro (h | h | h | h)
      · exact .inr (.inl h)
      · exact .inr (.inr (.inl h))
      · exact .inl h
      · exact .inr (.inr (.inr h))
    · rintro (h | h | h | h)
      · exact .inr (.inr (.inl h))
      · exact .inl h
      · exact .inr (.inl h)
      · exact .inr (.inr (.inr h))
  have hmv : ∀ b o, b ∉ exOf env σ ex → s.heap.get? b = some o → Solid o → s'.heap.get? b = some o ∧ b ∉ exOf env σ (ws ++ ex) := fun b o hb e hs =>
    ⟨g.ext _ _ (S.tab.ne e hs.1) e, fun m => ((hmem b).mp m).elim (fun q => by rw [hw b q] at e; cases e) hb⟩
  exact { base := S1.base, g0 := S.g0, t0 := S.t0, tab := S1.tab, ns := S1.ns, newL := S.newL, wr := S1.wr, apart := S.apart, cells := S1.cells, proper := S.proper,
          slots := fun y s hy => by
            have q := S.slots y s hy
            have q1 := S1.slots y s hy
            cases s with
            | dat d => obtain ⟨u, V, r⟩ := q; exact ⟨u, V.ext S.tab g.ext, Rep.move hmv d u r⟩
            | own b es => obtain ⟨V, hn, vs, n, hg, r⟩ := q; exact ⟨V.ext S.tab g.ext, hn, vs, n, g.ext _ _ (S.tab.ne hg nofun) hg, RepL.move hmv es vs r⟩
            | ownd b kvs => obtain ⟨V, hn, hs, us, hg, r⟩ := q; exact ⟨V.ext S.tab g.ext, hn, hs, us, dictOf_ext hg S.tab g.ext, RepL.move hmv _ us r⟩
            | gho b es => obtain ⟨hn, vs, n, hg, r⟩ := q; exact ⟨hn, vs, n, g.ext _ _ (S.tab.ne hg nofun) hg, RepL.move hmv es vs r⟩
          nodup := by
            have h1 := S.nodup
            unfold exOf at h1 ⊢
            have h2 : (ws ++ (env.locals :: (owns σ ++ ex))).Nodup := List.nodup_append.mpr ⟨hn, h1, fun a ha b hb e => by
              subst e; exact S.alive a hb (hw a ha)⟩
            refine (List.Perm.nodup_iff ?_).mp h2
            refine List.perm_middle.trans (.cons _ ?_)
            rw [← List.append_assoc, ← List.append_assoc]
            exact List.perm_append_comm.append_right ex
          alive := fun b hb => ((hmem b).mp hb).elim (hl b) fun q => S1.alive b q }

/-- what an iterator hands out, step by step -/
structure Wk (C : Cfg) (A : Around) (target : Expr) (I : Addr) (fp wr : List Addr) (St : Nat → Heap → Prop) (es : List D) (vs : List Value) (ds : List D) : Prop where
  sub : ∀ b ∈ wr, b ∈ fp
  nodup : wr.Nodup
  frame : ∀ i h h', St i h → (∀ b ∈ fp, ∀ o, h.get? b = some o → h'.get? b = some o) → St i h'
  solid : ∀ i h, St i h → ∀ b ∈ fp, ∃ o, h.get? b = some o ∧ Solid o
  item : ∀ (i : Nat) (d : D) (s : Shared) (ex : List Addr) (Q : Value → Shared → Prop) (E : Value → Shared → Prop), ds[i]? = some d → St i s.heap → Alive s.heap ex → RepL C s.heap ex es vs → (∀ b ∈ wr, b ∈ ex) →
    (∀ v s', (∀ b o, b ∉ wr → s.heap.get? b = some o → s'.heap.get? b = some o) → s'.os = s.os → s'.gens = s.gens → St (i + 1) s'.heap → Rep C s'.heap ex d v → Q v s') →
    wpAny (model C.prog C.w) A (pyNext (.ref I)) (fun r s1 => ∃ v, r = some v ∧ wpAny (model C.prog C.w) A (letOwnedTupleGo target (.ref I) v) (fun _ s2 => Q v s2) E s1) E s
  done : ∀ (s : Shared) (Q : Option Value → Shared → Prop) (E : Value → Shared → Prop), St ds.length s.heap →
    (∀ s', (∀ b o, b ∉ wr → s.heap.get? b = some o → s'.heap.get? b = some o) → s'.os = s.os → s'.gens = s.gens → Q none s') → wpAny (model C.prog C.w) A (pyNext (.ref I)) Q E s

def Isrc (C : Cfg) (k : Nat) (ec : EC) (σ : Sto) (target iter : Expr) (ds : List D) (own cs : Bool) : Prop :=
  ∀ (A : Around) (W : List Str) (env : Env) (h₀ : Heap) (ex : List Addr) (s : Shared) (Q : Value → Shared → Prop) (E : Value → Shared → Prop),
    Room k A → EnvOK ec env → Sta C ec W env h₀ ex σ s.heap →
    (∀ I fp wr St es vs s', Go C s s' → Wk C A target I fp wr St es vs ds → St 0 s'.heap → (∀ b ∈ wr, s.heap.get? b = none) → (own = false → ∀ b ∈ fp, b ∉ wr → b ∉ exOf env σ ex) → (∀ b ∈ fp, b ∉ wr → s.heap.get? b ≠ none ∨ own = false) →
      RepL C s'.heap (wr ++ exOf env σ ex) es vs → (cs = true → ∀ (i : Nat) (t : Shared) (Q : Value → Shared → Prop) (E : Value → Shared → Prop), St i t.heap → Q (.ref I) t → wpAny (model C.prog C.w) A (pyIter (.ref I)) Q E t) → Q (.ref I) s') →
    wpAny (model C.prog C.w) A (eval iter env) (fun x s1 => wpAny (model C.prog C.w) A (pyIter x) Q E s1) E s

def Tg (C : Cfg) (k : Nat) (ec : EC) (W : List Str) (σ : Sto) (t : Expr) (d : D) (σ' : Sto) : Prop :=
  ∀ (A : Around) (env : Env) (h₀ : Heap) (ex : List Addr) (s : Shared) (v : Value) (Q : Unit → Shared → Prop) (E : Value → Shared → Prop),
    Room k A → EnvOK ec env → Sta C ec W env h₀ ex σ s.heap → Rep C s.heap (exOf env σ ex) d v →
    (∀ s', Gx s s' → Sta C ec W env h₀ ex σ' s'.heap → Q () s') → wpAny (model C.prog C.w) A (assign t env v) Q E s
theorem tg_name {x : Str} {p : Pos} {d : D} (hx : ec.kind x = some .local ∨ x ∈ W) : Tg C k ec W σ (.Name x p) d (σ.set x (.dat d)) :=
  fun A env h₀ ex s v Q E hr he S r hQ => wpAny_assign_Name (store_wp (sl := .dat d) he S hx r hQ)

theorem Sta.keeps2 {env : Env} {h₀ h h' : Heap} {ex : List Addr} {σ' : Sto} (S : Sta C ec W env h₀ ex σ h) (S' : Sta C ec W env (hid env W σ h) ex σ' h') {b : Addr} {o : Obj} (hb : b ∉ env.locals :: owns σ) (e : h.get? b = some o) (hs : Solid o) : h'.get? b = some o := by
  have hm : b ∉ env.locals :: (owns σ ++ wcells env W) := fun m => by
    rcases List.mem_cons.mp m with rfl | m
    · exact hb (.head _)
    · rcases List.mem_append.mp m with m | m
      · exact hb (List.mem_cons_of_mem _ m)
      · obtain ⟨x, hx, hc⟩ := List.mem_filterMap.mp m
        obtain ⟨_, c, v, hc', ⟨oc, ho, hd⟩, hn⟩ := S.wr x hx
        rw [hc] at hc'; cases hc'
        rw [e] at ho; cases ho
        exact hs.2 _ hd
  exact S'.base _ _ (S.tab.ne e hs.1) (hideAll_get _ e hm)

def LoopOut (I : Nat → Sto → Prop) (i : Nat) (Φ : Out → Prop) : Out → Prop
  | .next τ | .cont τ => I (i + 1) τ
  | .brk τ => Φ (.next τ)
  | .ret d => Φ (.ret d)

theorem x1_for {target iter : Expr} {body : List Stmt} {pos : Pos} {ds : List D} {cs : Bool} {Φ : Out → Prop} (I : Nat → Sto → Prop) (hsrc : Isrc C k ec σ target iter ds false cs) (h0 : I 0 σ)
    (turn : ∀ i σ' d, I i σ' → ds[i]? = some d → ∃ σ'', Tg C k ec W σ' target d σ'' ∧ Xs C k ec W σ'' body (LoopOut I i Φ))
    (hend : ∀ σ', I ds.length σ' → Φ (.next σ')) (hf : ∀ env x, foldedSetIterable iter env x = pure x) : X1 C k ec W σ (.For target iter body [] pos) Φ := by
  intro A env h₀ ex s Q E hr he S hQ
  refine wpAny_For (hsrc _ _ _ _ _ _ _ _ hr he S fun It fp wr St es vs s1 g1 wk st0 hw hfp _ rl _ => ?_) (hf env)
  have hlive : ∀ i h, St i h → ∀ b ∈ wr, h.get? b ≠ none := fun i h st b hb => by
    obtain ⟨o, ho, _⟩ := wk.solid i h st b (wk.sub b hb); rw [ho]; nofun
  have S1 := S.addEx g1 hw (hlive 0 _ st0) wk.nodup
  have hside : Side ec env h₀ (wr ++ ex) wr := {
    ex := fun a ha => List.mem_append_left _ ha
    new := fun a ha => by
      cases q : h₀.get? a with
      | none => rfl
      | some o =>
        by_cases hP : a = C.P
        · subst hP; obtain ⟨ps, hp, _⟩ := S.tab; rw [hw _ ha] at hp; cases hp
        · have := S.base a o hP q; rw [hw a ha] at this; cases this
    loc := fun m => S.alive _ (.head _) (hw _ m)
    cells := fun x c hc m => by obtain ⟨v, o, ho, _⟩ := S.cells x c hc; rw [hw c m] at ho; cases ho }
  have hfp1 : ∀ b ∈ fp, b ∉ wr → b ∉ exOf env σ (wr ++ ex) := fun b hb hnw m => by
    rcases List.mem_cons.mp m with rfl | m
    · exact hfp rfl _ hb hnw (.head _)
    · rcases List.mem_append.mp m with m | m
      · exact hfp rfl _ hb hnw (List.mem_cons_of_mem _ (List.mem_append_left _ m))
      · rcases List.mem_append.mp m with m | m
        · exact hnw m
        · exact hfp rfl _ hb hnw (List.mem_cons_of_mem _ (List.mem_append_right _ m))
  refine codeAny_forLoop_any (fun n t => ∃ i σ', n + i = ds.length ∧ I i σ' ∧ St i t.heap ∧ Sta C ec W env h₀ (wr ++ ex) σ' t.heap ∧ (∀ b ∈ fp, b ∉ wr → b ∉ exOf env σ' (wr ++ ex)) ∧ RepL C t.heap (exOf env σ' (wr ++ ex)) es vs ∧ Gx s t) ?_ ds.length ?_
  · rintro n t ⟨i, σ', hn, hI, st, S', hfp', rl', g⟩
    cases n with
    | zero =>
      have hi : i = ds.length := by omega
      subst hi
      refine wk.done _ _ _ st fun t' hk' ho hg => ?_
      have S'' : Sta C ec W env h₀ ex σ' t'.heap := by
        -- nothing that is known lies at the iterator
        have hex : ∀ b, b ∉ exOf env σ' (wr ++ ex) → b ∉ wr := fun b hb m => hb (List.mem_cons_of_mem _ (List.mem_append_right _ (List.mem_append_left _ m)))
        have hdis : ∀ b ∈ owns σ' ++ ex, b ∉ wr := fun b hb m => by
          have hnd := (List.nodup_cons.mp S'.nodup).2
          rcases List.mem_append.mp hb with hb | hb
          · exact (List.nodup_append.mp hnd).2.2 b hb b (List.mem_append_left _ m) rfl
          · exact (List.nodup_append.mp (List.nodup_append.mp hnd).2.1).2.2 b m b hb rfl
        have hmv : ∀ b o, b ∉ exOf env σ' (wr ++ ex) → t.heap.get? b = some o → Solid o → t'.heap.get? b = some o ∧ b ∉ exOf env σ' ex := fun b o hb e _ => ⟨hk' _ _ (hex b hb) e, fun m => by
          rcases List.mem_cons.mp m with rfl | m
          · exact hb (.head _)
          · rcases List.mem_append.mp m with m | m
            · exact hb (List.mem_cons_of_mem _ (List.mem_append_left _ m))
            · exact hb (List.mem_cons_of_mem _ (List.mem_append_right _ (List.mem_append_right _ m)))⟩
        have hP : C.P ∉ wr := fun m => S.notP (hside.new _ m) rfl
        exact { base := fun b o hb e => hk' b o (fun m => by rw [hside.new b m] at e; cases e) (S'.base b o hb e), g0 := S'.g0, t0 := S'.t0, tab := S'.tab.keeps fun o e => hk' _ _ hP e,
                ns := let ⟨m, o, es, ep, ho, r⟩ := S'.ns; ⟨m, o, es, ep, hk' _ _ hside.loc ho, r⟩, newL := S'.newL,
                wr := fun x hx => let ⟨q, c, v, hc, ⟨o, ho, hd⟩, hn⟩ := S'.wr x hx; ⟨q, c, v, hc, ⟨o, hk' _ _ (hside.cells _ _ hc) ho, hd⟩, hn⟩, apart := S'.apart,
                cells := fun x c hc => let ⟨v, o, ho, hd⟩ := S'.cells x c hc; ⟨v, o, hk' _ _ (hside.cells _ _ hc) ho, hd⟩, proper := S'.proper,
                slots := fun y sl hy => by
                  have q := S'.slots y sl hy
                  cases sl with
                  | dat d => obtain ⟨u, V, r⟩ := q; exact ⟨u, V.side hside hk', Rep.move hmv d u r⟩
                  | own b es => obtain ⟨V, hn, vs, n, hg, r⟩ := q; exact ⟨V.side hside hk', hn, vs, n, hk' _ _ (hdis b (List.mem_append_left _ (mem_owns hy (by simp [Slot.addr])))) hg, RepL.move hmv es vs r⟩
                  | ownd b kvs => obtain ⟨V, hn, hs, us, hg, r⟩ := q; exact ⟨V.side hside hk', hn, hs, us, dictOf_move hg fun o ho _ => hk' _ _ (hdis b (List.mem_append_left _ (mem_owns hy (by simp [Slot.addr])))) ho, RepL.move hmv _ us r⟩
                  | gho b es => obtain ⟨hn, vs, n, hg, r⟩ := q; exact ⟨hn, vs, n, hk' _ _ (hdis b (List.mem_append_left _ (mem_owns hy (by simp [Slot.addr])))) hg, RepL.move hmv es vs r⟩
                nodup := S'.dropEx.nodup,
                alive := fun b hb => by
                  have hb' : b ∉ wr := by
                    rcases List.mem_cons.mp hb with rfl | hb
                    · exact hside.loc
                    · exact hdis b hb
                  cases q : t.heap.get? b with
                  | none => exact absurd q (S'.dropEx.alive b hb)
                  | some o => rw [hk' b o hb' q]; nofun }
      exact wpAny_execs_nil (hQ _ _ _ (hend σ' hI) ⟨rfl, S''⟩ (g.trans ⟨ho, by rw [hg]; exact id⟩))
    | succ n =>
      have hlt : i < ds.length := by omega
      obtain ⟨d, hd⟩ : ∃ d, ds[i]? = some d := ⟨_, List.getElem?_eq_getElem hlt⟩
      obtain ⟨σ'', htg, hxs⟩ := turn i σ' d hI hd
      refine wpAny_mono (wk.item i d t (exOf env σ' (wr ++ ex)) (fun v t2 => wpAny (model C.prog C.w) A (assign target env v) (fun _ s₂ => wpAny (model C.prog C.w) A (execs body env) (fun f s₃ => match f with
            | .next | .cont => ∃ m, m < n + 1 ∧ (∃ i σ', m + i = ds.length ∧ I i σ' ∧ St i s₃.heap ∧ Sta C ec W env h₀ (wr ++ ex) σ' s₃.heap ∧ (∀ b ∈ fp, b ∉ wr → b ∉ exOf env σ' (wr ++ ex)) ∧ RepL C s₃.heap (exOf env σ' (wr ++ ex)) es vs ∧ Gx s s₃)
            | .brk => Q .next s₃
            | .ret v => Q (.ret v) s₃) (notedBy (model C.prog C.w) A env fun e s' => cameBackBy (model C.prog C.w) A env E e s') s₂) (notedBy (model C.prog C.w) A env fun e s' => cameBackBy (model C.prog C.w) A env E e s') t2) (notedBy (model C.prog C.w) A env fun e s' => cameBackBy (model C.prog C.w) A env E e s') hd st S'.alive rl' (fun b hb => List.mem_cons_of_mem _ (List.mem_append_right _ (List.mem_append_left _ hb))) ?_) (fun r s1 hr1 => ?_) (fun _ _ h => h)
      · intro v t2 hk2 ho2 hg2 st2 rv
        have S2 := S'.side hside hk2 (hlive _ _ st2)
        have hexw : ∀ b, b ∉ exOf env σ' (wr ++ ex) → b ∉ wr := fun b hb m => hb (List.mem_cons_of_mem _ (List.mem_append_right _ (List.mem_append_left _ m)))
        have rl2 : RepL C t2.heap (exOf env σ' (wr ++ ex)) es vs := RepL.move (fun b o hb e _ => ⟨hk2 _ _ (hexw b hb) e, hb⟩) es vs rl'
        refine htg A env _ (wr ++ ex) t2 v _ _ hr he S2.up rv fun t3 g3 S3 => ?_
        refine hxs A env _ (wr ++ ex) t3 _ _ hr he S3 fun f t4 o ho hf g4 => ?_
        have gg : Gx s t4 := (g.trans ⟨ho2, by rw [hg2]; exact id⟩).trans (g3.trans g4)
        have again : ∀ τ, Sta C ec W env (hid env W σ' t2.heap) (wr ++ ex) τ t4.heap → I (i + 1) τ → ∃ m, m < n + 1 ∧ (∃ i σ', m + i = ds.length ∧ I i σ' ∧ St i t4.heap ∧ Sta C ec W env h₀ (wr ++ ex) σ' t4.heap ∧ (∀ b ∈ fp, b ∉ wr → b ∉ exOf env σ' (wr ++ ex)) ∧ RepL C t4.heap (exOf env σ' (wr ++ ex)) es vs ∧ Gx s t4) := fun τ S4 hτ => by
          refine ⟨n, Nat.lt_succ_self n, i + 1, τ, by omega, hτ, wk.frame _ _ _ st2 (fun b hb o e => ?_), S2.down S4, fun b hb hnw => ?_, S2.repL_on S4 rl2, gg⟩
          · obtain ⟨o', ho', hs'⟩ := wk.solid _ _ st2 b hb
            rw [e] at ho'; cases ho'
            refine S2.keeps2 S4 (fun m => ?_) e hs'
            by_cases hbw : b ∈ wr
            · rcases List.mem_cons.mp m with rfl | m
              · exact hside.loc hbw
              · exact (List.nodup_append.mp (List.nodup_cons.mp S'.nodup).2).2.2 b m b (List.mem_append_left _ hbw) rfl
            · refine hfp' b hb hbw ?_
              rcases List.mem_cons.mp m with rfl | m
              · exact .head _
              · exact List.mem_cons_of_mem _ (List.mem_append_left _ m)
          · obtain ⟨o', ho', hs'⟩ := wk.solid _ _ st2 b hb
            exact (S2.keeps S4 (hfp' b hb hnw) ho' hs').2
        cases o with
        | next τ => obtain ⟨rfl, S4⟩ := hf; exact again τ S4 ho
        | cont τ => obtain ⟨rfl, S4⟩ := hf; exact again τ S4 ho
        | brk τ => obtain ⟨rfl, S4⟩ := hf; exact hQ _ _ _ ho ⟨rfl, (S2.down S4).dropEx⟩ gg
        | ret d =>
          obtain ⟨u, rfl, hb, ht, r⟩ := hf
          exact hQ _ _ _ ho ⟨u, rfl, S2.hid_ext.trans hb, ht, r.sub fun b m => List.mem_append_right _ m⟩ gg
      · obtain ⟨v, rfl, h⟩ := hr1
        exact h
  · refine ⟨0, σ, by omega, h0, st0, S1, hfp1, ?_, g1.gx⟩
    refine rl.sub fun b hb => ?_
    rcases List.mem_cons.mp hb with rfl | hb
    · exact List.mem_append_right _ (.head _)
    · rcases List.mem_append.mp hb with hb | hb
      · exact List.mem_append_right _ (List.mem_cons_of_mem _ (List.mem_append_left _ hb))
      · rcases List.mem_append.mp hb with hb | hb
        · exact List.mem_append_left _ hb
        · exact List.mem_append_right _ (List.mem_cons_of_mem _ (List.mem_append_right _ hb))
end Mine
namespace Mine
open PySem PySem.W PyProof.Rows PySem.Calls PySem.Spec

variable {C : Cfg} {k : Nat} {ec : EC} {σ : Sto} {W : List Str}

theorem rep_same {h h' : Heap} {ex : List Addr} {d : D} {v : Value} {I : Addr} (r : Rep C h ex d v) (hs : Heap.SameBut I h h') (hI : I ∈ ex) : Rep C h' ex d v :=
  Rep.move (fun b o hb e _ => ⟨(hs.2 b fun q => hb (q ▸ hI)).trans e, hb⟩) d v r
theorem rep_keepI {h h' : Heap} {ex : List Addr} {d : D} {v : Value} {I : Addr} (r : Rep C h ex d v) (hs : ∀ b o, b ≠ I → h.get? b = some o → h'.get? b = some o) (hI : I ∈ ex) : Rep C h' ex d v :=
  Rep.move (fun b o hb e _ => ⟨hs b o (fun q => hb (q ▸ hI)) e, hb⟩) d v r

/-- the target takes no tuple apart, or the items are tuples -/
def TgOk (target : Expr) (ds : List D) : Prop := (∃ x p, target = .Name x p) ∨ ∃ elts n p, target = .Tuple elts n p ∧ ∀ d ∈ ds, ∃ l, d = .tup l

theorem wk_list {A : Around} (hh : A.handled = none) {target : Expr} {I ax : Addr} {vs : List Value} {n : Nat} {ds : List D} (hne : ax ≠ I) (hl : ds.length = vs.length) (ht : TgOk target ds) :
    Wk C A target I [I, ax] [I] (fun i h => h.IsListIter I ax i ∧ h.get? ax = some (lstObj vs n)) ds vs ds where
  sub := fun b hb => by simp at hb; simp [hb]
  nodup := by simp
  frame := fun _ _ _ st hk => ⟨st.1.at fun o e => hk I (by simp) o e, hk ax (by simp) _ st.2⟩
  solid := fun i h st b hb => by
    simp only [List.mem_cons, List.not_mem_nil, or_false] at hb
    rcases hb with rfl | rfl
    · obtain ⟨o, ho, hc, hd⟩ := st.1
      exact ⟨o, ho, by rw [hc]; nofun, by rw [hd]; nofun⟩
    · exact ⟨_, st.2, nofun, nofun⟩
  item := fun i d s ex Q E hd st _ rl hex hQ => by
    obtain ⟨v, hv, rv⟩ := rl.get i d hd
    refine wpAny_pyNext_list_item st.1 (lst_at st.2) (x := v) (by simpa using hv) fun h' hit hs => ⟨v, rfl, ?_⟩
    have fin : Q v { s with heap := h' } := hQ v _ (fun b o hb e => (hs.2 b (by simpa using hb)).trans e) rfl rfl ⟨hit, (hs.2 ax hne).trans st.2⟩ (rep_same rv hs (hex I (.head _)))
    rcases ht with ⟨x, p, rfl⟩ | ⟨elts, m, p, rfl, ht⟩
    · exact wpAny_pure fin
    · obtain ⟨l, rfl⟩ := ht d (List.mem_of_getElem? hd)
      simp only [Rep] at rv
      obtain ⟨a, _, _, rfl, _⟩ := rv
      exact wpAny_letOwnedTupleGo_listiter hit fin
  done := fun s Q E st hQ => by
    refine wpAny_pyNext_list_end hh st.1 (lst_at st.2) (by simp [hl]) fun h' hs => ?_
    exact hQ _ (fun b o hb e => hs b o (by simpa using hb) e) rfl rfl

theorem isrc_list {target iter : Expr} {ds : List D} (h : Ev C k ec σ iter (.lst ds)) (ht : TgOk target ds) : Isrc C k ec σ target iter ds false true := by
  intro A W env h₀ ex s Q E hr he S hQ
  refine h _ _ _ _ _ _ _ _ hr he S fun v s1 g1 r1 => ?_
  simp only [Rep] at r1
  obtain ⟨a, vs, n, rfl, hna, ha, r⟩ := r1
  have S1 := S.go g1
  refine wpAny_pyIter_list (lst_at ha) ?_
  have hlt : a < s1.heap.objs.size := Heap.lt_size ha
  have hex : ∀ b ∈ exOf env σ ex, b ≠ s1.heap.objs.size := fun b hb e => (S1.pre hr).alive.fresh (e ▸ hb)
  refine hQ s1.heap.objs.size [s1.heap.objs.size, a] [s1.heap.objs.size] _ ds vs _ (g1.trans (.push _ rfl)) (wk_list hr.handled (n := n) (Nat.ne_of_lt hlt) r.length.symm ht) ⟨⟨_, Heap.get?_push_size _ rfl, rfl, rfl⟩, Heap.get?_push_of_some _ ha⟩ (fun b hb => ?_) (fun _ b hb hnb => ?_) (fun b hb hnb => .inr rfl) ?_ (fun _ i t Q E st hq => wpAny_pyIter_listiter st.1 hq)
  · simp at hb; subst hb
    cases q : s.heap.get? s1.heap.objs.size with
    | none => rfl
    | some o =>
      by_cases hP : s1.heap.objs.size = C.P
      · obtain ⟨ps, hp, _⟩ := S1.tab
        rw [← hP] at hp
        exact absurd (Heap.lt_size hp) (Nat.lt_irrefl _)
      · exact absurd (Heap.lt_size (g1.ext _ _ hP q)) (Nat.lt_irrefl _)
  · simp at hb hnb
    rcases hb with rfl | rfl
    · exact absurd rfl hnb
    · exact hna
  · refine RepL.move (fun b o hb e _ => ⟨Heap.get?_push_of_some _ e, fun m => ?_⟩) ds vs r
    rcases List.mem_append.mp m with m | m
    · simp at m; subst m; exact absurd (Heap.lt_size e) (Nat.lt_irrefl _)
    · exact hb m

theorem fresh_old {s s1 : Shared} (S1 : TabOK C s1.heap) (g : Go C s s1) {a : Addr} (ha : s1.heap.objs.size ≤ a) : s.heap.get? a = none := by
  cases q : s.heap.get? a with
  | none => rfl
  | some o =>
    by_cases hP : a = C.P
    · obtain ⟨ps, hp, _⟩ := S1
      rw [← hP] at hp
      have := Heap.lt_size hp
      exact absurd ha (Nat.not_le_of_lt this)
    · have := Heap.lt_size (g.ext _ _ hP q)
      exact absurd ha (Nat.not_le_of_lt this)

/-- an own list read, not changed -/
theorem isrc_own {x : Str} {p : Pos} {target : Expr} {a : Addr} {ds : List D} (hx : σ.lookup x = some (.own a ds)) (h1 : (x == ("__debug__" : Str)) = false) (h2 : (x == ("__classdict__" : Str)) = false) (ht : TgOk target ds) : Isrc C k ec σ target (.Name x p) ds true true := by
  intro A W env h₀ ex s Q E hr he S hQ
  obtain ⟨V, _, vs, n, ha, r⟩ := S.slots _ _ hx
  refine name_wp (W := W) (h₀ := h₀) (ex := ex) he V h1 h2 ?_
  refine wpAny_pyIter_list (lst_at ha) ?_
  have hlt : a < s.heap.objs.size := Heap.lt_size ha
  refine hQ s.heap.objs.size [s.heap.objs.size, a] [s.heap.objs.size] _ ds vs _ (.push _ rfl) (wk_list hr.handled (n := n) (Nat.ne_of_lt hlt) r.length.symm ht) ⟨⟨_, Heap.get?_push_size _ rfl, rfl, rfl⟩, Heap.get?_push_of_some _ ha⟩ (fun b hb => ?_) (fun e => nomatch e) (fun b hb hnb => .inl ?_) ?_ (fun _ i t Q E st hq => wpAny_pyIter_listiter st.1 hq)
  · simp at hb; subst hb
    exact fresh_old S.tab (.refl s) (Nat.le_refl _)
  · simp at hb hnb
    rcases hb with rfl | rfl
    · exact absurd rfl hnb
    · rw [ha]; nofun
  · refine RepL.move (fun b o hb e _ => ⟨Heap.get?_push_of_some _ e, fun m => ?_⟩) ds vs r
    rcases List.mem_append.mp m with m | m
    · simp at m; subst m; exact absurd (Heap.lt_size e) (Nat.lt_irrefl _)
    · exact hb m

def rangeD (a : Int) (n : Nat) : List D := (List.range n).map fun (i : Nat) => D.int (a + (i : Int))
theorem rangeD_get {a : Int} {n i : Nat} {d : D} (h : (rangeD a n)[i]? = some d) : i < n ∧ d = .int (a + i) := by
  unfold rangeD at h
  rw [List.getElem?_map, Option.map_eq_some_iff] at h
  obtain ⟨j, hj, rfl⟩ := h
  obtain ⟨h1, h2⟩ := List.getElem?_eq_some_iff.mp hj
  simp at h1 h2
  subst h2
  exact ⟨h1, rfl⟩
theorem rangeD_len {a : Int} {n : Nat} : (rangeD a n).length = n := by simp [rangeD]

theorem wk_range {A : Around} (hh : A.handled = none) {x : Str} {p : Pos} {I : Addr} {a : Int} {n : Nat} :
    Wk C A (.Name x p) I [I] [I] (fun i h => IsRangeIter h I (a + i) ((n : Int) - i) 1) [] [] (rangeD a n) where
  sub := fun b hb => hb
  nodup := by simp
  frame := fun _ _ _ st hk => hk I (by simp) _ st
  solid := fun i h st b hb => by simp at hb; subst hb; exact ⟨_, st, nofun, nofun⟩
  item := fun i d s ex Q E hd st _ rl hex hQ => by
    obtain ⟨hi, rfl⟩ := rangeD_get hd
    refine wpAny_pyNext_range_item st (by omega) fun h' hit hs => ⟨_, rfl, wpAny_pure ?_⟩
    refine hQ _ _ (fun b o hb e => (hs.2 b (by simpa using hb)).trans e) rfl rfl ?_ rep_int
    have e1 : a + (i : Int) + 1 = a + ((i + 1 : Nat) : Int) := by push_cast; omega
    have e2 : (n : Int) - i - 1 = (n : Int) - ((i + 1 : Nat) : Int) := by push_cast; omega
    rw [← e1, ← e2]; exact hit
  done := fun s Q E st hQ => by
    refine wpAny_pyNext_range_end hh st (by rw [rangeD_len]; omega) fun h' hs => ?_
    exact hQ _ (fun b o hb e => hs b o (by simpa using hb) e) rfl rfl

theorem range_src {A : Around} {env : Env} {ex : List Addr} {h₀ : Heap} {s s1 : Shared} {x : Str} {p : Pos} {a b : Int} {t u v : Tok} {n : Nat} {Q : Value → Shared → Prop} {E : Value → Shared → Prop} (hr : Room k A) (S : Sta C ec W env h₀ ex σ s.heap) (g : Go C s s1)
    (hn : Builtin.Range.rangeSize a b 1 = n) (hsm : Builtin.Range.small a b 1 = true)
    (hQ : ∀ I fp wr St es vs s', Go C s s' → Wk C A (.Name x p) I fp wr St es vs (rangeD a n) → St 0 s'.heap → (∀ b ∈ wr, s.heap.get? b = none) → (false = false → ∀ b ∈ fp, b ∉ wr → b ∉ exOf env σ ex) → (∀ b ∈ fp, b ∉ wr → s.heap.get? b ≠ none ∨ false = false) →
      RepL C s'.heap (wr ++ exOf env σ ex) es vs → (true = true → ∀ (i : Nat) (t : Shared) (Q : Value → Shared → Prop) (E : Value → Shared → Prop), St i t.heap → Q (.ref I) t → wpAny (model C.prog C.w) A (pyIter (.ref I)) Q E t) → Q (.ref I) s') :
    wpAny (model C.prog C.w) A (pyIter (.ref s1.heap.objs.size)) Q E { s1 with heap := s1.heap.push { cls := .type "range", data := .fields #[.int a t, .int b u, .int 1 v] } } := by
  refine wpAny_pyIter_range (IsRange.new ..) hsm ?_
  refine hQ _ [_] [_] _ [] [] _ (g.trans (.keep fun _ _ e => Heap.get?_push_of_some _ (Heap.get?_push_of_some _ e))) (wk_range hr.handled (a := a) (n := n)) ?_ (fun c hc => ?_) (fun _ c hc hnc => absurd hc hnc) (fun c hc hnc => absurd hc hnc) .nil (fun _ i t Q E st hq => wpAny_pyIter_rangeiter st hq)
  · have e1 : a + ((0 : Nat) : Int) = a := by simp
    have e2 : (n : Int) - ((0 : Nat) : Int) = Builtin.Range.rangeSize a b 1 := by rw [hn]; simp
    rw [e1, e2]
    exact Heap.get?_push_size _ rfl
  · simp at hc; subst hc
    refine fresh_old (S.go g).tab g ?_
    simp [Heap.size_push]

theorem isrc_range1 {e : Expr} {N : Int} {x : Str} {p rp rpos : Pos} (h : Ev C k ec σ e (.int N)) (h1 : 0 ≤ N) (h2 : N < 2 ^ 62) (hk : ec.kind "range" = some .globalImplicit) (hg : C.mg "range" = none) (hb : C.mb "range" = some (.type "range"))
    (hse : ∀ env, backTo rpos (starEach [e] env) = [(false, eval e env)]) : Isrc C k ec σ (.Name x p) (.Call (.Name "range" rp) [e] [] rpos) (rangeD 0 N.toNat) false true := by
  intro A W env h₀ ex s Q E hr he S hQ
  refine wpAny_Call_NameR (ev_built hk hg hb (by decide) _ _ _ _ _ _ _ _ hr he S fun f s1 g1 r1 => ?_)
  simp only [Rep] at r1
  subst r1
  rw [hse env]
  refine PySem.callWith_type rfl (evalArgs_plain (spliced_cons (h _ _ _ _ _ _ _ _ hr he (S.go g1) fun nv s2 g2 r2 => spliced_nil ?_)))
  simp only [Rep] at r2
  obtain ⟨t, rfl⟩ := r2
  refine call_range_1 ?_
  refine range_src (s1 := { s2 with toks := s2.toks + 1 + 1 }) hr S ((g1.trans g2).trans (.keep fun _ _ e => e)) ?_ (small_one (by decide) (by decide) (by omega) (by omega)) hQ
  rw [rangeSize_one]; split <;> omega
theorem isrc_range2 {e f : Expr} {M N : Int} {x : Str} {p rp rpos : Pos} (h : Ev C k ec σ e (.int M)) (h' : Ev C k ec σ f (.int N)) (h0 : 0 ≤ M) (h1 : M < 2 ^ 62) (h2 : 0 ≤ N) (h3 : N < 2 ^ 62) (hk : ec.kind "range" = some .globalImplicit) (hg : C.mg "range" = none) (hb : C.mb "range" = some (.type "range"))
    (hse : ∀ env, backTo rpos (starEach [e, f] env) = [(false, eval e env), (false, eval f env)]) : Isrc C k ec σ (.Name x p) (.Call (.Name "range" rp) [e, f] [] rpos) (rangeD M (N - M).toNat) false true := by
  intro A W env h₀ ex s Q E hr he S hQ
  refine wpAny_Call_NameR (ev_built hk hg hb (by decide) _ _ _ _ _ _ _ _ hr he S fun fv s1 g1 r1 => ?_)
  simp only [Rep] at r1
  subst r1
  rw [hse env]
  refine PySem.callWith_type rfl (evalArgs_plain (spliced_cons (h _ _ _ _ _ _ _ _ hr he (S.go g1) fun nv s2 g2 r2 => spliced_cons (h' _ _ _ _ _ _ _ _ hr he ((S.go g1).go g2) fun nv2 s3 g3 r3 => spliced_nil ?_))))
  simp only [Rep] at r2 r3
  obtain ⟨t, rfl⟩ := r2
  obtain ⟨u, rfl⟩ := r3
  refine call_range_2 ?_
  refine range_src (s1 := { s3 with toks := s3.toks + 1 }) hr S (((g1.trans g2).trans g3).trans (.keep fun _ _ e => e)) ?_ (small_one (by omega) (by omega) (by omega) (by omega)) hQ
  rw [rangeSize_one]; split <;> omega

/-- the pairs of a dict -/
def pairD (keys : List Str) (es : List D) : List D := (keys.zip es).map fun p => .tup [.str p.1, p.2]
theorem dictAt_of {h : Heap} {a : Addr} {kvs : List (Str × Value)} (x : h.DictOf (kS C) a kvs) : ∃ ep, h.DictAt (kS C) a kvs ep := by
  obtain ⟨o, es, ep, r⟩ := x
  exact ⟨ep, o, es, r⟩
theorem dictAt_keep {h h' : Heap} {a : Addr} {kvs : List (Str × Value)} {ep : Nat} (x : h.DictAt (kS C) a kvs ep) (hk : ∀ o, h.get? a = some o → h'.get? a = some o) : h'.DictAt (kS C) a kvs ep := by
  obtain ⟨o, es, ho, r⟩ := x
  exact ⟨o, es, hk _ ho, r⟩
theorem dictAt_solid {h : Heap} {a : Addr} {kvs : List (Str × Value)} {ep : Nat} (x : h.DictAt (kS C) a kvs ep) : ∃ o, h.get? a = some o ∧ Solid o := by
  obtain ⟨o, es, ho, he, hd, r⟩ := x
  exact ⟨o, ho, by rw [he.1]; nofun, by rw [hd]; nofun⟩
theorem wk_items {A : Around} (hh : A.handled = none) {elts : List Expr} {n : Nat} {p : Pos} {I a : Addr} {keys : List Str} {es : List D} {us : List Value} {ep : Nat} (hne : a ≠ I) (hl : keys.length = us.length) (hl2 : es.length = us.length) :
    Wk C A (.Tuple elts n p) I [I, a] [I] (fun i h => (∃ ok ov, IsItemIter h I a i (keys.zip us).length ep ok ov) ∧ h.DictAt (kS C) a (keys.zip us) ep) es us (pairD keys es) where
  sub := fun b hb => by simp at hb; simp [hb]
  nodup := by simp
  frame := fun _ _ _ st hk => ⟨let ⟨ok, ov, e⟩ := st.1; ⟨ok, ov, hk I (by simp) _ e⟩, dictAt_keep st.2 fun o e => hk a (by simp) o e⟩
  solid := fun i h st b hb => by
    simp only [List.mem_cons, List.not_mem_nil, or_false] at hb
    rcases hb with rfl | rfl
    · obtain ⟨ok, ov, e⟩ := st.1
      exact ⟨_, e, nofun, nofun⟩
    · exact dictAt_solid st.2
  item := fun i d s ex Q E hd st al rl hex hQ => by
    obtain ⟨⟨ok, ov, hit⟩, hda⟩ := st
    unfold pairD at hd
    rw [List.getElem?_map, Option.map_eq_some_iff] at hd
    obtain ⟨⟨key, e⟩, hz, rfl⟩ := hd
    obtain ⟨hk1, hk2⟩ := List.getElem?_zip_eq_some.mp hz
    obtain ⟨v, hv, rv⟩ := rl.get i e hk2
    refine wpAny_pyNext_items_item (k := key) (v := v) hit hda (List.getElem?_zip_eq_some.mpr ⟨hk1, hv⟩) fun kv h' hkey hout htup hsz hkeep => ⟨_, rfl, ?_⟩
    have hfr : s.heap.objs.size ∉ ex := al.fresh
    refine wpAny_letOwnedTupleGo_items hout fun h'' hit' hs => ?_
    have hIn : s.heap.objs.size ≠ I := fun q => hfr (q ▸ hex I (.head _))
    refine hQ _ _ (fun b o hb e => (hs.2 b (by simpa using hb)).trans (hkeep b o (by simpa using hb) e)) rfl rfl ⟨⟨_, _, hit'⟩, dictAt_keep hda fun o e => (hs.2 a hne).trans (hkeep a o hne e)⟩ ?_
    obtain ⟨t, rfl⟩ := Value.isStrOf_shape hkey
    simp only [Rep]
    refine ⟨_, [.str key t, v], 0, rfl, hfr, (hs.2 _ hIn).trans htup, .cons (by simp only [Rep]; exact ⟨t, rfl⟩) (.one ?_)⟩
    exact Rep.move (fun b o hb e _ => ⟨(hs.2 b fun q => hb (q ▸ hex I (.head _))).trans (hkeep b o (fun q => hb (q ▸ hex I (.head _))) e), hb⟩) e v rv
  done := fun s Q E st hQ => by
    obtain ⟨⟨ok, ov, hit⟩, hda⟩ := st
    refine wpAny_pyNext_items_end hh hit hda ?_ fun h' hs => ?_
    · rw [List.getElem?_eq_none]
      simp [pairD, hl, hl2]
    · exact hQ _ (fun b o hb e => hs b o (by simpa using hb) e) rfl rfl

theorem isrc_items {x : Str} {xp apos pos : Pos} {elts : List Expr} {n : Nat} {p : Pos} {d : D} {keys : List Str} {es : List D} (hx : σ.lookup x = some (.dat d)) (hd : (d = .d0 ∧ keys = [] ∧ es = []) ∨ ∃ f g, d = .d2 f g ∧ keys = [Str.ofString "f", Str.ofString "g"] ∧ es = [f, g]) (h1 : (x == ("__debug__" : Str)) = false) (h2 : (x == ("__classdict__" : Str)) = false)
    (hb : ∀ env, attributeBase (.Name x xp) "items" env (eval (.Name x xp) env) = eval (.Name x xp) env) (hl : (apos.endLine == pos.line) = true) :
    Isrc C k ec σ (.Tuple elts n p) (.Call (.Attribute (.Name x xp) "items" apos) [] [] pos) (pairD keys es) false false := by
  intro A W env h₀ ex s Q E hr he S hQ
  obtain ⟨v, V, r⟩ := S.slots _ _ hx
  have hdict : ∃ a us, v = .ref a ∧ a ∉ exOf env σ ex ∧ (a == sysModules) = false ∧ s.heap.DictOf (kS C) a (keys.zip us) ∧ RepL C s.heap (exOf env σ ex) es us ∧ keys.length = us.length := by
    rcases hd with ⟨rfl, rfl, rfl⟩ | ⟨f, g, rfl, rfl, rfl⟩
    · simp only [Rep] at r
      obtain ⟨a, rfl, h1, h2, h3⟩ := r
      exact ⟨a, [], rfl, h1, h2, h3, .nil, rfl⟩
    · simp only [Rep] at r
      obtain ⟨a, y, z, rfl, h1, h2, h3, r1, r2⟩ := r
      exact ⟨a, [y, z], rfl, h1, h2, h3, .cons r1 (.one r2), rfl⟩
  obtain ⟨a, us, rfl, hna, hsys, hdo, rl, hlen⟩ := hdict
  refine wpAny_Call_items hsys hdo (hb env) hl (fun Q' hq => name_wp (W := W) (h₀ := h₀) (ex := ex) he V h1 h2 hq) ?_
  obtain ⟨ep, hda⟩ := dictAt_of hdo
  have hla : a < s.heap.objs.size := by obtain ⟨o, _, ho, _⟩ := hda; exact Heap.lt_size ho
  refine wpAny_pyIter_items (d := a) (kvs := keys.zip us) (ep := ep) ⟨_, Heap.get?_push_size _ rfl, rfl, rfl⟩ (dictAt_keep hda fun o e => Heap.get?_push_of_some _ e) ?_
  refine hQ _ [_, a] [_] _ es us _ (.keep fun _ _ e => Heap.get?_push_of_some _ (Heap.get?_push_of_some _ e)) (wk_items (a := a) (ep := ep) (keys := keys) hr.handled ?_ hlen rl.length.symm) ⟨⟨.none, .none, Heap.get?_push_size _ rfl⟩, dictAt_keep hda fun o e => Heap.get?_push_of_some _ (Heap.get?_push_of_some _ e)⟩ (fun b hb => ?_) (fun _ b hb hnb => ?_) (fun b hb hnb => .inr rfl) ?_ (fun e => nomatch e)
  · intro e; have e2 : a = s.heap.objs.size + 1 := by rw [e]; exact Heap.size_push _ _
    exact absurd (e2 ▸ hla) (Nat.not_lt_of_le (Nat.le_succ _))
  · simp at hb; subst hb
    exact fresh_old S.tab (.refl s) (by simp [Heap.size_push])
  · simp at hb hnb
    rcases hb with rfl | rfl
    · exact absurd rfl hnb
    · exact hna
  · refine RepL.move (fun b o hb e _ => ⟨Heap.get?_push_of_some _ (Heap.get?_push_of_some _ e), fun m => ?_⟩) es us rl
    rcases List.mem_append.mp m with m | m
    · simp at m; subst m
      have q := Heap.lt_size e
      exact absurd (Nat.lt_of_le_of_lt (Nat.le_succ _) q) (Nat.lt_irrefl _)
    · exact hb m
end Mine
namespace Mine
open PySem PySem.W PyProof.Rows PySem.Calls PySem.Spec

variable {C : Cfg} {k : Nat} {ec : EC} {σ : Sto} {W : List Str}

abbrev accN : Str := Str.ofString "$acc"

/-- the rest of a turn of a comprehension, behind the target's store -/
def Bj (C : Cfg) (k : Nat) (ec : EC) (W : List Str) (σ : Sto) (B : Value → Env → Sem Unit) (D : Addr) (Φ : Sto → Prop) : Prop :=
  ∀ (A : Around) (env : Env) (h₀ : Heap) (ex : List Addr) (s : Shared) (Q : Unit → Shared → Prop) (E : Value → Shared → Prop),
    Room k A → EnvOK ec env → Sta C ec W env h₀ ex σ s.heap → (∀ s' τ, Φ τ → Gx s s' → Sta C ec W env h₀ ex τ s'.heap → Q () s') → wpAny (model C.prog C.w) A (B (.ref D) env) Q E s

theorem seqData {a b : Addr} : True := trivial

/-- the accumulated list grows -/
theorem Sta.setObj {env : Env} {h₀ h h' : Heap} {ex : List Addr} {x : Str} {D₁ : Addr} {sl0 sl1 : Slot} {o0 : Obj} (S : Sta C ec W env h₀ ex σ h) (hx : σ.lookup x = some sl0) (ha0 : sl0.addr = [D₁]) (ha1 : sl1.addr = [D₁]) (hn0 : h₀.get? D₁ = none)
    (hg0 : h.get? D₁ = some o0) (hso : Solid o0) (hs : Heap.SameBut D₁ h h') (hd : h'.get? D₁ ≠ none)
    (hslot : (∀ v, VarAt ec env h x v → VarAt ec env h' x v) → (∀ d v, Rep C h (exOf env σ ex) d v → Rep C h' (exOf env (σ.set x sl1) ex) d v) → (∀ ds vs, RepL C h (exOf env σ ex) ds vs → RepL C h' (exOf env (σ.set x sl1) ex) ds vs) → SlotAt C ec env h₀ (exOf env (σ.set x sl1) ex) h' x sl1) :
    Sta C ec W env h₀ ex (σ.set x sl1) h' := by
  have hD : D₁ ∈ owns σ := mem_owns hx (by rw [ha0]; simp)
  have hDL : D₁ ≠ env.locals := fun e => (List.nodup_cons.mp S.nodup).1 (by rw [← e]; exact List.mem_append_left _ hD)
  have hDc : ∀ y c, env.cells.lookup y = some c → c ≠ D₁ := fun y c hc e => by
    obtain ⟨u, o, ho, hdd⟩ := S.cells y c hc
    rw [e, hg0] at ho; cases ho; exact hso.2 _ hdd
  obtain ⟨l1, l2, hσ, hl⟩ := List.lookup_eq_some_iff.mp hx
  have hmem : ∀ b, b ∈ exOf env (σ.set x sl1) ex ↔ b ∈ exOf env σ ex := fun b => by
    have hpro := S.proper
    have e1 : ∀ b, b ∈ owns (σ.set x sl1) ↔ b ∈ owns σ := fun b => by
      rw [owns_set]
      constructor
      · intro hb
        rcases List.mem_append.mp hb with hb | hb
        · rw [ha1] at hb; simp at hb; subst hb; exact hD
        · exact (owns_filter_sub _ σ).subset hb
      · intro hb
        obtain ⟨p, hp, hb⟩ := List.mem_flatMap.mp hb
        by_cases hpx : p.1 = x
        · have := hpro p hp
          rw [hpx, hx] at this
          have e : p.2 = sl0 := (Option.some.inj this).symm
          rw [e, ha0] at hb
          exact List.mem_append_left _ (by rw [ha1]; exact hb)
        · exact List.mem_append_right _ (List.mem_flatMap.mpr ⟨p, List.mem_filter.mpr ⟨hp, by simpa using hpx⟩, hb⟩)
    simp only [exOf, List.mem_cons, List.mem_append, e1]
  have hne : ∀ b, b ∉ exOf env σ ex → b ≠ D₁ := fun b hb e => hb (by rw [e]; exact List.mem_cons_of_mem _ (List.mem_append_left _ hD))
  have hmv : ∀ b o, b ∉ exOf env σ ex → h.get? b = some o → Solid o → h'.get? b = some o ∧ b ∉ exOf env (σ.set x sl1) ex := fun b o hb e _ =>
    ⟨(hs.2 b (hne b hb)).trans e, fun m => hb ((hmem b).mp m)⟩
  have hother : ∀ y sl a, y ≠ x → σ.lookup y = some sl → a ∈ sl.addr → a ≠ D₁ := fun y sl a hy e ha q => by
    subst q
    -- two slots with one address
    have hnd : (owns σ).Nodup := (List.nodup_append.mp (List.nodup_cons.mp S.nodup).2).1
    have e2 : (σ.set x sl1).lookup y = some sl := (lookup_set_ne hy).trans e
    have h3 : a ∈ owns (σ.filter fun p => !(p.1 == x)) := mem_owns (σ := σ.filter fun p => !(p.1 == x)) ((lookup_filter_ne hy σ).trans e) ha
    -- a appears in x's slot and in the rest
    have hperm : (owns σ).Perm (a :: owns (l1 ++ l2)) := by
      rw [hσ]
      simp only [owns, List.flatMap_append, List.flatMap_cons, ha0]
      exact List.perm_middle
    have h4 : a ∉ owns (l1 ++ l2) := (List.nodup_cons.mp (hperm.nodup_iff.mp hnd)).1
    apply h4
    have hf : (σ.filter fun p => !(p.1 == x)) = (l1 ++ l2).filter fun p => !(p.1 == x) := by
      rw [hσ, List.filter_append, List.filter_cons_of_neg (by simp), List.filter_append]
    rw [hf] at h3
    exact (owns_filter_sub _ _).subset h3
  have hV : ∀ y v, VarAt ec env h y v → VarAt ec env h' y v := fun y v V => by
    rcases V with ⟨hq, m', hm', hv⟩ | ⟨hq, c, hc, hi⟩
    · exact .inl ⟨hq, m', hm'.sameBut hs (Ne.symm hDL), hv⟩
    · exact .inr ⟨hq, c, hc, hi.sameBut hs (hDc y c hc)⟩
  exact {
    base := fun b o hb e => (hs.2 b fun q => by rw [q, hn0] at e; cases e).trans (S.base b o hb e), g0 := S.g0, t0 := S.t0, tab := S.tab.same hs (S.notP hn0)
    ns := let ⟨m, hm⟩ := S.ns; ⟨m, hm.sameBut hs (Ne.symm hDL)⟩, newL := S.newL
    wr := fun y hy => let ⟨q, c, v, hc, hi, hn⟩ := S.wr y hy; ⟨q, c, v, hc, hi.sameBut hs (hDc y c hc), hn⟩
    apart := S.apart
    cells := fun y c hc => let ⟨v, hi⟩ := S.cells y c hc; ⟨v, hi.sameBut hs (hDc y c hc)⟩
    slots := fun y sl hy => by
      by_cases hyx : y = x
      · subst hyx
        rw [lookup_set_self] at hy
        cases hy
        exact hslot (hV _) (fun d v => Rep.move hmv d v) (fun ds vs => RepL.move hmv ds vs)
      · rw [lookup_set_ne hyx] at hy
        have q := S.slots y sl hy
        cases sl with
        | dat d => obtain ⟨u, V, r⟩ := q; exact ⟨u, hV y u V, Rep.move hmv d u r⟩
        | own a ds => obtain ⟨V, hn, vs, n, ha, r⟩ := q; exact ⟨hV y _ V, hn, vs, n, (hs.2 a (hother y _ a hyx hy (by simp [Slot.addr]))).trans ha, RepL.move hmv ds vs r⟩
        | ownd a kvs => obtain ⟨V, hn, hsys, us, ha, r⟩ := q; exact ⟨hV y _ V, hn, hsys, us, dictOf_move ha fun o ho _ => (hs.2 a (hother y _ a hyx hy (by simp [Slot.addr]))).trans ho, RepL.move hmv _ us r⟩
        | gho a ds => obtain ⟨hn, vs, n, ha, r⟩ := q; exact ⟨hn, vs, n, (hs.2 a (hother y _ a hyx hy (by simp [Slot.addr]))).trans ha, RepL.move hmv ds vs r⟩
    nodup := by
      have h1 := S.nodup
      have hperm : (owns (σ.set x sl1)).Perm (owns σ) := by
        rw [owns_set, hσ]
        have hl2 : ∀ p ∈ l2, p.1 ≠ x := fun p hp e => by
          have := S.proper p (by rw [hσ]; exact List.mem_append_right _ (.tail _ hp))
          rw [e, hx] at this
          have e2 : p.2 = sl0 := (Option.some.inj this).symm
          have hnd : (owns σ).Nodup := (List.nodup_append.mp (List.nodup_cons.mp S.nodup).2).1
          rw [hσ] at hnd
          simp only [owns, List.flatMap_append, List.flatMap_cons, ha0] at hnd
          have h3 := (List.nodup_append.mp hnd).2.1
          exact (List.nodup_cons.mp h3).1 (List.mem_flatMap.mpr ⟨p, hp, by rw [e2, ha0]; simp⟩)
        have hl1 : ∀ p ∈ l1, p.1 ≠ x := fun p hp e => by
          have := hl p hp
          rw [e] at this; simp at this
        have hf : ((l1 ++ (x, sl0) :: l2).filter fun p => !(p.1 == x)) = l1 ++ l2 := by
          rw [List.filter_append, List.filter_cons_of_neg (by simp), List.filter_eq_self.mpr fun p hp => by simpa using hl1 p hp, List.filter_eq_self.mpr fun p hp => by simpa using hl2 p hp]
        rw [hf]
        simp only [owns, List.flatMap_append, List.flatMap_cons, ha0, ha1]
        exact (List.perm_middle (l₁ := List.flatMap (fun p => p.2.addr) l1)).symm
      unfold exOf at h1 ⊢
      exact ((hperm.append_right ex).cons _).nodup_iff.mpr h1
    proper := proper_set S.proper
    alive := fun b hb => by
      by_cases q : b = D₁
      · subst q; exact hd
      · rw [hs.2 b q]; exact S.alive b ((hmem b).mp hb) }

theorem Sta.setGho {env : Env} {h₀ h h' : Heap} {ex : List Addr} {x : Str} {D₁ : Addr} {as bs : List D} {vs : List Value} {n : Nat} (S : Sta C ec W env h₀ ex σ h) (hx : σ.lookup x = some (.gho D₁ as))
    (hs : Heap.SameBut D₁ h h') (hd : h'.get? D₁ = some (lstObj vs n)) (r : RepL C h (exOf env σ ex) bs vs) : Sta C ec W env h₀ ex (σ.set x (.gho D₁ bs)) h' := by
  obtain ⟨hn0, vs0, n0, hg0, _⟩ := S.slots _ _ hx
  exact S.setObj hx rfl rfl hn0 hg0 ⟨nofun, nofun⟩ hs (by rw [hd]; nofun) fun _ _ hR => ⟨hn0, vs, n, hd, hR _ _ r⟩
theorem Sta.setOwn {env : Env} {h₀ h h' : Heap} {ex : List Addr} {x : Str} {D₁ : Addr} {as bs : List D} {vs : List Value} {n : Nat} (S : Sta C ec W env h₀ ex σ h) (hx : σ.lookup x = some (.own D₁ as))
    (hs : Heap.SameBut D₁ h h') (hd : h'.get? D₁ = some (lstObj vs n)) (r : RepL C h (exOf env σ ex) bs vs) : Sta C ec W env h₀ ex (σ.set x (.own D₁ bs)) h' := by
  obtain ⟨V, hn0, vs0, n0, hg0, _⟩ := S.slots _ _ hx
  exact S.setObj hx rfl rfl hn0 hg0 ⟨nofun, nofun⟩ hs (by rw [hd]; nofun) fun hV _ hR => ⟨hV _ V, hn0, vs, n, hd, hR _ _ r⟩

theorem lst_append {A : Around} {s : Shared} {D₁ : Addr} {vs : List Value} {n : Nat} {v : Value} {Q : Value → Shared → Prop} {E : Value → Shared → Prop} (ha : s.heap.get? D₁ = some (lstObj vs n)) (hl : vs.length ≤ 1000)
    (hQ : ∀ h' n', h'.get? D₁ = some (lstObj (vs ++ [v]) n') → Heap.SameBut D₁ s.heap h' → Q .none { s with heap := h' }) : wpAny (model C.prog C.w) A (call (.builtin "list.append") [.ref D₁, v]) Q E s := by
  refine wpAny_call_entry slot_list_append (lst_at ha).typeIs entry_list_append ?_ (args_list_append _ _)
  show wpAny _ _ (updateSeq D₁ (·.push v) >>= fun _ => ret .none) _ _ s
  refine wpAny_bind ?_
  have e : Obj.mapSeq (·.push v) (lstObj vs n) = lstObj (vs ++ [v]) (n + 1) := by
    simp [Obj.mapSeq, lstObj]
  refine wpAny_updateSeq ha rfl (wpAny_pure ⟨.none, rfl, hQ _ (n + 1) ?_ (Heap.SameBut.update ..)⟩)
  rw [Heap.get?_update_self _ ha (by rw [e]; rfl), e]

/-- the element is made and appended -/
theorem bj_emit {elt : Expr} {D₁ : Addr} {as : List D} {d : D} {Φ : Sto → Prop} (h : Ev C k ec σ elt d) (hx : σ.lookup accN = some (.gho D₁ as)) (hl : as.length ≤ 1000) (hΦ : Φ (σ.set accN (.gho D₁ (as ++ [d])))) :
    Bj C k ec W σ (fun acc env => do let _ ← call (.builtin "list.append") [acc, ← eval elt env]) D₁ Φ := by
  intro A env h₀ ex s Q E hr he S hQ
  refine wpAny_bind (h _ _ _ _ _ _ _ _ hr he S fun v s1 g1 r1 => ?_)
  have S1 := S.go g1
  obtain ⟨_, vs, n, hg, r⟩ := S1.slots _ _ hx
  refine wpAny_bind (lst_append hg (by rw [r.length]; exact hl) fun h' n' hg' hs => wpAny_pure ?_)
  exact hQ _ _ hΦ (g1.gx.trans ⟨rfl, id⟩) (S1.setGho hx hs hg' (r.append (.one r1)))
theorem bj_if {t elt : Expr} {D₁ : Addr} {as : List D} {c : Bool} {d : D} {Φ : Sto → Prop} (ht : Tr C k ec σ t c) (h : c = true → Ev C k ec σ elt d) (hx : σ.lookup accN = some (.gho D₁ as)) (hl : as.length ≤ 1000)
    (h1 : c = true → Φ (σ.set accN (.gho D₁ (as ++ [d])))) (h2 : c = false → Φ σ) :
    Bj C k ec W σ (fun acc env => do
        let ok ← forIn [t] true fun c r => if r = true then do let ok ← isTrue c env (eval c env); pure (ForInStep.yield ok) else pure (ForInStep.yield r)
        if ok then (do let _ ← call (.builtin "list.append") [acc, ← eval elt env])) D₁ Φ := by
  intro A env h₀ ex s Q E hr he S hQ
  refine wpAny_bind (wpAny_tests_one (ht _ _ _ _ _ _ _ _ hr he S fun s1 g1 => ?_))
  cases c with
  | false =>
    show wpAny _ _ (if false = true then _ else _) _ _ _
    rw [if_neg (by decide)]
    exact wpAny_pure (hQ _ _ (h2 rfl) g1.gx (S.go g1))
  | true =>
    show wpAny _ _ (if true = true then _ else _) _ _ _
    rw [if_pos rfl]
    exact bj_emit (W := W) (h rfl) hx hl (h1 rfl) A env h₀ ex s1 Q E hr he (S.go g1) fun s' τ hτ g' S' => hQ s' τ hτ (g1.gx.trans g') S'
end Mine
namespace Mine
open PySem PySem.W PyProof.Rows PySem.Calls PySem.Spec

variable {C : Cfg} {k : Nat} {ec : EC} {σ : Sto} {W : List Str}

def Bk (C : Cfg) (k : Nat) (ec : EC) (W : List Str) (σ : Sto) (B : Value → Env → Code → Sem Fin) (D : Addr) (Φ : Sto → Prop) : Prop :=
  ∀ (A : Around) (env : Env) (h₀ : Heap) (ex : List Addr) (s : Shared) (c : Code) (Q : Fin → Shared → Prop) (E : Value → Shared → Prop),
    Room k A → EnvOK ec env → Sta C ec W env h₀ ex σ s.heap → (∀ s' τ, Φ τ → Gx s s' → Sta C ec W env h₀ ex τ s'.heap → Q (.again c) s') → wpAny (model C.prog C.w) A (B (.ref D) env c) Q E s
theorem bk_of_bj {B : Value → Env → Sem Unit} {D₁ : Addr} {Φ : Sto → Prop} (h : Bj C k ec W σ B D₁ Φ) : Bk C k ec W σ (fun acc env c => B acc env >>= fun _ => again c) D₁ Φ :=
  fun A env h₀ ex s c Q E hr he S hQ => wpAny_bind (h A env h₀ ex s _ E hr he S fun s' τ hτ g S' => wpAny_pure (hQ s' τ hτ g S'))

/-- one test, then the element -/
def restIf (t elt : Expr) : Value → Env → Code → Sem Fin := fun acc env c => do
  let mut ok := true
  for c' in [t] do
    if ok then ok ← isTrue c' env (eval c' env)
  if ok then
    (do let _ ← call (.builtin "list.append") [acc, ← eval elt env])
  again c
def restOne (elt : Expr) : Value → Env → Code → Sem Fin := fun acc env c => do
  (do let _ ← call (.builtin "list.append") [acc, ← eval elt env])
  again c
theorem bk_if {t elt : Expr} {D₁ : Addr} {as : List D} {b : Bool} {d : D} {Φ : Sto → Prop} (ht : Tr C k ec σ t b) (h : b = true → Ev C k ec σ elt d) (hx : σ.lookup accN = some (.gho D₁ as)) (hl : as.length ≤ 1000)
    (h1 : b = true → Φ (σ.set accN (.gho D₁ (as ++ [d])))) (h2 : b = false → Φ σ) : Bk C k ec W σ (restIf t elt) D₁ Φ := by
  intro A env h₀ ex s c Q E hr he S hQ
  unfold restIf
  refine wpAny_bind (wpAny_tests_one (ht _ _ _ _ _ _ _ _ hr he S fun s1 g1 => ?_))
  cases b with
  | false =>
    exact wpAny_pure (hQ _ _ (h2 rfl) g1.gx (S.go g1))
  | true =>
    exact bk_of_bj (bj_emit (W := W) (h rfl) hx hl (h1 rfl)) A env h₀ ex s1 c Q E hr he (S.go g1) fun s' τ hτ g' S' => hQ s' τ hτ (g1.gx.trans g') S'
theorem bk_one {elt : Expr} {D₁ : Addr} {as : List D} {d : D} {Φ : Sto → Prop} (h : Ev C k ec σ elt d) (hx : σ.lookup accN = some (.gho D₁ as)) (hl : as.length ≤ 1000) (hΦ : Φ (σ.set accN (.gho D₁ (as ++ [d])))) : Bk C k ec W σ (restOne elt) D₁ Φ :=
  bk_of_bj (bj_emit h hx hl hΦ)

/-- an iterator walked to its end with the frame's state: the shared part of the loops -/
theorem walk_side {env : Env} {h₀ : Heap} {ex wr : List Addr} {s : Shared} (S : Sta C ec W env h₀ ex σ s.heap) (hw : ∀ b ∈ wr, s.heap.get? b = none) : Side ec env h₀ (wr ++ ex) wr where
  ex := fun a ha => List.mem_append_left _ ha
  new := fun a ha => by
    cases q : h₀.get? a with
    | none => rfl
    | some o =>
      by_cases hP : a = C.P
      · subst hP; obtain ⟨ps, hp, _⟩ := S.tab; rw [hw _ ha] at hp; cases hp
      · have := S.base a o hP q; rw [hw a ha] at this; cases this
  loc := fun m => S.alive _ (.head _) (hw _ m)
  cells := fun x c hc m => by obtain ⟨v, o, ho, _⟩ := S.cells x c hc; rw [hw c m] at ho; cases ho
/-- the iterator's own objects changed for the last time -/
theorem Sta.endWalk {env : Env} {h₀ h h' : Heap} {ex wr : List Addr} (S' : Sta C ec W env h₀ (wr ++ ex) σ h) (hside : Side ec env h₀ (wr ++ ex) wr) (hk' : ∀ b o, b ∉ wr → h.get? b = some o → h'.get? b = some o) : Sta C ec W env h₀ ex σ h' := by
  have hex : ∀ b, b ∉ exOf env σ (wr ++ ex) → b ∉ wr := fun b hb m => hb (List.mem_cons_of_mem _ (List.mem_append_right _ (List.mem_append_left _ m)))
  have hdis : ∀ b ∈ owns σ ++ ex, b ∉ wr := fun b hb m => by
    have hnd := (List.nodup_cons.mp S'.nodup).2
    rcases List.mem_append.mp hb with hb | hb
    · exact (List.nodup_append.mp hnd).2.2 b hb b (List.mem_append_left _ m) rfl
    · exact (List.nodup_append.mp (List.nodup_append.mp hnd).2.1).2.2 b m b hb rfl
  have hmv : ∀ b o, b ∉ exOf env σ (wr ++ ex) → h.get? b = some o → Solid o → h'.get? b = some o ∧ b ∉ exOf env σ ex := fun b o hb e _ => ⟨hk' _ _ (hex b hb) e, fun m => by
    rcases List.mem_cons.mp m with rfl | m
    · exact hb (.head _)
    · rcases List.mem_append.mp m with m | m
      · exact hb (List.mem_cons_of_mem _ (List.mem_append_left _ m))
      · exact hb (List.mem_cons_of_mem _ (List.mem_append_right _ (List.mem_append_right _ m)))⟩
  have hP : C.P ∉ wr := fun m => S'.notP (hside.new _ m) rfl
  have hown : ∀ {y sl a}, σ.lookup y = some sl → a ∈ sl.addr → a ∉ wr := fun hy ha => hdis _ (List.mem_append_left _ (mem_owns hy ha))
  exact { base := fun b o hb e => hk' b o (fun m => by rw [hside.new b m] at e; cases e) (S'.base b o hb e), g0 := S'.g0, t0 := S'.t0, tab := S'.tab.keeps fun o e => hk' _ _ hP e,
          ns := let ⟨m, o, es, ep, ho, r⟩ := S'.ns; ⟨m, o, es, ep, hk' _ _ hside.loc ho, r⟩, newL := S'.newL,
          wr := fun x hx => let ⟨q, c, v, hc, ⟨o, ho, hd⟩, hn⟩ := S'.wr x hx; ⟨q, c, v, hc, ⟨o, hk' _ _ (hside.cells _ _ hc) ho, hd⟩, hn⟩, apart := S'.apart,
          cells := fun x c hc => let ⟨v, o, ho, hd⟩ := S'.cells x c hc; ⟨v, o, hk' _ _ (hside.cells _ _ hc) ho, hd⟩, proper := S'.proper,
          slots := fun y sl hy => by
            have q := S'.slots y sl hy
            cases sl with
            | dat d => obtain ⟨u, V, r⟩ := q; exact ⟨u, V.side hside hk', Rep.move hmv d u r⟩
            | own b es => obtain ⟨V, hn, vs, n, hg, r⟩ := q; exact ⟨V.side hside hk', hn, vs, n, hk' _ _ (hown hy (by simp [Slot.addr])) hg, RepL.move hmv es vs r⟩
            | ownd b kvs => obtain ⟨V, hn, hs, us, hg, r⟩ := q; exact ⟨V.side hside hk', hn, hs, us, dictOf_move hg fun o ho _ => hk' _ _ (hown hy (by simp [Slot.addr])) ho, RepL.move hmv _ us r⟩
            | gho b es => obtain ⟨hn, vs, n, hg, r⟩ := q; exact ⟨hn, vs, n, hk' _ _ (hown hy (by simp [Slot.addr])) hg, RepL.move hmv es vs r⟩
          nodup := S'.dropEx.nodup,
          alive := fun b hb => by
            have hb' : b ∉ wr := by
              rcases List.mem_cons.mp hb with rfl | hb
              · exact hside.loc
              · exact hdis b hb
            cases q : h.get? b with
            | none => exact absurd q (S'.dropEx.alive b hb)
            | some o => rw [hk' b o hb' q]; nofun }

/-- the loop of a comprehension -/
theorem comp_loop {elt : Expr} {gens : List Comprehension} {scope : Scope} {cpos ip : Pos} {depth : Nat} {target : Expr} {B : Value → Env → Code → Sem Fin} {ds : List D} {D₁ : Addr}
    (hturn : ∀ it acc env, compTurn (.ListComp elt gens scope cpos) depth it acc env = (do
      standAt ip
      match ← pyNext it with
      | none => pure (.done .next)
      | some v =>
        letOwnedTupleGo target it v
        assign target env v
        B acc env (.compLoop (.ListComp elt gens scope cpos) depth it acc env)))
    (I : Nat → Sto → Prop)
    (turn : ∀ i σ' d, I i σ' → ds[i]? = some d → ∃ σ'', Tg C k ec W σ' target d σ'' ∧ Bk C k ec W σ'' B D₁ (I (i + 1)))
    {A : Around} {env : Env} {h₀ : Heap} {ex fp wr : List Addr} {It : Addr} {St : Nat → Heap → Prop} {es : List D} {vs : List Value} {s : Shared} {R : Result → Shared → Prop}
    (hr : Room k A) (he : EnvOK ec env) (h0 : I 0 σ) (wk : Wk C A target It fp wr St es vs ds) (st0 : St 0 s.heap) (S1 : Sta C ec W env h₀ (wr ++ ex) σ s.heap) (hside : Side ec env h₀ (wr ++ ex) wr)
    (hfp1 : ∀ b ∈ fp, b ∉ wr → b ∉ env.locals :: owns σ) (hes : RepL C s.heap (exOf env σ (wr ++ ex)) es vs)
    (hR : ∀ σ' s', I ds.length σ' → Gx s s' → Sta C ec W env h₀ ex σ' s'.heap → R (.ok .next) s') :
    codeAny (model C.prog C.w) A (.compLoop (.ListComp elt gens scope cpos) depth (.ref It) (.ref D₁) env) R s := by
  have hlive : ∀ i h, St i h → ∀ b ∈ wr, h.get? b ≠ none := fun i h st b hb => by
    obtain ⟨o, ho, _⟩ := wk.solid i h st b (wk.sub b hb); rw [ho]; nofun
  refine codeAny_loop rfl (fun n t => ∃ i σ', n + i = ds.length ∧ I i σ' ∧ St i t.heap ∧ Sta C ec W env h₀ (wr ++ ex) σ' t.heap ∧ (∀ b ∈ fp, b ∉ wr → b ∉ env.locals :: owns σ') ∧ RepL C t.heap (exOf env σ' (wr ++ ex)) es vs ∧ Gx s t) ?_ ds.length ?_
  · rintro n t ⟨i, σ', hn, hI, st, S', hfp', rl', g⟩
    show wpAny _ A ((compTurn (.ListComp elt gens scope cpos) depth (.ref It) (.ref D₁) env).onRaise (fun x => do noteFrame x env; theTreesLotGoes x)) _ _ t
    refine wpAny_noted ?_
    rw [hturn]
    refine wpAny_bind (wpAny_standAt (wpAny_bind ?_))
    cases n with
    | zero =>
      have hi : i = ds.length := by omega
      subst hi
      exact wk.done _ _ _ st fun t' hk' ho hg => wpAny_pure (hR σ' t' hI (g.trans ⟨ho, by rw [hg]; exact id⟩) (S'.endWalk hside hk'))
    | succ n =>
      have hlt : i < ds.length := by omega
      obtain ⟨d, hd⟩ : ∃ d, ds[i]? = some d := ⟨_, List.getElem?_eq_getElem hlt⟩
      obtain ⟨σ'', htg, hbk⟩ := turn i σ' d hI hd
      have step : ∀ (Qf : Fin → Shared → Prop) (Ef : Value → Shared → Prop), (∀ t4, (∃ i σ', n + i = ds.length ∧ I i σ' ∧ St i t4.heap ∧ Sta C ec W env h₀ (wr ++ ex) σ' t4.heap ∧ (∀ b ∈ fp, b ∉ wr → b ∉ env.locals :: owns σ') ∧ RepL C t4.heap (exOf env σ' (wr ++ ex)) es vs ∧ Gx s t4) → Qf (.again (.compLoop (.ListComp elt gens scope cpos) depth (.ref It) (.ref D₁) env)) t4) →
          wpAny (model C.prog C.w) A (pyNext (.ref It)) (fun r s1 => wpAny (model C.prog C.w) A (match r with
            | none => pure (.done .next)
            | some v => do
              letOwnedTupleGo target (.ref It) v
              assign target env v
              B (.ref D₁) env (.compLoop (.ListComp elt gens scope cpos) depth (.ref It) (.ref D₁) env)) Qf Ef s1) Ef t := by
        intro Qf Ef hq
        refine wpAny_mono (wk.item i d t (exOf env σ' (wr ++ ex)) (fun v t2 => wpAny (model C.prog C.w) A (assign target env v >>= fun _ => B (.ref D₁) env (.compLoop (.ListComp elt gens scope cpos) depth (.ref It) (.ref D₁) env)) Qf Ef t2) Ef hd st S'.alive rl' (fun b hb => List.mem_cons_of_mem _ (List.mem_append_right _ (List.mem_append_left _ hb))) ?_) (fun r s1 hr1 => ?_) (fun _ _ h => h)
        · intro v t2 hk2 ho2 hg2 st2 rv
          have S2 := S'.side hside hk2 (hlive _ _ st2)
          have hexw : ∀ b, b ∉ exOf env σ' (wr ++ ex) → b ∉ wr := fun b hb m => hb (List.mem_cons_of_mem _ (List.mem_append_right _ (List.mem_append_left _ m)))
          have rl2 : RepL C t2.heap (exOf env σ' (wr ++ ex)) es vs := RepL.move (fun b o hb e _ => ⟨hk2 _ _ (hexw b hb) e, hb⟩) es vs rl'
          refine wpAny_bind (htg A env _ (wr ++ ex) t2 v _ _ hr he S2.up rv fun t3 g3 S3 => ?_)
          refine hbk A env _ (wr ++ ex) t3 _ _ _ hr he S3 fun t4 τ hτ g4 S4 => hq t4 ?_
          have gg : Gx s t4 := (g.trans ⟨ho2, by rw [hg2]; exact id⟩).trans (g3.trans g4)
          refine ⟨i + 1, τ, by omega, hτ, wk.frame _ _ _ st2 (fun b hb o e => ?_), S2.down S4, fun b hb hnw => ?_, S2.repL_on S4 rl2, gg⟩
          · obtain ⟨o', ho', hs'⟩ := wk.solid _ _ st2 b hb
            rw [e] at ho'; cases ho'
            refine S2.keeps2 S4 (fun m => ?_) e hs'
            by_cases hbw : b ∈ wr
            · rcases List.mem_cons.mp m with rfl | m
              · exact hside.loc hbw
              · exact (List.nodup_append.mp (List.nodup_cons.mp S'.nodup).2).2.2 b m b (List.mem_append_left _ hbw) rfl
            · exact hfp' b hb hbw m
          · obtain ⟨o', ho', hs'⟩ := wk.solid _ _ st2 b hb
            have e4 : (hid env W σ' t2.heap).get? b = some o' := by
              refine hideAll_get _ ho' fun m => ?_
              rcases List.mem_cons.mp m with rfl | m
              · exact hfp' _ hb hnw (.head _)
              · rcases List.mem_append.mp m with m | m
                · exact hfp' b hb hnw (List.mem_cons_of_mem _ m)
                · obtain ⟨x, hx, hc⟩ := List.mem_filterMap.mp m
                  obtain ⟨_, c, v, hc', ⟨oc, ho, hd⟩, hn⟩ := S2.wr x hx
                  rw [hc] at hc'; cases hc'
                  rw [ho'] at ho; cases ho
                  exact hs'.2 _ hd
            intro m
            have := S4.hidden (a := b) (by
              rcases List.mem_cons.mp m with rfl | m
              · exact .head _
              · exact List.mem_cons_of_mem _ (List.mem_append_left _ m))
            rw [e4] at this; cases this
        · obtain ⟨v, rfl, h⟩ := hr1
          exact wpAny_bind h
      exact step _ _ fun t4 h4 => ⟨rfl, n, Nat.lt_succ_self n, h4⟩
  · exact ⟨0, σ, by omega, h0, st0, S1, hfp1, hes, .refl s⟩
end Mine
namespace Mine
open PySem PySem.W PyProof.Rows PySem.Calls PySem.Spec

variable {C : Cfg} {k : Nat} {ec : EC} {σ : Sto} {W W' : List Str}

def clos (env : Env) : List (Str × NameKind) → List (Str × Addr) → List (Str × Addr)
  | [], cs => cs
  | (n, kd) :: r, cs => if (kd == .free) = true then clos env r ((n, (env.cells.lookup n).getD 0) :: cs) else clos env r cs
theorem closureFor_eq {env : Env} {scope : Scope} (hf : ∀ x ∈ scope.names, x.2 = .free → ∃ c, env.cells.lookup x.1 = some c) : closureFor scope env = pure (clos env scope.names []) := by
  have key : ∀ (l : List (Str × NameKind)) (cs : List (Str × Addr)), (∀ x ∈ l, x.2 = .free → ∃ c, env.cells.lookup x.1 = some c) →
      (forIn l cs fun x r => (if (x.2 == .free) = true then do let c ← cellOf env x.1; pure (ForInStep.yield ((x.1, c) :: r)) else pure (ForInStep.yield r) : Sem (ForInStep (List (Str × Addr))))) = pure (clos env l cs) := by
    intro l
    induction l with
    | nil => intro cs _; rfl
    | cons x r ih =>
      intro cs hx
      obtain ⟨n, kd⟩ := x
      rw [List.forIn_cons]
      by_cases hk : kd = .free
      · subst hk
        obtain ⟨c, hc⟩ := hx _ (.head _) rfl
        have hc' : List.lookup n env.cells = some c := hc
        simp only [beq_self_eq_true, if_true, clos, cellOf, hc', Option.getD_some]
        exact ih _ fun y hy => hx y (.tail _ hy)
      · have hb : (kd == NameKind.free) = false := by simpa using hk
        simp only [hb, Bool.false_eq_true, if_false, clos]
        exact ih _ fun y hy => hx y (.tail _ hy)
  have := key scope.names [] hf
  unfold closureFor
  exact (congrArg (fun t => t >>= fun cs => (pure cs : Sem _)) this).trans rfl
theorem clos_lookup {env : Env} : ∀ (l : List (Str × NameKind)) (cs : List (Str × Addr)) (x : Str) (c : Addr), (∀ y ∈ l, y.2 = .free → ∃ c, env.cells.lookup y.1 = some c) → (∀ y c, cs.lookup y = some c → env.cells.lookup y = some c) → (clos env l cs).lookup x = some c → env.cells.lookup x = some c
  | [], cs, x, c, _, hcs, e => hcs x c e
  | (n, kd) :: r, cs, x, c, hl, hcs, e => by
    unfold clos at e
    by_cases hk : kd = .free
    · subst hk
      rw [if_pos (by decide)] at e
      refine clos_lookup r _ x c (fun y hy => hl y (.tail _ hy)) (fun y d hd => ?_) e
      rw [List.lookup_cons] at hd
      by_cases hyn : y = n
      · subst hyn
        obtain ⟨c', hc'⟩ := hl _ (.head _) rfl
        simp only [beq_self_eq_true] at hd
        have hc2 : List.lookup y env.cells = some c' := hc'
        rw [hc2] at hd ⊢
        simpa using hd
      · rw [show (y == n) = false by simpa using hyn] at hd
        exact hcs y d hd
    · rw [if_neg (by simpa using hk)] at e
      exact clos_lookup r cs x c (fun y hy => hl y (.tail _ hy)) hcs e
theorem clos_has {env : Env} : ∀ (l : List (Str × NameKind)) (cs : List (Str × Addr)) (x : Str), ((x, NameKind.free) ∈ l ∨ (cs.lookup x).isSome = true) → ((clos env l cs).lookup x).isSome = true
  | [], cs, x, h => h.elim (fun h => nomatch h) id
  | (n, kd) :: r, cs, x, h => by
    unfold clos
    by_cases hk : kd = .free
    · subst hk
      rw [if_pos (by decide)]
      refine clos_has r _ x ?_
      by_cases hxn : x = n
      · subst hxn; right; rw [List.lookup_cons]; simp
      · rcases h with h | h
        · rcases List.mem_cons.mp h with h | h
          · cases h; exact absurd rfl hxn
          · exact .inl h
        · right; rw [List.lookup_cons, show (x == n) = false by simpa using hxn]; exact h
    · rw [if_neg (by simpa using hk)]
      refine clos_has r cs x (h.imp (fun h => ?_) id)
      rcases List.mem_cons.mp h with h | h
      · cases h; exact absurd rfl hk
      · exact h

/-- the cells that a block makes itself: none, or one -/
def OwnCells (scope : Scope) (W' : List Str) : Prop := (W' = [] ∧ ∀ x ∈ scope.names, x.2 ≠ .cell) ∨ ∃ x l1 l2, W' = [x] ∧ scope.names = l1 ++ (x, .cell) :: l2 ∧ (∀ y ∈ l1, y.2 ≠ .cell) ∧ (∀ y ∈ l2, y.2 ≠ .cell)

theorem newEnv_one {M : Model} {A : Around} {E : Value → Shared → Prop} {s : Shared} {scope : Scope} {globals : Addr} {cl : List (Str × Addr)} {qual : Str} {env : Env} {Q : Env → Shared → Prop} {x : Str} {l1 l2 : List (Str × NameKind)}
    (hn : scope.names = l1 ++ (x, .cell) :: l2) (h1 : ∀ y ∈ l1, y.2 ≠ .cell) (h2 : ∀ y ∈ l2, y.2 ≠ .cell)
    (hQ : Q (newEnv scope s.heap.objs.size globals ((x, (s.heap.push { cls := .type "dict", data := .dict #[] }).objs.size) :: cl) qual none .none (some env) builtinsNs) { s with heap := (s.heap.push { cls := .type "dict", data := .dict #[] }).push { cls := .type "cell", data := .cell none } }) :
    wpAny M A (newFunctionEnv scope globals cl [] qual none .none (some env)) Q E s := by
  unfold newFunctionEnv
  refine wpAny_bind (wpAny_alloc ?_)
  have skip : ∀ (l : List (Str × NameKind)) (cs : List (Str × Addr)), (∀ y ∈ l, y.2 ≠ .cell) → (forIn l cs fun (x : Str × NameKind) r => (if (x.2 == .cell) = true then do let c ← alloc { cls := .type "cell", data := .cell none }; pure (ForInStep.yield ((x.1, c) :: r)) else pure (ForInStep.yield r) : Sem (ForInStep (List (Str × Addr))))) = pure cs := by
    intro l
    induction l with
    | nil => intro cs _; rfl
    | cons y r ih =>
      intro cs hy
      obtain ⟨n, kd⟩ := y
      have hb : (kd == NameKind.cell) = false := by simpa using hy _ (.head _)
      rw [List.forIn_cons]
      simp only [hb, Bool.false_eq_true, if_false]
      exact ih cs fun z hz => hy z (.tail _ hz)
  have fold : wpAny M A (forIn scope.names cl fun (x : Str × NameKind) r => (if (x.2 == .cell) = true then do let c ← alloc { cls := .type "cell", data := .cell none }; pure (ForInStep.yield ((x.1, c) :: r)) else pure (ForInStep.yield r) : Sem (ForInStep (List (Str × Addr)))))
      (fun cs s' => cs = (x, (s.heap.push { cls := .type "dict", data := .dict #[] }).objs.size) :: cl ∧ s' = { s with heap := (s.heap.push { cls := .type "dict", data := .dict #[] }).push { cls := .type "cell", data := .cell none } }) E { s with heap := s.heap.push { cls := .type "dict", data := .dict #[] } } := by
    have app : ∀ (l : List (Str × NameKind)) (cs : List (Str × Addr)), (∀ y ∈ l, y.2 ≠ .cell) → (forIn (l ++ (x, NameKind.cell) :: l2) cs fun (x : Str × NameKind) r => (if (x.2 == .cell) = true then do let c ← alloc { cls := .type "cell", data := .cell none }; pure (ForInStep.yield ((x.1, c) :: r)) else pure (ForInStep.yield r) : Sem (ForInStep (List (Str × Addr))))) = forIn ((x, NameKind.cell) :: l2) cs fun (x : Str × NameKind) r => (if (x.2 == .cell) = true then do let c ← alloc { cls := .type "cell", data := .cell none }; pure (ForInStep.yield ((x.1, c) :: r)) else pure (ForInStep.yield r) : Sem (ForInStep (List (Str × Addr)))) := by
      intro l
      induction l with
      | nil => intro cs _; rfl
      | cons y r ih =>
        intro cs hy
        obtain ⟨n, kd⟩ := y
        have hb : (kd == NameKind.cell) = false := by simpa using hy _ (.head _)
        rw [List.cons_append, List.forIn_cons]
        simp only [hb, Bool.false_eq_true, if_false]
        exact ih cs fun z hz => hy z (.tail _ hz)
    rw [hn, app l1 cl h1, List.forIn_cons]
    simp only [beq_self_eq_true, if_true]
    refine wpAny_bind (wpAny_bind (wpAny_alloc (wpAny_pure ?_)))
    show wpAny M A (forIn l2 _ _) _ _ _
    rw [skip l2 _ h2]
    exact wpAny_pure ⟨rfl, rfl⟩
  refine wpAny_bind (wpAny_mono fold (fun cs s' hcs => ?_) fun _ _ e => e)
  obtain ⟨rfl, rfl⟩ := hcs
  refine wpAny_bind (wpAny_pure ?_)
  exact wpAny_pure hQ

theorem newEnv_wp {M : Model} {A : Around} {E : Value → Shared → Prop} {s : Shared} {scope : Scope} {globals : Addr} {cl : List (Str × Addr)} {qual : Str} {env : Env} {Q : Env → Shared → Prop}
    (hc : OwnCells scope W') (hk : scope.kind = .function) (hlive : ∀ x c, cl.lookup x = some c → s.heap.get? c ≠ none)
    (hQ : ∀ h' cells, (∀ b o, s.heap.get? b = some o → h'.get? b = some o) → h'.Ns s.heap.objs.size (fun _ => none) →
      (∀ x c, cells.lookup x = some c → (x ∈ W' ∧ h'.IsCell c none ∧ s.heap.get? c = none ∧ c ≠ s.heap.objs.size) ∨ (x ∉ W' ∧ cl.lookup x = some c)) → (∀ x ∈ W', ∃ c, cells.lookup x = some c) → (∀ x c, x ∉ W' → cl.lookup x = some c → cells.lookup x = some c) →
      (∀ x y c, x ∈ W' → y ∈ W' → cells.lookup x = some c → cells.lookup y = some c → x = y) →
      Q (newEnv scope s.heap.objs.size globals cells qual none .none (some env) builtinsNs) { s with heap := h' }) :
    wpAny M A (newFunctionEnv scope globals cl [] qual none .none (some env)) Q E s := by
  rcases hc with ⟨rfl, hc⟩ | ⟨x, l1, l2, rfl, hn, h1, h2⟩
  · refine wpAny_newFunctionEnv hc (fun y hy => nomatch hy) (fun h' hns hsb => ?_) hk
    refine hQ h' cl (fun b o e => ?_) (by simpa using hns) (fun x c hx => .inr ⟨nofun, hx⟩) (fun x hx => nomatch hx) (fun x c _ hx => hx) (fun x y c hx => nomatch hx)
    refine (hsb.2 b fun q => ?_).trans (Heap.get?_push_of_some _ e)
    subst q; exact absurd (Heap.lt_size e) (Nat.lt_irrefl _)
  · refine newEnv_one hn h1 h2 (hQ _ _ (fun b o e => Heap.get?_push_of_some _ (Heap.get?_push_of_some _ e)) ?_ (fun y c hy => ?_) (fun y hy => ?_) (fun y c hy hc => ?_) (fun y z c hy hz _ _ => ?_))
    · have := Heap.Ns.push (Heap.Ns.new s.heap (.type "dict")) { cls := .type "cell", data := .cell none }
      exact this
    · rw [List.lookup_cons] at hy
      by_cases hyx : y = x
      · subst hyx
        have hy2 : (s.heap.push { cls := .type "dict", data := .dict #[] }).objs.size = c := by simpa using hy
        subst hy2
        refine .inl ⟨.head _, ⟨_, Heap.get?_push_size _ rfl, rfl⟩, fresh_none (Heap.size_push s.heap { cls := .type "dict", data := .dict #[] }), ?_⟩
        exact fun q => Nat.succ_ne_self _ ((Heap.size_push s.heap { cls := .type "dict", data := .dict #[] }).symm.trans q)
      · rw [show (y == x) = false by simpa using hyx] at hy
        exact .inr ⟨by simpa using hyx, hy⟩
    · simp at hy; subst hy
      exact ⟨(s.heap.push { cls := .type "dict", data := .dict #[] }).objs.size, by rw [List.lookup_cons]; simp⟩
    · have hyx : y ≠ x := by simpa using hy
      rw [List.lookup_cons, show (y == x) = false by simpa using hyx]; exact hc
    · simp at hy hz; rw [hy, hz]
where
  fresh_none {h : Heap} {n : Nat} (e : n = h.objs.size + 1) : h.get? n = none := by
    cases q : h.get? n with
    | none => rfl
    | some o => exact absurd (Nat.lt_of_le_of_lt (Nat.le_succ _) (e ▸ Heap.lt_size q : h.objs.size + 1 < h.objs.size)) (Nat.lt_irrefl _)
end Mine
namespace Mine
open PySem PySem.W PyProof.Rows PySem.Calls PySem.Spec

variable {C : Cfg} {k : Nat} {ec : EC} {σ : Sto} {W W' : List Str}

def envOf (sc : Scope) : Env := { scope := sc, locals := 0, globals := 0, cells := [], qual := "", func := none, code := .none, frame := none, builtins := 0 }
def EC.comp (ec : EC) (scope : Scope) : EC := { sc := relabel scope (envOf ec.sc), code := ec.code, qual := ec.qual }
theorem relabel_of (scope : Scope) (env : Env) : relabel scope env = relabel scope (envOf env.scope) := rfl

/-- what a comprehension's block takes from around it -/
structure CapOK (ec : EC) (scope : Scope) (σ : Sto) (cs : List (Str × D)) (W' : List Str) : Prop where
  kind : scope.kind = .function
  own : OwnCells scope W'
  ownk : ∀ x ∈ W', (ec.comp scope).kind x = some .cell
  names : ∀ x ∈ scope.names, x.2 = .local → scope.names.lookup x.1 = some .local
  free : ∀ x ∈ scope.names, x.2 = .free → x.1 ∈ cs.map (·.1)
  out : ∀ p ∈ cs, σ.lookup p.1 = some (.dat p.2) ∧ (ec.kind p.1 = some .cell ∨ ec.kind p.1 = some .free)
  inn : ∀ p ∈ cs, (p.1, NameKind.free) ∈ scope.names ∧ ((ec.comp scope).kind p.1 = some .cell ∨ (ec.comp scope).kind p.1 = some .free) ∧ p.1 ∉ W'
  nodup : (accN :: cs.map (·.1)).Nodup

def capSto (cs : List (Str × D)) : Sto := cs.map fun p => (p.1, .dat p.2)
def innSto (D₁ : Addr) (cs : List (Str × D)) : Sto := (accN, .gho D₁ []) :: capSto cs

theorem capSto_lookup : ∀ {cs : List (Str × D)} {x : Str} {sl : Slot}, (capSto cs).lookup x = some sl → ∃ d, (x, d) ∈ cs ∧ sl = .dat d
  | [], _, _, e => by simp [capSto] at e
  | (y, d) :: r, x, sl, e => by
    simp only [capSto, List.map_cons, List.lookup_cons] at e
    by_cases hxy : x = y
    · subst hxy; simp at e; subst e; exact ⟨d, .head _, rfl⟩
    · rw [show (x == y) = false by simpa using hxy] at e
      obtain ⟨d', hm, he⟩ := capSto_lookup (cs := r) e
      exact ⟨d', .tail _ hm, he⟩
theorem owns_capSto : ∀ (cs : List (Str × D)), owns (capSto cs) = []
  | [] => rfl
  | p :: r => by
    show Slot.addr (.dat p.2) ++ owns (capSto r) = []
    rw [owns_capSto r]; rfl
theorem owns_innSto {D₁ : Addr} {cs : List (Str × D)} : owns (innSto D₁ cs) = [D₁] := by
  show [D₁] ++ owns (capSto cs) = [D₁]
  rw [owns_capSto]; rfl

theorem enter_comp {scope : Scope} {cs : List (Str × D)} {env : Env} {h₀ : Heap} {ex wr : List Addr} {s s4 : Shared} {D₁ L : Addr} {cells : List (Str × Addr)} {m : Str → Option Value} {n : Nat}
    (hc : CapOK ec scope σ cs W') (he : EnvOK ec env) (S : Sta C ec W env h₀ ex σ s.heap) (g : Go C s s4)
    (hD : s.heap.get? D₁ = none) (hL : s.heap.get? L = none) (hDL : D₁ ≠ L) (hwr : ∀ b ∈ wr, s.heap.get? b = none ∧ b ≠ D₁ ∧ b ≠ L ∧ s4.heap.get? b ≠ none) (hwn : wr.Nodup)
    (hDo : s4.heap.get? D₁ = some (lstObj [] n)) (hLn : s4.heap.Ns L m)
    (hcells : ∀ x c, cells.lookup x = some c → (x ∈ W' ∧ s4.heap.IsCell c none ∧ s.heap.get? c = none) ∨ (x ∉ W' ∧ (clos env scope.names []).lookup x = some c)) (hown : ∀ x ∈ W', ∃ c, cells.lookup x = some c)
    (hcap : ∀ x c, x ∉ W' → (clos env scope.names []).lookup x = some c → cells.lookup x = some c) (hinj : ∀ x y c, x ∈ W' → y ∈ W' → cells.lookup x = some c → cells.lookup y = some c → x = y) :
    EnvOK (ec.comp scope) { newEnv scope L env.globals cells env.qual none .none (some env) builtinsNs with scope := relabel scope env } ∧
    Sta C (ec.comp scope) W' { newEnv scope L env.globals cells env.qual none .none (some env) builtinsNs with scope := relabel scope env } s.heap (wr ++ exOf env σ ex) (innSto D₁ cs) s4.heap := by
  have S4 := S.go g
  have hvar : ∀ x d, (x, d) ∈ cs → ∃ v c, env.cells.lookup x = some c ∧ s.heap.IsCell c (some v) ∧ Rep C s.heap (exOf env σ ex) d v := fun x d hm => by
    obtain ⟨hl, hk⟩ := hc.out _ hm
    obtain ⟨v, V, r⟩ := S.slots _ _ hl
    rcases V with ⟨hq, _⟩ | ⟨_, c, hcc, hi⟩
    · rcases hk with hk | hk <;> rw [hk] at hq <;> cases hq
    · exact ⟨v, c, hcc, hi, r⟩
  have hfree : ∀ x ∈ scope.names, x.2 = .free → ∃ c, env.cells.lookup x.1 = some c := fun x hx hf => by
    obtain ⟨p, hp, e⟩ := List.mem_map.mp (hc.free x hx hf)
    obtain ⟨v, c, h, _⟩ := hvar p.1 p.2 hp
    exact ⟨c, e ▸ h⟩
  have hclo : ∀ x c, (clos env scope.names []).lookup x = some c → env.cells.lookup x = some c := fun x c e => clos_lookup _ _ _ _ hfree (fun y c e => by simp at e) e
  have hmem : ∀ b, b ∈ exOf { newEnv scope L env.globals cells env.qual none .none (some env) builtinsNs with scope := relabel scope env } (innSto D₁ cs) (wr ++ exOf env σ ex) → b = L ∨ b = D₁ ∨ b ∈ wr ∨ b ∈ exOf env σ ex := fun b hb => by
    rcases List.mem_cons.mp hb with rfl | hb
    · exact .inl rfl
    · rw [owns_innSto] at hb
      rcases List.mem_append.mp hb with hb | hb
      · exact .inr (.inl (List.mem_singleton.mp hb))
      · exact .inr (.inr (List.mem_append.mp hb))
  have hmv : ∀ b o, b ∉ exOf env σ ex → s.heap.get? b = some o → Solid o → s4.heap.get? b = some o ∧ b ∉ exOf { newEnv scope L env.globals cells env.qual none .none (some env) builtinsNs with scope := relabel scope env } (innSto D₁ cs) (wr ++ exOf env σ ex) := fun b o hb e hs => by
    refine ⟨g.ext _ _ (S.tab.ne e hs.1) e, fun hm => ?_⟩
    rcases hmem b hm with rfl | rfl | hm | hm
    · rw [hL] at e; cases e
    · rw [hD] at e; cases e
    · rw [(hwr b hm).1] at e; cases e
    · exact hb hm
  refine ⟨⟨(by show relabel scope env = relabel scope (envOf ec.sc); rw [← he.sc]; rfl), he.code, he.qual, he.gl, he.bi, hc.kind⟩, ?_⟩
  have hcl : ∀ x c, cells.lookup x = some c → ∃ v, s4.heap.IsCell c v := fun x c e => by
    rcases hcells x c e with ⟨_, hi, _⟩ | ⟨_, h⟩
    · exact ⟨_, hi⟩
    · obtain ⟨v, hi⟩ := S4.cells x c (hclo x c h); exact ⟨v, hi⟩
  exact {
    base := g.ext, g0 := S.g, t0 := S.tab, tab := S4.tab, ns := ⟨m, hLn⟩, newL := hL
    wr := fun x hx => by
      obtain ⟨c, e⟩ := hown x hx
      rcases hcells x c e with ⟨_, hi, hn⟩ | ⟨h, _⟩
      · exact ⟨hc.ownk x hx, c, none, e, hi, hn⟩
      · exact absurd hx h
    apart := fun x y c e e' => by
      rcases hcells x c e with ⟨hx, hi, hn⟩ | ⟨hx, h⟩ <;> rcases hcells y c e' with ⟨hy, hi', hn'⟩ | ⟨hy, h'⟩
      · exact hinj x y c hx hy e e'
      · obtain ⟨v, o, ho, _⟩ := S.cells y c (hclo y c h'); rw [hn] at ho; cases ho
      · obtain ⟨v, o, ho, _⟩ := S.cells x c (hclo x c h); rw [hn'] at ho; cases ho
      · exact S.apart x y c (hclo x c h) (hclo y c h')
    cells := hcl
    slots := fun x sl e => by
      unfold innSto at e
      rw [List.lookup_cons] at e
      by_cases hx : x = accN
      · subst hx
        simp only [beq_self_eq_true] at e
        cases e
        exact ⟨hD, [], n, hDo, .nil⟩
      · rw [show (x == accN) = false by simpa using hx] at e
        obtain ⟨d, hm, rfl⟩ := capSto_lookup e
        obtain ⟨v, c, hcc, hi, r⟩ := hvar x d hm
        obtain ⟨hin, hk, hw⟩ := hc.inn _ hm
        refine ⟨v, .inr ⟨hk, c, ?_, cell_ext hi S.tab g.ext⟩, Rep.move hmv d v r⟩
        have h1 := clos_has (env := env) scope.names [] x (.inl hin)
        cases h2 : (clos env scope.names []).lookup x with
        | none => rw [h2] at h1; cases h1
        | some c' =>
          have := hclo x c' h2
          rw [hcc] at this; cases this
          exact hcap x c hw h2
    nodup := by
      have hold : ∀ b ∈ exOf env σ ex, s.heap.get? b ≠ none := S.alive
      have key : (L :: D₁ :: (wr ++ exOf env σ ex)).Nodup := by
        refine List.nodup_cons.mpr ⟨fun hm => ?_, List.nodup_cons.mpr ⟨fun hm => ?_, List.nodup_append.mpr ⟨hwn, S.nodup, fun a ha b hb e => ?_⟩⟩⟩
        · rcases List.mem_cons.mp hm with e | hm
          · exact hDL e.symm
          · rcases List.mem_append.mp hm with hm | hm
            · exact (hwr _ hm).2.2.1 rfl
            · exact hold _ hm hL
        · rcases List.mem_append.mp hm with hm | hm
          · exact (hwr _ hm).2.1 rfl
          · exact hold _ hm hD
        · subst e; exact hold _ hb (hwr _ ha).1
      have e : exOf { newEnv scope L env.globals cells env.qual none .none (some env) builtinsNs with scope := relabel scope env } (innSto D₁ cs) (wr ++ exOf env σ ex) = L :: D₁ :: (wr ++ exOf env σ ex) := by
        show L :: (owns (innSto D₁ cs) ++ (wr ++ exOf env σ ex)) = _
        rw [owns_innSto]; rfl
      rw [e]; exact key
    proper := proper_of (by
      have := hc.nodup
      simp only [innSto, capSto, List.map_cons, List.map_map] at this ⊢
      exact this)
    alive := fun b hb => by
      rcases hmem b hb with rfl | rfl | hm | hm
      · obtain ⟨o, _, _, ho, _⟩ := hLn; rw [ho]; nofun
      · rw [hDo]; nofun
      · exact (hwr b hm).2.2.2
      · exact S4.alive b hm }

/-- names that a comprehension's block knows, and its list so far -/
structure CA (cs : List (Str × D)) (D₁ : Addr) (as : List D) (τ : Sto) : Prop where
  acc : τ.lookup accN = some (.gho D₁ as)
  cap : ∀ p ∈ cs, τ.lookup p.1 = some (.dat p.2)

theorem ca_inn {cs : List (Str × D)} {D₁ : Addr} (hn : (accN :: cs.map (·.1)).Nodup) : CA cs D₁ [] (innSto D₁ cs) := by
  have hp := proper_of (σ := innSto D₁ cs) (by simp only [innSto, capSto, List.map_cons, List.map_map]; exact hn)
  exact ⟨hp (accN, .gho D₁ []) (.head _), fun p hm => hp (p.1, .dat p.2) (.tail _ (List.mem_map.mpr ⟨p, hm, rfl⟩))⟩

theorem take_len {ds : List D} {out : D → List D} : ∀ {i : Nat} {d : D}, ds[i]? = some d → ((ds.take i).flatMap out ++ out d).length ≤ (ds.flatMap out).length := by
  intro i d hd
  have h1 : ds = ds.take i ++ d :: ds.drop (i + 1) := by
    have hi : i < ds.length := by
      rcases Nat.lt_or_ge i ds.length with h | h
      · exact h
      · rw [List.getElem?_eq_none h] at hd; cases hd
    have : ds[i] = d := by rw [List.getElem?_eq_getElem hi] at hd; exact Option.some.inj hd
    rw [← this, List.getElem_cons_drop, List.take_append_drop]
  have h2 : ds.flatMap out = (ds.take i).flatMap out ++ (out d ++ (ds.drop (i + 1)).flatMap out) := by
    conv => lhs; rw [h1]
    rw [List.flatMap_append, List.flatMap_cons]
  rw [h2, ← List.append_assoc, List.length_append (as := _ ++ out d)]
  exact Nat.le_add_right _ _
/-- the whole of a comprehension over lists -/
theorem comp_core {elt target iter : Expr} {ifs : List Expr} {rest : List Comprehension} {scope : Scope} {cpos ip pos : Pos} {B : Value → Env → Code → Sem Fin} {ds : List D} {own : Bool} {cs : List (Str × D)} {out : D → List D} {use : Option (Value → Sem Unit)}
    (hc : CapOK ec scope σ cs W') (hsrc : Isrc C k ec σ target iter ds own true) (hf : ∀ env x, foldedSetIterable iter env x = pure x)
    (hturn : ∀ it acc env, compTurn (.ListComp elt (⟨target, iter, ifs, 0⟩ :: rest) scope cpos) 0 it acc env = (do
      standAt ip
      match ← pyNext it with
      | none => pure (.done .next)
      | some v =>
        letOwnedTupleGo target it v
        assign target env v
        B acc env (.compLoop (.ListComp elt (⟨target, iter, ifs, 0⟩ :: rest) scope cpos) 0 it acc env)))
    (turn : ∀ D₁ as σ' d, CA cs D₁ as σ' → d ∈ ds → (as ++ out d).length ≤ (ds.flatMap out).length → ∃ σ'', Tg C k (ec.comp scope) W' σ' target d σ'' ∧ Bk C k (ec.comp scope) W' σ'' B D₁ (CA cs D₁ (as ++ out d)))
    {A : Around} {env : Env} {h₀ : Heap} {ex : List Addr} {s : Shared} {Q : Value → Shared → Prop} {E : Value → Shared → Prop}
    (hr : Room k A) (he : EnvOK ec env) (S : Sta C ec W env h₀ ex σ s.heap)
    (hfin : ∀ L D₁ vs n m s', Go C s s' → s.heap.get? L = none → s.heap.get? D₁ = none → D₁ ≠ L → s'.heap.Ns L m → s'.heap.get? D₁ = some (lstObj vs n) → RepL C s'.heap (L :: D₁ :: exOf env σ ex) (ds.flatMap out) vs → compPost (model C.prog C.w) A E use Q (.ref D₁) L (.ok .next) s') :
    wpAny (model C.prog C.w) A (comprehension (.ListComp elt (⟨target, iter, ifs, 0⟩ :: rest) scope cpos) scope env pos (newList []) false (eval iter env) use) Q E s := by
  have hfree : ∀ x ∈ scope.names, x.2 = .free → ∃ c, env.cells.lookup x.1 = some c := fun x hx hf => by
    obtain ⟨p, hp, e⟩ := List.mem_map.mp (hc.free x hx hf)
    obtain ⟨hl, hk⟩ := hc.out _ hp
    obtain ⟨v, V, r⟩ := S.slots _ _ hl
    rcases V with ⟨hq, _⟩ | ⟨_, c, hcc, hi⟩
    · rcases hk with hk | hk <;> rw [hk] at hq <;> cases hq
    · exact ⟨c, e ▸ hcc⟩
  have hclo : ∀ x c, (clos env scope.names []).lookup x = some c → env.cells.lookup x = some c := fun x c e => clos_lookup _ _ _ _ hfree (fun y c e => by simp at e) e
  refine wpAny_comprehension_free rfl (hf env) (closureFor_eq hfree) hc.kind hc.names ?_
  refine hsrc _ _ _ _ _ _ _ _ hr he S fun It fp wr St es vs s2 g2 wk st0 hw _ hfp rl hself => ?_
  refine wpAny_newList ?_ (by show 0 ≤ sizeLine; exact Nat.zero_le _)
  generalize hs3 : ({ s2 with heap := s2.heap.push { cls := .type "list", data := .seq ([] : List Value).toArray } } : Shared) = s3
  have g23 : Go C s2 s3 := .push { cls := .type "list", data := .seq ([] : List Value).toArray } (by rw [← hs3]) (by rw [← hs3]) (by rw [← hs3])
  have hD3 : s3.heap.get? s2.heap.objs.size = some (lstObj [] 0) := by rw [← hs3]; exact Heap.get?_push_size _ rfl
  have hsz : s3.heap.objs.size = s2.heap.objs.size + 1 := by rw [← hs3]; exact Heap.size_push _ _
  have S2 := S.go g2
  have S3 := S2.go g23
  refine newEnv_wp hc.own hc.kind (fun x c e => ?_) fun h4 cells hk hns hcells hown hcap hinj => ?_
  · obtain ⟨v, o, ho, _⟩ := S3.cells x c (hclo x c e); rw [ho]; nofun
  have g34 : Go C s3 { s3 with heap := h4 } := .keep hk
  have g4 := (g2.trans g23).trans g34
  have hlive : ∀ b ∈ fp, ∃ o, s2.heap.get? b = some o ∧ Solid o := wk.solid 0 _ st0
  have hlt : ∀ b ∈ fp, b < s2.heap.objs.size := fun b hb => by obtain ⟨o, ho, _⟩ := hlive b hb; exact Heap.lt_size ho
  have hDn : s.heap.get? s2.heap.objs.size = none := fresh_old S2.tab g2 (Nat.le_refl _)
  have hLn : s.heap.get? s3.heap.objs.size = none := fresh_old S3.tab (g2.trans g23) (Nat.le_refl _)
  have hne : s2.heap.objs.size ≠ s3.heap.objs.size := by rw [hsz]; exact fun e => Nat.succ_ne_self _ e.symm
  have hup : ∀ b o, s2.heap.get? b = some o → h4.get? b = some o := fun b o e => hk b o (by rw [← hs3]; exact Heap.get?_push_of_some _ e)
  obtain ⟨he', S'⟩ := enter_comp (s := s) (s4 := { s3 with heap := h4 }) (wr := wr) (D₁ := s2.heap.objs.size) (L := s3.heap.objs.size) (cells := cells) (n := 0) hc he S g4 hDn hLn hne
    (fun b hb => ⟨hw b hb, Nat.ne_of_lt (hlt b (wk.sub b hb)), by rw [hsz]; exact Nat.ne_of_lt (Nat.lt_succ_of_lt (hlt b (wk.sub b hb))), by obtain ⟨o, ho, _⟩ := hlive b (wk.sub b hb); show h4.get? b ≠ none; rw [hup b o ho]; nofun⟩)
    wk.nodup (hk _ _ hD3) hns (fun x c e => (hcells x c e).imp (fun ⟨a, b, c', d⟩ => ⟨a, b, by
      cases q : s.heap.get? c with
      | none => rfl
      | some o =>
        by_cases hP : c = C.P
        · subst hP; obtain ⟨ps, hp, _⟩ := S3.tab; rw [c'] at hp; cases hp
        · rw [(g2.trans g23).ext c o hP q] at c'; cases c'⟩) id) hown hcap hinj
  have st4 : St 0 h4 := wk.frame 0 _ _ st0 fun b hb o e => hup b o e
  have hwD : ∀ b ∈ fp, b ∉ wr → b ∉ s3.heap.objs.size :: owns (innSto s2.heap.objs.size cs) := fun b hb _ m => by
    rw [owns_innSto] at m
    rcases List.mem_cons.mp m with e | m
    · rw [hsz] at e; exact absurd (hlt b hb) (by rw [e]; exact Nat.not_lt.mpr (Nat.le_succ _))
    · rw [List.mem_singleton] at m; exact absurd (hlt b hb) (by rw [m]; exact Nat.lt_irrefl _)
  have hside : Side (ec.comp scope) { newEnv scope s3.heap.objs.size env.globals cells env.qual none .none (some env) builtinsNs with scope := relabel scope env } s.heap (wr ++ exOf env σ ex) wr := {
    ex := fun a ha => List.mem_append_left _ ha
    new := hw
    loc := fun m => absurd (hlt _ (wk.sub _ m)) (by show ¬ s3.heap.objs.size < _; rw [hsz]; exact Nat.not_lt.mpr (Nat.le_succ _))
    cells := fun x c hc m => by
      obtain ⟨v, o, ho, hd⟩ := S'.cells x c hc
      obtain ⟨o', ho', hs'⟩ := hlive c (wk.sub c m)
      have := hup c o' ho'
      rw [show h4.get? c = some o from ho] at this
      cases this
      exact hs'.2 _ hd }
  have loop : codeAny (model C.prog C.w) A (.compLoop (.ListComp elt (⟨target, iter, ifs, 0⟩ :: rest) scope cpos) 0 (.ref It) (.ref s2.heap.objs.size) { newEnv scope s3.heap.objs.size env.globals cells env.qual none .none (some env) builtinsNs with scope := relabel scope env })
      (compPost (model C.prog C.w) A E use Q (.ref s2.heap.objs.size) s3.heap.objs.size) { s3 with heap := h4 } := by
    refine comp_loop (W := W') (ec := ec.comp scope) hturn (fun i τ => CA cs s2.heap.objs.size ((ds.take i).flatMap out) τ) (fun i σ' d hI hd => ?_) (env := { newEnv scope s3.heap.objs.size env.globals cells env.qual none .none (some env) builtinsNs with scope := relabel scope env }) hr he' (ca_inn hc.nodup) wk st4 S' hside hwD ?_ fun σ' s' hI gx S'' => ?_
    · obtain ⟨σ'', h1, h2⟩ := turn _ _ σ' d hI (List.mem_of_getElem? hd) (take_len hd)
      refine ⟨σ'', h1, ?_⟩
      rw [List.take_add_one, hd, List.flatMap_append]
      simpa using h2
    · refine RepL.move (fun b o hb e hs => ⟨hup b o e, fun m => ?_⟩) es vs rl
      have hbl : b < s2.heap.objs.size := Heap.lt_size e
      rcases List.mem_cons.mp m with rfl | m
      · exact absurd hbl (by show ¬ s3.heap.objs.size < _; rw [hsz]; exact Nat.not_lt.mpr (Nat.le_succ _))
      · rw [owns_innSto] at m
        rcases List.mem_append.mp m with m | m
        · rw [List.mem_singleton] at m; exact absurd hbl (by rw [m]; exact Nat.lt_irrefl _)
        · exact hb m
    · obtain ⟨_, vs', n', hg, r⟩ := S''.slots _ _ hI.acc
      obtain ⟨m', hm⟩ := S''.ns
      rw [List.take_length] at r
      refine hfin _ _ vs' n' m' s' ⟨S''.base, fun _ => S''.tab, gx.os.trans g4.os, fun h => gx.bare (g4.bare h)⟩ hLn hDn hne hm hg (r.sub fun b hb => ?_)
      rcases List.mem_cons.mp hb with rfl | hb
      · exact .head _
      · refine List.mem_cons_of_mem _ ?_
        rcases List.mem_cons.mp hb with rfl | hb
        · exact List.mem_append_left _ (mem_owns hI.acc (.head _))
        · exact List.mem_append_right _ hb
  exact codeAny_compStart_list loop (hself rfl 0 _ _ _ st4 loop)
end Mine
namespace Mine
open PySem PySem.W PyProof.Rows PySem.Calls PySem.Spec

variable {C : Cfg} {k : Nat} {ec : EC} {σ : Sto} {W W' : List Str}

/-- the expression makes a new list -/
def Fl (C : Cfg) (k : Nat) (ec : EC) (σ : Sto) (e : Expr) (ds : List D) : Prop :=
  ∀ (A : Around) (W : List Str) (env : Env) (h₀ : Heap) (ex : List Addr) (s : Shared) (Q : Value → Shared → Prop) (E : Value → Shared → Prop),
    Room k A → EnvOK ec env → Sta C ec W env h₀ ex σ s.heap →
    (∀ a vs n s', Go C s s' → s.heap.get? a = none → s'.heap.get? a = some (lstObj vs n) → RepL C s'.heap (a :: exOf env σ ex) ds vs → Q (.ref a) s') →
    wpAny (model C.prog C.w) A (eval e env) Q E s
theorem fl_ev {e : Expr} {ds : List D} (h : Fl C k ec σ e ds) : Ev C k ec σ e (.lst ds) := by
  intro A W env h₀ ex s Q E hr he S hQ
  refine h _ _ _ _ _ _ _ _ hr he S fun a vs n s1 g hn ha r => hQ _ _ g ?_
  simp only [Rep]
  exact ⟨a, vs, n, rfl, fun m => S.alive _ m hn, ha, r.sub fun b hb => List.mem_cons_of_mem _ hb⟩
theorem fl_list {es : List Expr} {ds : List D} {pos : Pos} (h : Evs C k ec σ es ds) (hl : ds.length ≤ 1000) : Fl C k ec σ (.List es pos) ds := by
  intro A W env h₀ ex s Q E hr he S hQ
  refine wpAny_List_spliced (h _ _ _ _ _ _ _ _ _ hr he S fun vs s1 g1 r1 => ?_)
  have S1 := S.go g1
  refine ⟨by rw [r1.length, sizeLine_eq]; omega, hQ _ vs 0 _ (g1.trans (.push _ rfl)) (fresh_old S1.tab g1 (Nat.le_refl _)) (Heap.get?_push_size _ rfl) ?_⟩
  refine RepL.move (fun b o hb e _ => ⟨Heap.get?_push_of_some _ e, fun m => ?_⟩) ds vs r1
  rcases List.mem_cons.mp m with rfl | m
  · exact absurd (Heap.lt_size e) (Nat.lt_irrefl _)
  · exact hb m

theorem go_drop {s s' : Shared} {h' : Heap} {L : Addr} (T : TabOK C s.heap) (g : Go C s s') (hL : s.heap.get? L = none) (hs : Heap.SameBut L s'.heap h') : Go C s { s' with heap := h' } where
  ext := fun b o hb e => (hs.2 b fun q => by rw [q, hL] at e; cases e).trans (g.ext b o hb e)
  tab := fun T => (g.tab T).same hs fun e => by obtain ⟨ps, hp, _⟩ := T; rw [← e, hL] at hp; cases hp
  os := g.os
  bare := g.bare

theorem fl_comp {elt target iter : Expr} {ifs : List Expr} {rest : List Comprehension} {scope : Scope} {cpos ip : Pos} {B : Value → Env → Code → Sem Fin} {ds : List D} {own : Bool} {cs : List (Str × D)} {out : D → List D}
    (hc : CapOK ec scope σ cs W') (hsrc : Isrc C k ec σ target iter ds own true) (hf : ∀ env x, foldedSetIterable iter env x = pure x)
    (hturn : ∀ it acc env, compTurn (.ListComp elt (⟨target, iter, ifs, 0⟩ :: rest) scope cpos) 0 it acc env = (do
      standAt ip
      match ← pyNext it with
      | none => pure (.done .next)
      | some v =>
        letOwnedTupleGo target it v
        assign target env v
        B acc env (.compLoop (.ListComp elt (⟨target, iter, ifs, 0⟩ :: rest) scope cpos) 0 it acc env)))
    (turn : ∀ D₁ as σ' d, CA cs D₁ as σ' → d ∈ ds → (as ++ out d).length ≤ (ds.flatMap out).length → ∃ σ'', Tg C k (ec.comp scope) W' σ' target d σ'' ∧ Bk C k (ec.comp scope) W' σ'' B D₁ (CA cs D₁ (as ++ out d))) :
    Fl C k ec σ (.ListComp elt (⟨target, iter, ifs, 0⟩ :: rest) scope cpos) (ds.flatMap out) := by
  intro A W env h₀ ex s Q E hr he S hQ
  show wpAny _ A (comprehension (.ListComp elt (⟨target, iter, ifs, 0⟩ :: rest) scope cpos) scope env _ (newList []) false (eval iter env)) _ _ s
  refine comp_core hc hsrc hf hturn turn hr he S fun L D₁ vs n m s' g hL hD hne hm hg r => ?_
  refine ⟨m, hm, fun h' hs => hQ _ vs n _ (go_drop S.tab g hL hs) hD ((hs.2 _ hne).trans hg) (RepL.move (fun b o hb e _ => ⟨(hs.2 b fun q => hb (by rw [q]; exact .head _)).trans e, fun m => hb (.tail _ m)⟩) _ vs r)⟩

/-- x = [... for ...], the block's own names let go behind the store -/
theorem x1_assign_comp {elt target iter : Expr} {ifs : List Expr} {rest : List Comprehension} {scope : Scope} {cpos ip : Pos} {B : Value → Env → Code → Sem Fin} {ds : List D} {own : Bool} {cs : List (Str × D)} {out : D → List D} {x : Str} {p pos : Pos} {Φ : Out → Prop}
    (hc : CapOK ec scope σ cs W') (hsrc : Isrc C k ec σ target iter ds own true) (hf : ∀ env x, foldedSetIterable iter env x = pure x)
    (hturn : ∀ it acc env, compTurn (.ListComp elt (⟨target, iter, ifs, 0⟩ :: rest) scope cpos) 0 it acc env = (do
      standAt ip
      match ← pyNext it with
      | none => pure (.done .next)
      | some v =>
        letOwnedTupleGo target it v
        assign target env v
        B acc env (.compLoop (.ListComp elt (⟨target, iter, ifs, 0⟩ :: rest) scope cpos) 0 it acc env)))
    (turn : ∀ D₁ as σ' d, CA cs D₁ as σ' → d ∈ ds → (as ++ out d).length ≤ (ds.flatMap out).length → ∃ σ'', Tg C k (ec.comp scope) W' σ' target d σ'' ∧ Bk C k (ec.comp scope) W' σ'' B D₁ (CA cs D₁ (as ++ out d)))
    (hx : ec.kind x = some .local ∨ x ∈ W) (hsw : ∀ env, EnvOK ec env → swapsWith (.ListComp elt (⟨target, iter, ifs, 0⟩ :: rest) scope cpos) (some (.Name x p)) pos.line env = pure true)
    (hΦ : Φ (.next (σ.set x (.dat (.lst (ds.flatMap out)))))) :
    X1 C k ec W σ (.Assign [.Name x p] (.ListComp elt (⟨target, iter, ifs, 0⟩ :: rest) scope cpos) pos) Φ := by
  intro A env h₀ ex s Q E hr he S hQ
  rw [exec_Assign_Name_used _ _ _ _ (hsw env he)]
  refine wpAny_bind (wpAny_standAt (wpAny_bind ?_))
  show wpAny _ A (do let _ ← comprehension (.ListComp elt (⟨target, iter, ifs, 0⟩ :: rest) scope cpos) scope env _ (newList []) false (eval iter env) (some (assign (.Name x p) env))) _ _ s
  refine wpAny_bind ?_
  refine comp_core hc hsrc hf hturn turn hr he S fun L D₁ vs n m s' g hL hD hne hm hg r => ?_
  have hlive : ∀ b ∈ [L], s'.heap.get? b ≠ none := fun b hb => by
    rw [List.mem_singleton] at hb; subst hb
    obtain ⟨o, _, _, ho, _⟩ := hm; rw [ho]; nofun
  have S1 := S.addEx (ws := [L]) g (fun b hb => by rw [List.mem_singleton] at hb; subst hb; exact hL) hlive (List.nodup_cons.mpr ⟨nofun, List.nodup_nil⟩)
  have hside : Side ec env h₀ ([L] ++ ex) [L] := walk_side S fun b hb => by rw [List.mem_singleton] at hb; subst hb; exact hL
  have rD : Rep C s'.heap (exOf env σ ([L] ++ ex)) (.lst (ds.flatMap out)) (.ref D₁) := by
    simp only [Rep]
    have hsub : ∀ b, b ∈ exOf env σ ([L] ++ ex) → b = L ∨ b ∈ exOf env σ ex := fun b hb => by
      rcases List.mem_cons.mp hb with rfl | hb
      · exact .inr (.head _)
      · rcases List.mem_append.mp hb with hb | hb
        · exact .inr (List.mem_cons_of_mem _ (List.mem_append_left _ hb))
        · rcases List.mem_append.mp hb with hb | hb
          · exact .inl (List.mem_singleton.mp hb)
          · exact .inr (List.mem_cons_of_mem _ (List.mem_append_right _ hb))
    refine ⟨D₁, vs, n, rfl, fun hb => ?_, hg, r.sub fun b hb => ?_⟩
    · rcases hsub _ hb with e | hb
      · exact hne e
      · exact S.alive _ hb hD
    · rcases hsub _ hb with rfl | hb
      · exact .head _
      · exact .tail _ (.tail _ hb)
  show wpAny _ A (assign (.Name x p) env (.ref D₁)) _ _ s'
  refine wpAny_assign_Name (store_wp (sl := .dat (.lst (ds.flatMap out))) he S1.up hx rD fun s2 g2 S2 => ?_)
  have hL2 : s2.heap.Ns L m := by
    obtain ⟨o, es, ep, ho, hd, rr⟩ := hm
    have hnm : L ∉ env.locals :: (owns σ ++ wcells env W) := fun hb => by
      rcases List.mem_cons.mp hb with e | hb
      · exact S.alive _ (.head _) (e ▸ hL)
      · rcases List.mem_append.mp hb with hb | hb
        · exact S.alive _ (List.mem_cons_of_mem _ (List.mem_append_left _ hb)) hL
        · obtain ⟨y, hy, hc⟩ := List.mem_filterMap.mp hb
          obtain ⟨v, o', ho', _⟩ := S.cells y L hc
          rw [hL] at ho'; cases ho'
    exact ⟨o, es, ep, S2.base _ _ (S1.tab.neD ho (by rw [hd]; nofun)) (hideAll_get _ ho hnm), hd, rr⟩
  refine ⟨m, hL2, fun h' hs => wpAny_pure (wpAny_pure (hQ _ _ _ hΦ ⟨rfl, ?_⟩ ((g.gx.trans g2).trans ⟨rfl, id⟩)))⟩
  exact (S1.down S2).endWalk hside fun b o hb e => (hs.2 b fun q => hb (by rw [q]; exact .head _)).trans e
end Mine
namespace Mine
open PySem PySem.W PyProof.Rows PySem.Calls PySem.Spec

variable {C : Cfg} {k : Nat} {ec : EC} {σ : Sto} {W W' : List Str}

theorem CA.set {cs : List (Str × D)} {D₁ : Addr} {as : List D} {τ : Sto} {x : Str} {sl : Slot} (h : CA cs D₁ as τ) (hx : x ∉ accN :: cs.map (·.1)) : CA cs D₁ as (τ.set x sl) where
  acc := (lookup_set_ne fun e : accN = x => hx (by rw [← e]; exact .head _)).trans h.acc
  cap := fun p hp => (lookup_set_ne fun e : p.1 = x => hx (by rw [← e]; exact .tail _ (List.mem_map.mpr ⟨p, hp, rfl⟩))).trans (h.cap p hp)
theorem CA.put {cs : List (Str × D)} {D₁ : Addr} {as bs : List D} {τ : Sto} (h : CA cs D₁ as τ) (hn : (accN :: cs.map (·.1)).Nodup) : CA cs D₁ bs (τ.set accN (.gho D₁ bs)) where
  acc := lookup_set_self
  cap := fun p hp => (lookup_set_ne fun e : p.1 = accN => (List.nodup_cons.mp hn).1 (by rw [← e]; exact List.mem_map.mpr ⟨p, hp, rfl⟩)).trans (h.cap p hp)

theorem fm_map {α β : Type} (f : α → β) : ∀ l : List α, (l.flatMap fun d => [f d]) = l.map f
  | [] => rfl
  | a :: r => by simp [fm_map f r]
/-- what the element of a map-like block is worth -/
def MapTurn (C : Cfg) (k : Nat) (ec : EC) (cs : List (Str × D)) (x : Str) (elt : Expr) (ds : List D) (f : D → D) : Prop :=
  ∀ d ∈ ds, ∀ τ : Sto, τ.lookup x = some (.dat d) → (∀ p ∈ cs, τ.lookup p.1 = some (.dat p.2)) → Ev C k ec τ elt (f d)
theorem turn_map {elt : Expr} {scope : Scope} {ds : List D} {cs : List (Str × D)} {f : D → D} {x : Str} {p : Pos} {D₁ : Addr} {as : List D} {σ' : Sto} {d : D} (hc : CapOK ec scope σ cs W') (hx : (ec.comp scope).kind x = some .local ∨ x ∈ W') (hxn : x ∉ accN :: cs.map (·.1))
    (h : MapTurn C k (ec.comp scope) cs x elt ds f) (hl : ds.length ≤ 1000) (hca : CA cs D₁ as σ') (hd : d ∈ ds) (hle : (as ++ [f d]).length ≤ (ds.flatMap fun d => [f d]).length) :
    ∃ σ'', Tg C k (ec.comp scope) W' σ' (.Name x p) d σ'' ∧ Bk C k (ec.comp scope) W' σ'' (restOne elt) D₁ (CA cs D₁ (as ++ [f d])) := by
  have h1 : CA cs D₁ as (σ'.set x (.dat d)) := hca.set hxn
  refine ⟨_, tg_name hx, bk_one (h d hd _ lookup_set_self h1.cap) h1.acc ?_ (h1.put hc.nodup)⟩
  have : (ds.flatMap fun d => [f d]).length = ds.length := by rw [fm_map, List.length_map]
  rw [this, List.length_append] at hle
  simp at hle
  omega
theorem fl_map {elt iter : Expr} {scope : Scope} {cpos : Pos} {ds : List D} {own : Bool} {cs : List (Str × D)} {f : D → D} {x : Str} {p : Pos}
    (hc : CapOK ec scope σ cs W') (hsrc : Isrc C k ec σ (.Name x p) iter ds own true) (hf : ∀ env v, foldedSetIterable iter env v = pure v) (hx : (ec.comp scope).kind x = some .local ∨ x ∈ W') (hxn : x ∉ accN :: cs.map (·.1))
    (h : MapTurn C k (ec.comp scope) cs x elt ds f) (hl : ds.length ≤ 1000) : Fl C k ec σ (.ListComp elt [⟨.Name x p, iter, [], 0⟩] scope cpos) (ds.map f) := by
  rw [← fm_map]
  exact fl_comp (B := restOne elt) (ip := iter.pos) hc hsrc hf (fun _ _ _ => rfl) fun D₁ as σ' d hca hd hle => turn_map hc hx hxn h hl hca hd hle
theorem x1_assign_map {elt iter : Expr} {scope : Scope} {cpos : Pos} {ds : List D} {own : Bool} {cs : List (Str × D)} {f : D → D} {x y : Str} {p yp pos : Pos} {Φ : Out → Prop}
    (hc : CapOK ec scope σ cs W') (hsrc : Isrc C k ec σ (.Name x p) iter ds own true) (hf : ∀ env v, foldedSetIterable iter env v = pure v) (hx : (ec.comp scope).kind x = some .local ∨ x ∈ W') (hxn : x ∉ accN :: cs.map (·.1))
    (h : MapTurn C k (ec.comp scope) cs x elt ds f) (hl : ds.length ≤ 1000) (hy : ec.kind y = some .local ∨ y ∈ W) (hsw : ∀ env, EnvOK ec env → swapsWith (.ListComp elt [⟨.Name x p, iter, [], 0⟩] scope cpos) (some (.Name y yp)) pos.line env = pure true)
    (hΦ : Φ (.next (σ.set y (.dat (.lst (ds.map f)))))) : X1 C k ec W σ (.Assign [.Name y yp] (.ListComp elt [⟨.Name x p, iter, [], 0⟩] scope cpos) pos) Φ := by
  rw [← fm_map] at hΦ
  exact x1_assign_comp (B := restOne elt) (ip := iter.pos) hc hsrc hf (fun _ _ _ => rfl) (fun D₁ as σ' d hca hd hle => turn_map hc hx hxn h hl hca hd hle) hy hsw hΦ

/-- one test -/
def FiltTurn (C : Cfg) (k : Nat) (ec : EC) (cs : List (Str × D)) (x : Str) (t elt : Expr) (ds : List D) (q : D → Bool) (f : D → D) : Prop :=
  ∀ d ∈ ds, ∀ τ : Sto, τ.lookup x = some (.dat d) → (∀ p ∈ cs, τ.lookup p.1 = some (.dat p.2)) → Tr C k ec τ t (q d) ∧ (q d = true → Ev C k ec τ elt (f d))
theorem fm_filt {α β : Type} (q : α → Bool) (f : α → β) : ∀ l : List α, (l.flatMap fun d => if q d then [f d] else []) = (l.filter q).map f
  | [] => rfl
  | a :: r => by
    rw [List.flatMap_cons, fm_filt q f r]
    cases h : q a <;> simp [h]
theorem fl_filt {t elt iter : Expr} {scope : Scope} {cpos : Pos} {ds : List D} {own : Bool} {cs : List (Str × D)} {q : D → Bool} {f : D → D} {x : Str} {p : Pos}
    (hc : CapOK ec scope σ cs W') (hsrc : Isrc C k ec σ (.Name x p) iter ds own true) (hf : ∀ env v, foldedSetIterable iter env v = pure v) (hx : (ec.comp scope).kind x = some .local ∨ x ∈ W') (hxn : x ∉ accN :: cs.map (·.1))
    (h : FiltTurn C k (ec.comp scope) cs x t elt ds q f) (hl : ds.length ≤ 1000) : Fl C k ec σ (.ListComp elt [⟨.Name x p, iter, [t], 0⟩] scope cpos) ((ds.filter q).map f) := by
  rw [← fm_filt]
  refine fl_comp (B := restIf t elt) (ip := iter.pos) hc hsrc hf (fun _ _ _ => rfl) fun D₁ as σ' d hca hd hle => ?_
  have h1 : CA cs D₁ as (σ'.set x (.dat d)) := hca.set hxn
  obtain ⟨ht, he⟩ := h d hd _ lookup_set_self h1.cap
  refine ⟨_, tg_name hx, bk_if (d := f d) ht he h1.acc ?_ (fun e => ?_) fun e => ?_⟩
  · have h2 : (ds.flatMap fun d => if q d then [f d] else []).length ≤ ds.length := by
      rw [fm_filt, List.length_map]; exact List.length_filter_le _ _
    rw [List.length_append] at hle
    omega
  · rw [if_pos e]; exact h1.put hc.nodup
  · rw [if_neg (by rw [e]; decide), List.append_nil]; exact h1
end Mine
namespace Mine
open PySem PySem.W PyProof.Rows PySem.Calls PySem.Spec

variable {C : Cfg} {k : Nat} {ec : EC} {σ : Sto} {W W' : List Str}

theorem codeAny_compStart_list1 {prog : Program} {w : World} {A : Around} {R : Result → Shared → Prop} {s : Shared} {elt target iter t2 i2 : Expr} {scope : Scope} {pos : Pos} {it acc : Value} {env : Env}
    (h0 : codeAny (model prog w) A (.compLoop (.ListComp elt [⟨target, iter, [], 0⟩, ⟨t2, i2, [], 0⟩] scope pos) 1 it acc env) R s)
    (h : wpAny (model prog w) A (pyIter it) (fun it' s' => codeAny (model prog w) A (.compLoop (.ListComp elt [⟨target, iter, [], 0⟩, ⟨t2, i2, [], 0⟩] scope pos) 1 it' acc env) R s')
      (notedBy (model prog w) A env fun x s' => R (.error x) s') s) :
    codeAny (model prog w) A (.compStart (.ListComp elt [⟨target, iter, [], 0⟩, ⟨t2, i2, [], 0⟩] scope pos) 1 it acc env) R s := by
  refine codeAny_of_tree ?_
  show wpAny _ _ ((compStart (.ListComp elt [⟨target, iter, [], 0⟩, ⟨t2, i2, [], 0⟩] scope pos) 1 it acc env).onRaise (fun x => do noteFrame x env; standAt theWindowsPlace)) _ _ s
  refine wpAny_notedAt ?_
  unfold compStart
  show wpAny _ _ (ask >>= _) _ _ s
  refine wpAny_bind (wpAny_askSetting (wpAny_ite ?_))
  split
  · first
      | exact wpAny_bind (wpAny_pure (wpAny_pure (And.intro rfl h0)))
      | exact wpAny_pure (And.intro rfl h0)
  · first
      | exact wpAny_bind (wpAny_rule (wpAny_bind (wpAny_standAt (wpAny_bind (wpAny_mono h (fun it' s' h' => wpAny_pure (And.intro rfl h')) fun _ _ x => x)))))
      | (refine wpAny_bind (wpAny_rule ?_); show wpAny _ _ (standAt i2.pos >>= _) _ _ s; exact wpAny_bind (wpAny_standAt (wpAny_bind (wpAny_mono h (fun it' s' h' => wpAny_pure (And.intro rfl h')) fun _ _ x => x))))

def nestB (elt target iter t2 i2 : Expr) (scope : Scope) (pos : Pos) : Value → Env → Code → Sem Fin := fun acc env c => do
  let x ← eval i2 env
  standAt i2.pos
  let x ← foldedSetIterable i2 env x
  let _ ← runOwn (.compStart (.ListComp elt [⟨target, iter, [], 0⟩, ⟨t2, i2, [], 0⟩] scope pos) 1 (← holding [x] (pyIter x)) acc env) env
  again c

theorem bk_nest {elt target iter t2 i2 : Expr} {scope : Scope} {pos : Pos} {ds2 : List D} {D₁ : Addr} {Φ : Sto → Prop} (I : Nat → Sto → Prop)
    (hsrc : Isrc C k ec σ t2 i2 ds2 false true) (hf : ∀ env x, foldedSetIterable i2 env x = pure x) (h0 : I 0 σ)
    (turn : ∀ i τ d, I i τ → ds2[i]? = some d → ∃ τ'', Tg C k ec W τ t2 d τ'' ∧ Bk C k ec W τ'' (restOne elt) D₁ (I (i + 1)))
    (hend : ∀ τ, I ds2.length τ → Φ τ) : Bk C k ec W σ (nestB elt target iter t2 i2 scope pos) D₁ Φ := by
  intro A env h₀ ex s c Q E hr he S hQ
  unfold nestB
  refine wpAny_bind (wpAny_mono (hsrc A W env h₀ ex s (fun it s2 => codeAny (model C.prog C.w) A (.compStart (.ListComp elt [⟨target, iter, [], 0⟩, ⟨t2, i2, [], 0⟩] scope pos) 1 it (.ref D₁) env)
    (fun r s' => match r with | .ok f => Q (.again c) s' | .error e => cameBackBy (model C.prog C.w) A env E e s') s2) E hr he S ?_) (fun x s1 h1 => ?_) fun _ _ e => e)
  · intro It fp wr St es vs s1 g1 wk st0 hw hfp _ rl hself
    have hlive : ∀ b ∈ wr, s1.heap.get? b ≠ none := fun b hb => by
      obtain ⟨o, ho, _⟩ := wk.solid 0 _ st0 b (wk.sub b hb); rw [ho]; nofun
    have S1 := S.addEx g1 hw hlive wk.nodup
    have hside := walk_side S hw
    have loop : codeAny (model C.prog C.w) A (.compLoop (.ListComp elt [⟨target, iter, [], 0⟩, ⟨t2, i2, [], 0⟩] scope pos) 1 (.ref It) (.ref D₁) env) (fun r s' => match r with | .ok f => Q (.again c) s' | .error e => cameBackBy (model C.prog C.w) A env E e s') s1 := by
      refine comp_loop (ip := i2.pos) (B := restOne elt) (fun _ _ _ => rfl) I turn hr he h0 wk st0 S1 hside (fun b hb hnw m => ?_) (rl.sub fun b hb => ?_) fun σ' s' hI gx S' => hQ s' _ (hend _ hI) (g1.gx.trans gx) S'
      · have := hfp rfl b hb hnw
        rcases List.mem_cons.mp m with rfl | m
        · exact this (.head _)
        · exact this (List.mem_cons_of_mem _ (List.mem_append_left _ m))
      · rcases List.mem_cons.mp hb with rfl | hb
        · exact List.mem_append_right _ (.head _)
        · rcases List.mem_append.mp hb with hb | hb
          · exact List.mem_append_right _ (List.mem_cons_of_mem _ (List.mem_append_left _ hb))
          · rcases List.mem_append.mp hb with hb | hb
            · exact List.mem_append_left _ hb
            · exact List.mem_append_right _ (List.mem_cons_of_mem _ (List.mem_append_right _ hb))
    exact codeAny_compStart_list1 loop (hself rfl 0 _ _ _ st0 loop)
  · refine wpAny_bind (wpAny_standAt (wpAny_bind (wpAny_of_eq (hf env x) (wpAny_bind (wpAny_holding (wpAny_mono h1 (fun it s2 h2 => ?_) fun _ _ e => e))))))
    refine wpAny_bind (wpAny_runOwn (codeAny_mono h2 fun r s' hr' => ?_))
    cases r with
    | ok f => exact wpAny_pure hr'
    | error e => exact hr'
end Mine
namespace Mine
open PySem PySem.W PyProof.Rows PySem.Calls PySem.Spec

variable {C : Cfg} {k : Nat} {ec : EC} {σ : Sto} {W W' : List Str}

theorem draw_list {prog : Program} {w : World} {A : Around} {E : Value → Shared → Prop} {it t : Addr} {items : Array Value} (hne : t ≠ it) : ∀ (n i : Nat) (s : Shared) (Q : List Value → Shared → Prop), s.heap.IsListIter it t i → s.heap.IsList t items → i + n ≤ items.size →
    (∀ h', h'.IsListIter it t (i + n) → Heap.SameBut it s.heap h' → Q ((items.toList.drop i).take n) { s with heap := h' }) → wpAny (model prog w) A (draw (.ref it) n) Q E s
  | 0, i, s, Q, hit, _, _, hQ => by
    show wpAny _ _ (pure []) Q E s
    exact wpAny_pure (by simpa using hQ s.heap hit (Heap.SameBut.refl ..))
  | n + 1, i, s, Q, hit, ht, hle, hQ => by
    have hlt : i < items.size := by omega
    show wpAny _ _ (pyNext (.ref it) >>= _) Q E s
    refine wpAny_bind (wpAny_pyNext_list_item hit ht (x := items[i]) (by simp [hlt]) fun h₁ hit₁ hs₁ => ?_)
    refine wpAny_bind (wpAny_holding (draw_list hne n (i + 1) _ _ hit₁ (ht.extBut hs₁.extBut hne) (by omega) fun h₂ hit₂ hs₂ => wpAny_pure ?_))
    have hd : items.toList.drop i = items[i] :: items.toList.drop (i + 1) := by simp [List.drop_eq_getElem_cons, hlt]
    have := hQ h₂ (by rw [show i + (n + 1) = i + 1 + n by omega]; exact hit₂) (hs₁.trans hs₂)
    rw [hd, List.take_succ_cons] at this
    exact this
theorem unpackItems_list {prog : Program} {w : World} {A : Around} {E : Value → Shared → Prop} {s : Shared} {t : Addr} {items : Array Value} {Q : List Value → Shared → Prop} (hh : A.handled = none) (ht : s.heap.IsList t items)
    (hQ : ∀ h', Heap.ExtBut s.heap.objs.size s.heap h' → Q items.toList { s with heap := h' }) : wpAny (model prog w) A (unpackItems (.ref t) items.size none) Q E s := by
  have hlt : t ≠ s.heap.objs.size := by obtain ⟨o, ho, _⟩ := ht; exact Nat.ne_of_lt (Heap.lt_size ho)
  unfold unpackItems
  refine wpAny_bind ?_
  · unfold notIterableAtAll
    refine wpAny_bind (wpAny_specialOf ht.typeIs slot_list_iter.lookup ?_)
    refine wpAny_pure ?_
    simp only [Bool.false_eq_true, if_false]
    refine wpAny_bind (wpAny_holding (wpAny_pyIter_list ht ?_))
    refine wpAny_bind (wpAny_holding (draw_list hlt items.size 0 _ _ ⟨_, Heap.get?_push_size _ rfl, rfl, rfl⟩ (let ⟨o, e, r⟩ := ht; ⟨o, Heap.get?_push_of_some _ e, r⟩) (by omega) fun h₁ hit₁ hs₁ => ?_))
    have hall : List.take items.size (List.drop 0 items.toList) = items.toList := by
      rw [List.drop_zero]; exact List.take_of_length_le (by simp)
    rw [hall]
    rw [if_neg (by simp)]
    have ht₁ : h₁.IsList t items := Heap.IsList.extBut (let ⟨o, e, r⟩ := ht; ⟨o, Heap.get?_push_of_some _ e, r⟩) hs₁.extBut hlt
    refine wpAny_bind (wpAny_holding (wpAny_pyNext_list_end hh hit₁ ht₁ (by simp) fun h₂ he₂ => ?_))
    simp only [Option.isSome_none, Bool.false_eq_true, if_false]
    refine wpAny_pure (hQ h₂ fun b o hb e => he₂ b o hb (hs₁.extBut b o hb (Heap.get?_push_of_some _ e)))

/-- several names at once -/
def Sto.sets (σ : Sto) : List Str → List D → Sto
  | x :: xs, d :: ds => Sto.sets (σ.set x (.dat d)) xs ds
  | _, _ => σ
theorem assigns_wp {α : Type} {A : Around} {env : Env} {ex : List Addr} {E : Value → Shared → Prop} (F : Str × α → Value → Sem Unit)
    (hF : ∀ x v s (Q : Unit → Shared → Prop), wpAny (model C.prog C.w) A (storeName env x.1 v) Q E s → wpAny (model C.prog C.w) A (F x v) Q E s) (he : EnvOK ec env) : ∀ (xs : List (Str × α)) (ds : List D) (vs : List Value) (σ : Sto) (h₀ : Heap) (s : Shared) (Q : Unit → Shared → Prop),
    xs.length = ds.length → (∀ x ∈ xs, ec.kind x.1 = some .local ∨ x.1 ∈ W) → Sta C ec W env h₀ ex σ s.heap → RepL C s.heap (exOf env σ ex) ds vs →
    (∀ s', Gx s s' → Sta C ec W env h₀ ex (σ.sets (xs.map (·.1)) ds) s'.heap → Q () s') → wpAny (model C.prog C.w) A (assignInOrder (xs.map F) vs) Q E s := by
  intro xs
  induction xs with
  | nil =>
    intro ds vs σ h₀ s Q hl hx S r hQ
    obtain rfl : ds = [] := List.eq_nil_of_length_eq_zero hl.symm
    simp only [RepL] at r; subst r
    exact wpAny_assignInOrder_none (hQ s (.refl s) S)
  | cons x xs ih =>
    intro ds vs σ h₀ s Q hl hx S r hQ
    cases ds with
    | nil => cases hl
    | cons d ds =>
      simp only [RepL] at r
      obtain ⟨v, vs', rfl, r1, r2⟩ := r
      refine wpAny_assignInOrder_more (hF _ _ _ _ (store_wp (sl := .dat d) he S.up (hx x (.head _)) r1 fun s1 g1 S1 => ?_))
      exact ih ds vs' _ h₀ s1 Q (by simpa using hl) (fun y hy => hx y (.tail _ hy)) (S.down S1) (S.repL_on S1 r2) fun s2 g2 S2 => hQ s2 (g1.trans g2) S2

def IsSeqD (d : D) (ds : List D) : Prop := d = .tup ds ∨ d = .lst ds
theorem unpack_wp {A : Around} {s : Shared} {ex : List Addr} {d : D} {ds : List D} {v : Value} {Q : List Value → Shared → Prop} {E : Value → Shared → Prop} (hh : A.handled = none) (hd : IsSeqD d ds) (r : Rep C s.heap ex d v) (n : Nat) (hn : n = ds.length)
    (hQ : ∀ vs s', Go C s s' → RepL C s'.heap ex ds vs → Q vs s') : wpAny (model C.prog C.w) A (unpackItems v n none) Q E s := by
  rcases hd with rfl | rfl
  · simp only [Rep] at r
    obtain ⟨a, vs, m, rfl, _, ha, r⟩ := r
    have hsz : n = vs.toArray.size := by rw [hn, ← r.length]; simp
    rw [hsz]
    refine wpAny_unpackItems_tuple hh (tup_at ha) fun h' he => ?_
    have hk : ∀ b o, s.heap.get? b = some o → h'.get? b = some o := fun b o e => he b o (Nat.ne_of_lt (Heap.lt_size e)) e
    exact hQ vs _ (.keep hk) (r.keep hk)
  · simp only [Rep] at r
    obtain ⟨a, vs, m, rfl, _, ha, r⟩ := r
    have hsz : n = vs.toArray.size := by rw [hn, ← r.length]; simp
    rw [hsz]
    refine unpackItems_list hh (lst_at ha) fun h' he => ?_
    have hk : ∀ b o, s.heap.get? b = some o → h'.get? b = some o := fun b o e => he b o (Nat.ne_of_lt (Heap.lt_size e)) e
    exact hQ vs _ (.keep hk) (r.keep hk)

theorem each_names {env : Env} : ∀ qs : List (Str × Pos), assignEach (qs.map fun q => Expr.Name q.1 q.2) env = qs.map fun q => (false, assign (.Name q.1 q.2) env)
  | [] => rfl
  | q :: qs => by
    show (false, assign (.Name q.1 q.2) env) :: assignEach (qs.map fun q => Expr.Name q.1 q.2) env = _
    rw [each_names qs]; rfl
theorem find_none {α β : Type} (F : α → β) : ∀ xs : List α, (xs.map fun x => (false, F x)).findIdx? (fun q => q.1) = none
  | [] => rfl
  | x :: xs => by
    rw [List.map_cons, List.findIdx?_cons]
    simp only [Bool.false_eq_true, if_false, find_none F xs, Option.map_none]

/-- a, b, c = data -/
theorem tg_seq {elts : List Expr} {n : Nat} {p : Pos} (qs : List (Str × Pos)) {d : D} {ds : List D} (hd : IsSeqD d ds) (hl : qs.length = ds.length) (hx : ∀ x ∈ qs, ec.kind x.1 = some .local ∨ x.1 ∈ W)
    (hel : elts = qs.map fun q => .Name q.1 q.2) : Tg C k ec W σ (.Tuple elts n p) d (σ.sets (qs.map (·.1)) ds) := by
  intro A env h₀ ex s v Q E hr he S r hQ
  subst hel
  rw [arm_assign_Tuple]
  refine wpAny_bind (wpAny_standAt ?_)
  unfold unpack
  rw [each_names, find_none, List.length_map]
  refine wpAny_bind (wpAny_holding (unpack_wp hr.handled hd r _ hl fun vs s1 g1 r1 => ?_))
  rw [List.map_map]
  exact assigns_wp (fun (x : Str × Pos) v => assign (.Name x.1 x.2) env v) (fun x v s Q h => wpAny_assign_Name h) he qs ds vs σ h₀ s1 Q hl hx (S.go g1) r1 fun s2 g2 S2 => hQ s2 (g1.gx.trans g2) S2
theorem x1_assign_seq {elts : List Expr} {n : Nat} {p pos : Pos} {e : Expr} (qs : List (Str × Pos)) {d : D} {ds : List D} {Φ : Out → Prop} (h : Ev C k ec σ e d) (hd : IsSeqD d ds) (hl : qs.length = ds.length) (hx : ∀ x ∈ qs, ec.kind x.1 = some .local ∨ x.1 ∈ W)
    (hel : elts = qs.map fun q => .Name q.1 q.2) (hs : ∀ env, swapsWithSole [.Tuple elts n p] e pos.line env = pure false) (hw : ∀ env, swappedStores [.Tuple elts n p] e env = pure none)
    (he2 : ∀ env, (assignEach [.Tuple elts n p] env).map (·.2) = [assign (.Tuple elts n p) env]) (hΦ : Φ (.next (σ.sets (qs.map (·.1)) ds))) : X1 C k ec W σ (.Assign [.Tuple elts n p] e pos) Φ := by
  intro A env h₀ ex s Q E hr he S hQ
  refine wpAny_Assign_stores (h _ _ _ _ _ _ _ _ hr he S fun v s1 g1 r1 => ?_) (hs env) (hw env)
  rw [he2]
  exact tg_seq (W := W) qs hd hl hx hel A env h₀ ex s1 v _ E hr he (S.go g1) r1 fun s2 g2 S2 => hQ _ _ _ hΦ ⟨rfl, S2⟩ (g1.gx.trans g2)

/-- x.append(e) -/
theorem x1_append {x : Str} {e : Expr} {a : Addr} {as : List D} {d : D} {xp apos cpos pos : Pos} {Φ : Out → Prop} (hx : σ.lookup x = some (.own a as)) (h : Ev C k ec σ e d) (hl : as.length ≤ 1000) (h1 : (x == ("__debug__" : Str)) = false) (h2 : (x == ("__classdict__" : Str)) = false)
    (ha1 : ∀ env, attributeBase (.Name x xp) (Str.ofString "append") env (eval (.Name x xp) env) = eval (.Name x xp) env)
    (ha2 : ∀ env, (((backTo cpos (starEach [e] env)).all fun y => !y.1) && ((backToKw cpos (keywordEach [] env)).all fun y => y.1.isSome) && decide (([e].length + ([] : List Keyword).length + if ([] : List Keyword).isEmpty = true then 0 else 1) < 30)) = true)
    (ha3 : (apos.endLine == cpos.line) = true) (ha4 : ∀ env, backTo cpos (starEach [e] env) = [(false, eval e env)]) (hi : ∀ env, EnvOK ec env → interactive env = false) (hs : ∀ env, swapsWith (.Call (.Attribute (.Name x xp) (Str.ofString "append") apos) [e] [] cpos) none pos.line env = pure false)
    (hΦ : Φ (.next (σ.set x (.own a (as ++ [d]))))) : X1 C k ec W σ (.Expr (.Call (.Attribute (.Name x xp) (Str.ofString "append") apos) [e] [] cpos) pos) Φ := by
  intro A env h₀ ex s Q E hr he S hQ
  refine wpAny_Expr_any (wpAny_Call_append (ha1 env) (ha2 env) ha3 (ha4 env) ?_) (hi env he) (hs env)
  obtain ⟨V, _, vs, n, ha, r⟩ := S.slots _ _ hx
  refine name_wp (W := W) (h₀ := h₀) (ex := ex) he V h1 h2 ⟨a, vs.toArray, rfl, ⟨_, n, ha, rfl, rfl, rfl⟩, ?_⟩
  refine h _ _ _ _ _ _ _ _ hr he S fun v s1 g1 r1 => ?_
  have S1 := S.go g1
  obtain ⟨_, _, vs', n', ha', r'⟩ := S1.slots _ _ hx
  refine lst_append ha' (by rw [r'.length]; exact hl) fun h' n'' hg hs => ?_
  exact hQ _ _ _ hΦ ⟨rfl, S1.setOwn hx hs hg (r'.append (.one r1))⟩ (g1.gx.trans ⟨rfl, id⟩)

/-- x = [..] of its own -/
theorem x1_own {x : Str} {e : Expr} {ds : List D} {p pos : Pos} {Φ : Out → Prop} (h : Fl C k ec σ e ds) (hx : ec.kind x = some .local ∨ x ∈ W) (hs : ∀ env, swapsWith e (some (.Name x p)) pos.line env = pure false) (hΦ : ∀ a, Φ (.next (σ.set x (.own a ds)))) : X1 C k ec W σ (.Assign [.Name x p] e pos) Φ := by
  intro A env h₀ ex s Q E hr he S hQ
  refine wpAny_Assign_Name (h _ _ _ _ _ _ _ _ hr he S fun a vs n s1 g1 hn ha r1 => ?_) (hs env)
  have S1 : Sta C ec W env h₀ ([a] ++ ex) σ s1.heap := S.addEx (ws := [a]) g1 (fun b hb => by rw [List.mem_singleton] at hb; subst hb; exact hn) (fun b hb => by rw [List.mem_singleton] at hb; subst hb; rw [ha]; nofun) (List.nodup_cons.mpr ⟨nofun, List.nodup_nil⟩)
  have hn0 : h₀.get? a = none := by
    cases q : h₀.get? a with
    | none => rfl
    | some o =>
      by_cases hP : a = C.P
      · subst hP; obtain ⟨ps, hp, _⟩ := S.tab; rw [hn] at hp; cases hp
      · have := S.base a o hP q; rw [hn] at this; cases this
  refine store_wp (sl := .own a ds) he S1 hx ⟨rfl, hn0, vs, n, ha, r1.sub fun b hb => ?_⟩ fun s2 g2 S2 => hQ _ _ _ (hΦ a) ⟨rfl, S2⟩ (g1.gx.trans g2)
  rcases List.mem_cons.mp hb with rfl | hb
  · exact .tail _ (.head _)
  · rcases List.mem_append.mp hb with hb | hb
    · exact .tail _ (.tail _ (List.mem_append_left _ hb))
    · rcases List.mem_cons.mp hb with rfl | hb
      · exact .head _
      · exact .tail _ (.tail _ (List.mem_append_right _ hb))
/-- a = b = e -/
theorem x1_assign2 {x y : Str} {e : Expr} {d : D} {p q pos : Pos} {Φ : Out → Prop} (h : Ev C k ec σ e d) (hx : ec.kind x = some .local ∨ x ∈ W) (hy : ec.kind y = some .local ∨ y ∈ W) (hΦ : Φ (.next ((σ.set x (.dat d)).set y (.dat d)))) : X1 C k ec W σ (.Assign [.Name x p, .Name y q] e pos) Φ := by
  intro A env h₀ ex s Q E hr he S hQ
  refine wpAny_Assign_two (h _ _ _ _ _ _ _ _ hr he S fun v s1 g1 r1 => ?_)
  have S1 := S.go g1
  refine wpAny_assign_Name (store_wp (sl := .dat d) he S1.up hx r1 fun s2 g2 S2 => ?_)
  exact wpAny_assign_Name (store_wp (sl := .dat d) he (S1.down S2) hy (S1.rep_on S2 r1) fun s3 g3 S3 => hQ _ _ _ hΦ ⟨rfl, S3⟩ (g1.gx.trans (g2.trans g3)))
/-- x += e -/
theorem x1_aug_int {x : Str} {e : Expr} {a b : Int} {p pos : Pos} {Φ : Out → Prop} (hx : σ.lookup x = some (.dat (.int a))) (h : Ev C k ec σ e (.int b)) (hk : ec.kind x = some .local) (hΦ : Φ (.next (σ.set x (.dat (.int (a + b)))))) : X1 C k ec W σ (.AugAssign (.Name x p) .Add e pos) Φ := by
  intro A env h₀ ex s Q E hr he S hQ
  refine wpAny_AugAssign_Name ?_
  have hkd : env.scope.kind = .function := by rw [he.sc]; exact he.kind
  have hq : env.kindOf x = some .local := by unfold Env.kindOf; rw [he.sc]; exact hk
  obtain ⟨v, V, r⟩ := S.slots _ _ hx
  rcases V with ⟨_, m, hn, hm⟩ | ⟨hh | hh, _⟩
  · refine wpAny_loadName_local hkd hq hn hm ?_
    simp only [Rep] at r
    obtain ⟨t, rfl⟩ := r
    refine h _ _ _ _ _ _ _ _ hr he S fun u s1 g1 r1 => ?_
    simp only [Rep] at r1
    obtain ⟨t', rfl⟩ := r1
    refine AutoIntOps.iadd_0 ?_
    have g1' : Go C s { s1 with toks := s1.toks + 1 } := ⟨g1.ext, g1.tab, g1.os, g1.bare⟩
    exact store_wp (sl := .dat (.int (a + b))) he (S.go g1') (.inl hk) (rep_int (C := C) (h := s1.heap) (ex := exOf env σ ex)) fun s2 g2 S2 => hQ _ _ _ hΦ ⟨rfl, S2⟩ (g1'.gx.trans g2)
  · rw [hk] at hh; cases hh
  · rw [hk] at hh; cases hh
/-- while -/
theorem x1_while {t : Expr} {body : List Stmt} {pos : Pos} {Φ : Out → Prop} (I : Nat → Sto → Prop) (n : Nat) (h0 : I n σ)
    (turn : ∀ n τ, I n τ → ∃ b, Tr C k ec τ t b ∧ (b = true → Xs C k ec W τ body fun | .next τ' | .cont τ' => ∃ m, m < n ∧ I m τ' | .brk τ' => Φ (.next τ') | .ret d => Φ (.ret d)) ∧ (b = false → Φ (.next τ))) : X1 C k ec W σ (.While t body [] pos) Φ := by
  intro A env h₀ ex s Q E hr he S hQ
  refine wpAny_While ?_
  refine codeAny_whileLoop (fun n s' => ∃ τ, I n τ ∧ Sta C ec W env h₀ ex τ s'.heap ∧ Gx s s') (fun n s1 ⟨τ, hI, S1, g1⟩ => ?_) n ⟨σ, h0, S, .refl s⟩
  obtain ⟨b, ht, hb, hf⟩ := turn n τ hI
  refine ht _ _ _ _ _ _ _ _ hr he S1 fun s2 g2 => ?_
  have S2 := S1.go g2
  cases b with
  | true =>
    rw [if_pos rfl]
    refine hb rfl _ _ _ _ _ _ _ hr he S2 fun f s3 o ho hf3 g3 => ?_
    have gg := (g1.trans g2.gx).trans g3
    cases o with
    | next τ' => obtain ⟨rfl, S3⟩ := hf3; obtain ⟨m, hm, hI'⟩ := ho; exact ⟨m, hm, τ', hI', S3, gg⟩
    | cont τ' => obtain ⟨rfl, S3⟩ := hf3; obtain ⟨m, hm, hI'⟩ := ho; exact ⟨m, hm, τ', hI', S3, gg⟩
    | brk τ' => obtain ⟨rfl, S3⟩ := hf3; exact hQ _ _ _ ho ⟨rfl, S3⟩ gg
    | ret d => obtain ⟨v, rfl, r⟩ := hf3; exact hQ _ _ _ ho ⟨v, rfl, r⟩ gg
  | false =>
    rw [if_neg (by decide)]
    exact wpAny_execs_nil (hQ _ _ _ (hf rfl) ⟨rfl, S2⟩ (g1.trans g2.gx))
end Mine
namespace Mine
open PySem PySem.W PyProof.Rows PySem.Calls PySem.Spec

variable {C : Cfg} {k : Nat} {ec : EC} {σ : Sto} {W W' : List Str}

/-- a name of the builtins -/
structure BN (C : Cfg) (ec : EC) (f : Str) (v : Value) : Prop where
  kind : ec.kind f = some .globalImplicit
  mg : C.mg f = none
  mb : C.mb f = some v
  nd : (f == ("__debug__" : Str)) = false

theorem call_b1 {f : Str} {id : String} {fv : Value} {p pos : Pos} {e : Expr} {A : Around} {env : Env} {h₀ : Heap} {ex : List Addr} {s : Shared} {Q : Value → Shared → Prop} {E : Value → Shared → Prop} (hfv : fv = .builtin id ∨ fv = .type id) (b : BN C ec f fv)
    (hse : ∀ env, backTo pos (starEach [e] env) = [(false, eval e env)]) (hr : Room k A) (he : EnvOK ec env) (S : Sta C ec W env h₀ ex σ s.heap)
    (h : ∀ s1, Go C s s1 → wpAny (model C.prog C.w) A (eval e env) (fun v s2 => wpAny (model C.prog C.w) A (call fv [v]) Q E s2) E s1) :
    wpAny (model C.prog C.w) A (eval (.Call (.Name f p) [e] [] pos) env) Q E s := by
  refine wpAny_Call_NameR (ev_built b.kind b.mg b.mb b.nd _ _ _ _ _ _ _ _ hr he S fun v s1 g1 r1 => ?_)
  simp only [Rep] at r1
  subst r1
  rw [hse env]
  rcases hfv with rfl | rfl
  · exact callWith_builtin rfl (evalArgs_plain (spliced_cons (wpAny_mono (h s1 g1) (fun v s2 h2 => spliced_nil h2) fun _ _ e => e)))
  · exact PySem.callWith_type rfl (evalArgs_plain (spliced_cons (wpAny_mono (h s1 g1) (fun v s2 h2 => spliced_nil h2) fun _ _ e => e)))
theorem call_b2 {f : Str} {id : String} {fv : Value} {p pos : Pos} {e e' : Expr} {A : Around} {env : Env} {h₀ : Heap} {ex : List Addr} {s : Shared} {Q : Value → Shared → Prop} {E : Value → Shared → Prop} (hfv : fv = .builtin id ∨ fv = .type id) (b : BN C ec f fv)
    (hse : ∀ env, backTo pos (starEach [e, e'] env) = [(false, eval e env), (false, eval e' env)]) (hr : Room k A) (he : EnvOK ec env) (S : Sta C ec W env h₀ ex σ s.heap)
    (h : ∀ s1, Go C s s1 → wpAny (model C.prog C.w) A (eval e env) (fun v s2 => wpAny (model C.prog C.w) A (eval e' env) (fun u s3 => wpAny (model C.prog C.w) A (call fv [v, u]) Q E s3) E s2) E s1) :
    wpAny (model C.prog C.w) A (eval (.Call (.Name f p) [e, e'] [] pos) env) Q E s := by
  refine wpAny_Call_NameR (ev_built b.kind b.mg b.mb b.nd _ _ _ _ _ _ _ _ hr he S fun v s1 g1 r1 => ?_)
  simp only [Rep] at r1
  subst r1
  rw [hse env]
  rcases hfv with rfl | rfl
  · exact callWith_builtin rfl (evalArgs_plain (spliced_cons (wpAny_mono (h s1 g1) (fun v s2 h2 => spliced_cons (wpAny_mono h2 (fun u s3 h3 => spliced_nil h3) fun _ _ e => e)) fun _ _ e => e)))
  · exact PySem.callWith_type rfl (evalArgs_plain (spliced_cons (wpAny_mono (h s1 g1) (fun v s2 h2 => spliced_cons (wpAny_mono h2 (fun u s3 h3 => spliced_nil h3) fun _ _ e => e)) fun _ _ e => e)))

theorem ev_len {e : Expr} {ds : List D} {p pos : Pos} (b : BN C ec "len" (.builtin "len")) (h : El C k ec σ e ds) (hl : ds.length ≤ 2 ^ 40) (hse : ∀ env, backTo pos (starEach [e] env) = [(false, eval e env)]) : Ev C k ec σ (.Call (.Name "len" p) [e] [] pos) (.int ds.length) := by
  intro A W env h₀ ex s Q E hr he S hQ
  refine call_b1 (id := "len") (.inl rfl) b hse hr he S fun s1 g1 => ?_
  refine h _ _ _ _ _ _ _ _ hr he (S.go g1) fun a vs n s2 g2 ha r => ?_
  refine call_len_list (lst_at ha) (by rw [List.size_toArray, r.length]; omega) (hQ _ _ ((g1.trans g2).trans (.keep fun _ _ e => e)) ?_)
  simp only [Rep, List.size_toArray, r.length]
  exact ⟨_, rfl⟩

def sumI (xs : List Int) : Int := xs.foldl (· + ·) 0
theorem preSum_list : ∀ (xs : List Int) (n : Nat), n ≤ xs.length → preSum (fun i => xs[i]?.getD 0) n = (xs.take n).foldl (· + ·) 0
  | xs, 0, _ => by simp [preSum]
  | xs, n + 1, h => by
    rw [preSum, preSum_list xs n (by omega), List.take_add_one]
    have : xs[n]? = some xs[n] := List.getElem?_eq_getElem (by omega)
    rw [this, Option.getD_some, Option.toList_some, List.foldl_append]; rfl
theorem ev_sum {e : Expr} {xs : List Int} {p pos : Pos} (b : BN C ec "sum" (.builtin "sum")) (h : Ev C k ec σ e (.lst (xs.map .int))) (hse : ∀ env, backTo pos (starEach [e] env) = [(false, eval e env)]) : Ev C k ec σ (.Call (.Name "sum" p) [e] [] pos) (.int (sumI xs)) := by
  intro A W env h₀ ex s Q E hr he S hQ
  refine call_b1 (id := "sum") (.inl rfl) b hse hr he S fun s1 g1 => ?_
  refine h _ _ _ _ _ _ _ _ hr he (S.go g1) fun v s2 g2 r => ?_
  have S2 := (S.go g1).go g2
  simp only [Rep] at r
  obtain ⟨a, vs, n, rfl, hna, ha, r⟩ := r
  have hlen : vs.length = xs.length := by rw [r.length, List.length_map]
  refine call_sum_walkG (wpAny_pyIter_list (lst_at ha) ?_)
  have hlt : a < s2.heap.objs.size := Heap.lt_size ha
  refine ⟨s2.heap.objs.size, _, _, _, _, _, fun i => xs[i]?.getD 0, rfl, Walks.list (A := A.in1) hr.handled _ a (Nat.ne_of_lt hlt) vs.toArray, ⟨⟨_, Heap.get?_push_size _ rfl, rfl, rfl⟩, lst_at (Heap.get?_push_of_some _ ha)⟩, fun b hb => ?_, fun i v hv => ?_, fun h' tk t' hk => ?_⟩
  · simp only [List.mem_cons, List.not_mem_nil, or_false] at hb
    rw [Heap.size_push]
    rcases hb with rfl | rfl
    · exact Nat.lt_succ_self _
    · exact Nat.lt_succ_of_lt hlt
  · obtain ⟨d, hd, rv⟩ := r.get' i v (by simpa using hv)
    rw [List.getElem?_map] at hd
    cases hx : xs[i]? with
    | none => rw [hx] at hd; cases hd
    | some x =>
      rw [hx] at hd; cases hd
      simp only [Rep] at rv
      show ∃ t, v = Value.int (xs[i]?.getD 0) t
      rw [hx]; exact rv
  · have hk2 : ∀ b o, s2.heap.get? b = some o → h'.get? b = some o := fun b o e => hk b o (fun m => by
      rw [List.mem_singleton] at m; subst m; exact absurd (Heap.lt_size e) (Nat.lt_irrefl _)) (Heap.get?_push_of_some _ e)
    refine hQ _ _ ((g1.trans g2).trans (.keep hk2)) ?_
    simp only [Rep]
    rw [List.size_toArray, preSum_list xs _ (by omega), hlen, List.take_length]
    exact ⟨_, rfl⟩
theorem ev_min {e e' : Expr} {a c : Int} {p pos : Pos} (b : BN C ec "min" (.builtin "min")) (h : Ev C k ec σ e (.int a)) (h' : Ev C k ec σ e' (.int c)) (hse : ∀ env, backTo pos (starEach [e, e'] env) = [(false, eval e env), (false, eval e' env)]) : Ev C k ec σ (.Call (.Name "min" p) [e, e'] [] pos) (.int (min a c)) := by
  intro A W env h₀ ex s Q E hr he S hQ
  refine call_b2 (id := "min") (.inl rfl) b hse hr he S fun s1 g1 => ?_
  refine h _ _ _ _ _ _ _ _ hr he (S.go g1) fun v s2 g2 r => ?_
  refine h' _ _ _ _ _ _ _ _ hr he ((S.go g1).go g2) fun u s3 g3 r3 => ?_
  simp only [Rep] at r r3
  obtain ⟨t, rfl⟩ := r
  obtain ⟨t', rfl⟩ := r3
  refine min_two_ints hr.handled fun hh tk hk => hQ _ _ (((g1.trans g2).trans g3).trans (.keep hk)) ?_
  simp only [Rep]
  by_cases hc : c < a
  · rw [if_pos hc, Int.min_eq_right (by omega)]; exact ⟨_, rfl⟩
  · rw [if_neg hc, Int.min_eq_left (by omega)]; exact ⟨_, rfl⟩
theorem ev_abs {e : Expr} {a : Int} {p pos : Pos} (b : BN C ec "abs" (.builtin "abs")) (h : Ev C k ec σ e (.int a)) (hse : ∀ env, backTo pos (starEach [e] env) = [(false, eval e env)]) : Ev C k ec σ (.Call (.Name "abs" p) [e] [] pos) (.int (if a < 0 then -a else a)) := by
  intro A W env h₀ ex s Q E hr he S hQ
  refine call_b1 (id := "abs") (.inl rfl) b hse hr he S fun s1 g1 => ?_
  refine h _ _ _ _ _ _ _ _ hr he (S.go g1) fun v s2 g2 r => ?_
  simp only [Rep] at r
  obtain ⟨t, rfl⟩ := r
  exact call_abs_int fun u tk => hQ _ _ ((g1.trans g2).trans (.keep fun _ _ e => e)) rep_int
/-- list(e) -/
theorem fl_listof {e : Expr} {ds : List D} {p pos : Pos} (b : BN C ec "list" (.type "list")) (h : El C k ec σ e ds) (hl : ds.length ≤ 1000) (hse : ∀ env, backTo pos (starEach [e] env) = [(false, eval e env)]) : Fl C k ec σ (.Call (.Name "list" p) [e] [] pos) ds := by
  intro A W env h₀ ex s Q E hr he S hQ
  refine call_b1 (id := "list") (.inr rfl) b hse hr he S fun s1 g1 => ?_
  refine h _ _ _ _ _ _ _ _ hr he (S.go g1) fun a vs n s2 g2 ha r => ?_
  have g := g1.trans g2
  refine call_list_seq a (.inl rfl) ha rfl rfl (fun h' c' hk hn => hQ _ vs c' _ (g.trans (.keep hk)) (fresh_old (S.go g).tab g (Nat.le_refl _)) hn ?_) (by rw [List.size_toArray, r.length, sizeLine_eq]; omega)
  refine RepL.move (fun b o hb e _ => ⟨hk _ _ e, fun m => ?_⟩) ds vs r
  rcases List.mem_cons.mp m with rfl | m
  · exact absurd (Heap.lt_size e) (Nat.lt_irrefl _)
  · exact hb m

/-- isinstance -/
def isi (T : String) (d : D) : Option Bool :=
  match T, d with
  | "int", .int _ => some true
  | "int", .bool _ => some true
  | "bool", .int _ => some false
  | "bool", .bool _ => some true
  | "tuple", .int _ => some false
  | "tuple", .tup _ => some true
  | _, _ => none
theorem ev_isi {e e' : Expr} {T : String} {d : D} {r : Bool} {p pos : Pos} (b : BN C ec "isinstance" (.builtin "isinstance")) (h : Ev C k ec σ e d) (h' : Ev C k ec σ e' (.raw (.type T))) (hi : isi T d = some r) (hse : ∀ env, backTo pos (starEach [e, e'] env) = [(false, eval e env), (false, eval e' env)]) :
    Ev C k ec σ (.Call (.Name "isinstance" p) [e, e'] [] pos) (.bool r) := by
  intro A W env h₀ ex s Q E hr he S hQ
  refine call_b2 (id := "isinstance") (.inl rfl) b hse hr he S fun s1 g1 => ?_
  refine h _ _ _ _ _ _ _ _ hr he (S.go g1) fun v s2 g2 r2 => ?_
  refine h' _ _ _ _ _ _ _ _ hr he ((S.go g1).go g2) fun u s3 g3 r3 => ?_
  have g := (g1.trans g2).trans g3
  have r2' := r2.go g3 ((S.go g1).go g2).tab
  clear r2
  unfold isi at hi
  split at hi
  all_goals (first | cases hi | skip)
  all_goals simp only [Rep] at r2' r3
  all_goals subst r3
  · obtain ⟨t, rfl⟩ := r2'
    exact IsiPair.int_int (hQ _ _ g rep_bool)
  · subst r2'
    exact IsiPair.bool_int (hQ _ _ g rep_bool)
  · obtain ⟨t, rfl⟩ := r2'
    exact IsiPair.int_bool (hQ _ _ (g.trans (.keep fun _ _ e => e)) rep_bool)
  · subst r2'
    exact IsiPair.bool_bool (hQ _ _ g rep_bool)
  · obtain ⟨t, rfl⟩ := r2'
    exact IsiPair.int_tuple (hQ _ _ (g.trans (.keep fun _ _ e => e)) rep_bool)
  · obtain ⟨a, vs, n, rfl, _, ha, _⟩ := r2'
    exact call_isinstance (isinstance_true (Tx := "tuple") F.isi_meta_tuple isSubtype_tuple_tuple) ⟨(tup_at ha).typeIs, hQ _ _ g rep_bool⟩
end Mine
namespace Mine
open PySem PySem.W PyProof.Rows PySem.Calls PySem.Spec
theorem mro_objectT : mroOf (.type "object") = pure [.type "object"] := by rw [mroOf_type]; kernel_rfl
theorem lookup_object_new : typeLookup (.type "object") "__new__" = pure (some (.builtin "object.__new__")) := by rw [typeLookup_type, builtinLookup_eq_fast]; kernel_rfl
theorem sub_object_self : isSubtype (.type "object") (.type "object") = pure true := by rw [isSubtype_type]; kernel_rfl
theorem made_object : Bind.madeBy (.type "object") = pure (some "object.__new__") := madeBy_type mro_objectT lookup_object_new (by decide +kernel)
theorem slot_object_init : PySem.Slot "object" "__init__" "object.__init__" :=
  PySem.Slot.of (owner := "object") (n := "__init__") (by rw [typeLookup_type, builtinLookup_eq_fast]; kernel_rfl) (by decide +kernel) (by decide +kernel) (by decide +kernel)
    (by first | exact .inl (by decide +kernel) | exact .inr (by decide +kernel)) sub_object_self
theorem called_object : TypeCalled "object" "object.__new__" "object.__init__" :=
  ⟨by decide +kernel, by decide +kernel, ⟨_, _, mro_objectT⟩, made_object, by decide +kernel, sub_object_self, slot_object_init⟩
theorem refuses_object : ((Manifest.find? "object").elim false fun b => b.mro.any fun t => (Manifest.find? t).elim false (·.noNew)) = false := by decide +kernel
theorem noDict_object : typeHasDict (.type "object") = false := by decide +kernel
theorem madeHere_object : Bind.madeHere "object.__new__" (.type "object") = pure () := by
  unfold Bind.madeHere
  have : Bind.staticBase (.type "object") = pure (.type "object") := by first | rfl | kernel_rfl
  rw [this, pure_bind, made_object, pure_bind]
  rfl
theorem isType_object : isType (.type "object") = pure true := by first | rfl | kernel_rfl
theorem object_new0 : Meets (Builtin.«object.__new__» ⟨[.type "object"], []⟩) (fun _ R s => R (.ok (.ret (.ref s.heap.objs.size))) { s with heap := s.heap.push { cls := .type "object" } }) := by
  refine Meets.of_wp fun prog w A R s hs => ?_
  unfold Builtin.«object.__new__»
  refine wpAny_bind (wpAny_of_eq isType_object ?_)
  have h1 := refuses_object
  have h2 := madeHere_object
  have h3 := noDict_object
  have h4 : diesByItsTypesDel "object" = false := by decide +kernel
  wp_walk
  exact ⟨_, rfl, hs⟩
theorem object_init0 (x : Value) : Meets (Builtin.«object.__init__» ⟨[x], []⟩) (fun _ R s => R (.ok (.ret .none)) s) :=
  Meets.of_wp fun prog w A R s hs => wpAny_pure ⟨_, rfl, hs⟩
theorem args_object_init1 (x : Value) : argsOk "object.__init__" ⟨[x], []⟩ := by first | exact F.args_object_init_1 x | kernel_rfl
theorem call_object0 {prog : Program} {w : World} {A : Around} {E : Value → Shared → Prop} {s : Shared} {Q : Value → Shared → Prop} (h : Q (.ref s.heap.objs.size) { s with heap := s.heap.push { cls := .type "object" } }) :
    wpAny (model prog w) A (call (.type "object") []) Q E s := by
  refine callType_meets (Q₁ := fun v s' => v = .ref s.heap.objs.size ∧ s' = { s with heap := s.heap.push { cls := .type "object" } }) called_object (by kernel_rfl) (by kernel_rfl) F.entry_object_new F.entry_object_init object_new0 ⟨rfl, rfl⟩ fun obj s₁ hq => ?_
  obtain ⟨rfl, rfl⟩ := hq
  exact ⟨⟨_, Heap.get?_push_size _ rfl, rfl⟩, args_object_init1 _, _, object_init0 _, rfl, h⟩
end Mine
namespace Mine
open PySem PySem.W PyProof.Rows PySem.Calls PySem.Spec

variable {C : Cfg} {k : Nat} {ec : EC} {σ : Sto} {W W' : List Str}

/-- x = object() -/
theorem x1_new_obj {x : Str} {p np cp pos : Pos} {Φ : Out → Prop} (b : BN C ec "object" (.type "object")) (hx : ec.kind x = some .local ∨ x ∈ W) (hΦ : ∀ a, Φ (.next (σ.set x (.dat (.obj a))))) :
    X1 C k ec W σ (.Assign [.Name x p] (.Call (.Name "object" np) [] [] cp) pos) Φ := by
  intro A env h₀ ex s Q E hr he S hQ
  refine wpAny_Assign_Name ?_ (by rfl)
  refine wpAny_Call_NameR (ev_built b.kind b.mg b.mb b.nd _ _ _ _ _ _ _ _ hr he S fun v s1 g1 r1 => ?_)
  simp only [Rep] at r1
  subst r1
  refine callWith_type0 (call_object0 ?_)
  have g2 : Go C s { s1 with heap := s1.heap.push { cls := .type "object" } } := g1.trans (.push _ rfl)
  refine store_wp (sl := .dat (.obj s1.heap.objs.size)) he (S.go g2) hx ?_ fun s2 g3 S2 => hQ _ _ _ (hΦ _) ⟨rfl, S2⟩ (g2.gx.trans g3)
  show Rep C _ _ (.obj s1.heap.objs.size) _
  simp only [Rep]
  exact ⟨trivial, ((S.go g1).pre hr).alive.fresh, Heap.get?_push_size _ rfl⟩

theorem co_is_obj {a : Addr} : Co C k .Is (.obj a) (.obj a) true := by
  intro A ex s v u Q E p r1 r2 hQ
  simp only [Rep] at r1 r2
  obtain ⟨rfl, _⟩ := r1
  obtain ⟨rfl, _⟩ := r2
  exact wpAny_is_ref_self (hQ _ (.refl _))
theorem is_tup_obj {prog : Program} {w : World} {A : Around} {E : Value → Shared → Prop} {s : Shared} {Q : Value → Shared → Prop} {a b : Addr} {vs : List Value} {n : Nat} (hne : (a == b) = false) (ha : s.heap.get? a = some (tupObj vs n)) (hb : s.heap.get? b = some { cls := .type "object" }) (h : Q (.bool false) s) :
    wpAny (model prog w) A (compareOp .Is (.ref a) (.ref b)) Q E s := by
  show wpAny _ _ (isSame (.ref a) (.ref b) >>= fun b => pure (.bool b)) Q E s
  refine wpAny_bind ?_
  show wpAny _ _ (if (a == b) = true then pure true else _) _ E s
  rw [if_neg (by rw [hne]; decide)]
  refine wpAny_bind (wpAny_load ha (wpAny_bind (wpAny_load hb ?_)))
  exact wpAny_pure (a := false) (wpAny_pure h)
theorem co_is_tup {ds : List D} {b : Addr} : Co C k .Is (.tup ds) (.obj b) false := by
  intro A ex s v u Q E p r1 r2 hQ
  simp only [Rep] at r1 r2
  obtain ⟨a, vs, n, rfl, _, ha, _⟩ := r1
  obtain ⟨rfl, _, hb⟩ := r2
  have hne : (a == b) = false := by
    rw [beq_eq_false_iff_ne]; intro e; subst e; rw [ha] at hb; simp [tupObj] at hb
  exact is_tup_obj hne ha hb (hQ _ (.refl _))

/-- what stands across a store of a name -/
theorem Sta.keeps3 {env : Env} {h₀ h h' : Heap} {ex ex' : List Addr} {σ' : Sto} (S : Sta C ec W env h₀ ex σ h) (S' : Sta C ec W env (hid env W σ h) ex' σ' h') {b : Addr} {o : Obj} (hb : b ∉ env.locals :: owns σ) (e : h.get? b = some o) (hs : Solid o) : h'.get? b = some o := by
  have hm : b ∉ env.locals :: (owns σ ++ wcells env W) := fun m => by
    rcases List.mem_cons.mp m with rfl | m
    · exact hb (.head _)
    · rcases List.mem_append.mp m with m | m
      · exact hb (List.mem_cons_of_mem _ m)
      · obtain ⟨x, hx, hc⟩ := List.mem_filterMap.mp m
        obtain ⟨_, c, v, hc', ⟨oc, ho, hd⟩, hn⟩ := S.wr x hx
        rw [hc] at hc'; cases hc'
        rw [e] at ho; cases ho
        exact hs.2 _ hd
  exact S'.base _ _ (S.tab.ne e hs.1) (hideAll_get _ e hm)

/-- a, b = e, f -/
theorem x1_two_data {elts : List Expr} {n m : Nat} {tp vp pos : Pos} {e f : Expr} {x y : Str} {d d' : D} {Φ : Out → Prop} (h : Evs C k ec σ [e, f] [d, d']) (hx : ec.kind x = some .local ∨ x ∈ W) (hy : ec.kind y = some .local ∨ y ∈ W)
    (hs : ∀ env, swapsWithSole [.Tuple elts n tp] (.Tuple [e, f] m vp) pos.line env = pure false) (hw : ∀ env, EnvOK ec env → swappedStores [.Tuple elts n tp] (.Tuple [e, f] m vp) env = pure (some [x, y]))
    (hΦ : Φ (.next ((σ.set y (.dat d')).set x (.dat d)))) : X1 C k ec W σ (.Assign [.Tuple elts n tp] (.Tuple [e, f] m vp) pos) Φ := by
  intro A env h₀ ex s Q E hr he S hQ
  refine Assign_Tuple_swapped (names := [x, y]) ?_ (hs env) (hw env he)
  refine ev_tuple h (by simp) _ _ _ _ _ _ _ _ hr he S fun v s1 g1 r1 => ?_
  refine unpack_wp hr.handled (.inl rfl) r1 _ rfl fun vs s2 g2 r2 => ?_
  have S2 := (S.go g1).go g2
  have r3 : RepL C s2.heap (exOf env σ ex) [d', d] vs.reverse := by
    simp only [RepL] at r2
    obtain ⟨v, _, rfl, rv, u, _, rfl, ru, rfl⟩ := r2
    exact .cons ru (.one rv)
  exact assigns_wp (W := W) (α := Unit) (fun x v => bindName env x.1 v) (fun x v s Q h => wpAny_bindName h) he [(y, ()), (x, ())] [d', d] _ σ h₀ s2 _ rfl (fun z hz => by
    simp only [List.mem_cons, List.not_mem_nil, or_false] at hz
    rcases hz with rfl | rfl
    · exact hy
    · exact hx) S2 r3 fun s3 g3 S3 => hQ _ _ _ hΦ ⟨rfl, S3⟩ ((g1.gx.trans g2.gx).trans g3)

theorem fresh_base {env : Env} {h₀ : Heap} {ex : List Addr} {s : Shared} (S : Sta C ec W env h₀ ex σ s.heap) {a : Addr} (hn : s.heap.get? a = none) : h₀.get? a = none := by
  cases q : h₀.get? a with
  | none => rfl
  | some o =>
    by_cases hP : a = C.P
    · subst hP; obtain ⟨ps, hp, _⟩ := S.tab; rw [hn] at hp; cases hp
    · have := S.base a o hP q; rw [hn] at this; cases this
/-- a, b = two new lists -/
theorem x1_two_lists {elts : List Expr} {n m : Nat} {tp vp pos : Pos} {e f : Expr} {x y : Str} {ds ds' : List D} {Φ : Out → Prop} (h1 : Fl C k ec σ e ds) (h2 : Fl C k ec σ f ds') (hx : ec.kind x = some .local) (hy : ec.kind y = some .local)
    (hst1 : ∀ env, starEach [e, f] env = (false, eval e env) :: starEach [f] env) (hst2 : ∀ env, starEach [f] env = (false, eval f env) :: starEach [] env)
    (hs : ∀ env, swapsWithSole [.Tuple elts n tp] (.Tuple [e, f] m vp) pos.line env = pure false) (hw : ∀ env, EnvOK ec env → swappedStores [.Tuple elts n tp] (.Tuple [e, f] m vp) env = pure (some [x, y]))
    (hΦ : ∀ a b, Φ (.next ((σ.set y (.own b ds')).set x (.own a ds)))) : X1 C k ec W σ (.Assign [.Tuple elts n tp] (.Tuple [e, f] m vp) pos) Φ := by
  intro A env h₀ ex s Q E hr he S hQ
  refine Assign_Tuple_swapped (names := [x, y]) ?_ (hs env) (hw env he)
  refine wpAny_Tuple_spliced (wpAny_items_cons (h1 _ _ _ _ _ _ _ _ hr he S fun a vs na s1 g1 hna ha r1 => ?_) (hst1 env))
  have S1 : Sta C ec W env h₀ ([a] ++ ex) σ s1.heap := S.addEx (ws := [a]) g1 (fun b hb => by rw [List.mem_singleton] at hb; subst hb; exact hna) (fun b hb => by rw [List.mem_singleton] at hb; subst hb; rw [ha]; nofun) (List.nodup_cons.mpr ⟨nofun, List.nodup_nil⟩)
  refine wpAny_items_cons (h2 _ _ _ _ _ _ _ _ hr he S1 fun b us nb s2 g2 hnb hb r2 => ?_) (hst2 env)
  refine wpAny_items_nil ⟨by show 2 ≤ sizeLine; rw [sizeLine_eq]; omega, ?_⟩
  have S2 : Sta C ec W env h₀ ([b] ++ ([a] ++ ex)) σ s2.heap := S1.addEx (ws := [b]) g2 (fun c hc => by rw [List.mem_singleton] at hc; subst hc; exact hnb) (fun c hc => by rw [List.mem_singleton] at hc; subst hc; rw [hb]; nofun) (List.nodup_cons.mpr ⟨nofun, List.nodup_nil⟩)
  have hab : a ≠ b := fun e => by rw [← e, ha] at hnb; cases hnb
  have ha2 : s2.heap.get? a = some (lstObj vs na) := g2.ext _ _ (S1.tab.ne ha nofun) ha
  have e1 : ∀ c, c ∈ exOf env σ ([b] ++ ([a] ++ ex)) → c = b ∨ c ∈ a :: exOf env σ ex := fun c hc => by
    rcases List.mem_cons.mp hc with rfl | hc
    · exact .inr (.tail _ (.head _))
    · rcases List.mem_append.mp hc with hc | hc
      · exact .inr (.tail _ (.tail _ (List.mem_append_left _ hc)))
      · rcases List.mem_cons.mp hc with rfl | hc
        · exact .inl rfl
        · rcases List.mem_cons.mp hc with rfl | hc
          · exact .inr (.head _)
          · exact .inr (.tail _ (.tail _ (List.mem_append_right _ hc)))
  have r1' : RepL C s2.heap (exOf env σ ([b] ++ ([a] ++ ex))) ds vs := RepL.move (fun c o hc e hso => ⟨g2.ext _ _ (S1.tab.ne e hso.1) e, fun m => by
    rcases e1 c m with rfl | m
    · rw [hnb] at e; cases e
    · exact hc m⟩) ds vs r1
  have r2' : RepL C s2.heap (exOf env σ ([b] ++ ([a] ++ ex))) ds' us := r2.sub fun c hc => by
    rcases e1 c hc with rfl | hc
    · exact .head _
    · refine .tail _ ?_
      rcases List.mem_cons.mp hc with rfl | hc
      · exact .tail _ (List.mem_append_right _ (.head _))
      · rcases List.mem_cons.mp hc with rfl | hc
        · exact .head _
        · rcases List.mem_append.mp hc with hc | hc
          · exact .tail _ (List.mem_append_left _ hc)
          · exact .tail _ (List.mem_append_right _ (.tail _ hc))
  -- the pair, taken apart
  have hT : ({ s2 with heap := s2.heap.push { cls := .type "tuple", data := .seq [Value.ref a, Value.ref b].toArray } } : Shared).heap.IsTuple s2.heap.objs.size #[.ref a, .ref b] := ⟨_, Heap.get?_push_size _ rfl, rfl, 0, rfl⟩
  refine wpAny_unpackItems_tuple (items := #[.ref a, .ref b]) hr.handled hT fun h3 he3 => ?_
  have hk : ∀ c o, s2.heap.get? c = some o → h3.get? c = some o := fun c o e => he3 c o (Nat.ne_of_lt (Heap.lt_size (Heap.get?_push_of_some _ e))) (Heap.get?_push_of_some _ e)
  have g3 : Go C s2 { s2 with heap := h3 } := .keep hk
  have S3 := S2.go g3
  show wpAny _ A (assignInOrder [fun v => bindName env y v, fun v => bindName env x v] [.ref b, .ref a]) _ _ _
  have hkd : env.scope.kind = .function := by rw [he.sc]; exact he.kind
  have hq : ∀ z q, ec.kind z = some q → env.kindOf z = some q := fun z q e => by unfold Env.kindOf; rw [he.sc]; exact e
  have haL : a ≠ env.locals := fun e => S.alive _ (.head _) (e ▸ hna)
  obtain ⟨m3, hm3⟩ := S3.ns
  refine wpAny_assignInOrder_more (wpAny_bindName (wpAny_storeName_local (hq _ _ hy) hm3 (fun h4 hn4 hs4 => ?_) (by rw [hkd]; rfl)))
  have hb0 : h₀.get? b = none := fresh_base S1 hnb
  have S4 : Sta C ec W env h₀ ([a] ++ ex) (σ.set y (.own b ds')) h4 := Sta.storeLocal (sl := .own b ds') S3 hy hm3 hn4 hs4 ⟨rfl, hb0, us, nb, hk _ _ hb, r2'.go g3 S2.tab⟩
  have ha4 : h4.get? a = some (lstObj vs na) := (hs4.2 a haL).trans (hk _ _ ha2)
  have r4 : RepL C h4 (exOf env (σ.set y (.own b ds')) ([a] ++ ex)) ds vs := RepL.move (fun c o hc e hso => ⟨(hs4.2 c fun q => hc (q ▸ .head _)).trans (hk _ _ e), fun m => hc (by
    rcases List.mem_cons.mp m with rfl | m
    · exact .head _
    · rcases List.mem_append.mp m with m | m
      · rw [owns_set] at m
        rcases List.mem_append.mp m with m | m
        · rw [List.mem_singleton.mp m]; exact .tail _ (List.mem_append_right _ (.head _))
        · exact .tail _ (List.mem_append_left _ ((owns_filter_sub _ σ).subset m))
      · exact .tail _ (List.mem_append_right _ (.tail _ m)))⟩) ds vs r1'
  refine wpAny_assignInOrder_more (wpAny_bindName ?_)
  refine store_wp (sl := .own a ds) he S4 (.inl hx) ⟨rfl, fresh_base S hna, vs, na, ha4, r4⟩ fun s5 g5 S5 => ?_
  exact wpAny_assignInOrder_none (hQ _ _ _ (hΦ a b) ⟨rfl, S5⟩ ⟨g5.os.trans (g2.os.trans g1.os), fun h => g5.bare (g2.bare (g1.bare h))⟩)

theorem setItem_own {A : Around} {s : Shared} {a : Addr} {vs : List Value} {m : Nat} {n : Int} {t : Tok} {v : Value} {Q : Unit → Shared → Prop} {E : Value → Shared → Prop} (ha : s.heap.get? a = some (lstObj vs m)) (h0 : 0 ≤ n) (hfit : n < 2 ^ 63) (hlt : n < vs.toArray.size)
    (hQ : ∀ h' n', h'.get? a = some (lstObj (vs.set n.toNat v) n') → Heap.SameBut a s.heap h' → Q () { s with heap := h' }) : wpAny (model C.prog C.w) A (setItem (.ref a) (.int n t) v) Q E s := by
  have hl := lst_at ha
  unfold setItem
  try with_reducible refine wpAny_holding ?_
  first | refine wpAny_bind (wpAny_pure ?_) | skip
  refine wpAny_bind (wpAny_sequenceKey hl.typeIs (by decide) ?_)
  refine wpAny_bind (wpAny_callSpecial?_slot (name := Str.ofString "__setitem__") hl.typeIs slot_list_setitem
    (wpAny_call_entry slot_list_setitem hl.typeIs entry_list_setitem ?_ (args_list_setitem _ _ _)))
  show wpAny _ _ (Builtin.List.listSubscript? (.int n t) >>= _) _ _ s
  refine wpAny_bind (wpAny_listSubscript_int (fitsIndex_of h0 hfit) ?_)
  clear hfit
  obtain ⟨j, rfl⟩ := Int.eq_ofNat_of_zero_le h0
  have hj : j < vs.toArray.size := by omega
  have hx' : vs.toArray[j]? = some vs.toArray[j] := Array.getElem?_eq_getElem hj
  show wpAny _ _ ((seqItemAt a j >>= fun r => pure (r.map (j, ·))) >>= _) _ _ s
  refine wpAny_bind (wpAny_bind (wpAny_seqItemAt ha rfl (wpAny_pure ?_)))
  rw [hx']
  show wpAny _ _ (setSeqItemAt a j v >>= _) _ _ s
  obtain ⟨n', hd'⟩ := Obj.data_mapSeq (o := lstObj vs m) rfl (·.setIfInBounds j v)
  have e : Obj.mapSeq (·.setIfInBounds j v) (lstObj vs m) = lstObj (vs.set j v) n' := by
    have e1 : (Obj.mapSeq (·.setIfInBounds j v) (lstObj vs m)) = { lstObj vs m with data := (Obj.mapSeq (·.setIfInBounds j v) (lstObj vs m)).data } := rfl
    rw [e1, hd']
    simp [lstObj]
  have hfin : (s.heap.update a (Obj.mapSeq (·.setIfInBounds j v))).get? a = some (lstObj (vs.set j v) n') := by
    rw [Heap.get?_update_self _ ha (by rw [e]; rfl), e]
  refine wpAny_bind (wpAny_setSeqItemAt ha rfl ?_)
  first
    | exact wpAny_bind (wpAny_pure (wpAny_pure ⟨.none, rfl, wpAny_pure (hQ _ _ hfin (Heap.SameBut.update ..))⟩))
    | exact wpAny_pure ⟨.none, rfl, wpAny_pure (hQ _ _ hfin (Heap.SameBut.update ..))⟩
/-- x[i] = e in a list of its own -/
theorem x1_setitem {x : Str} {i e : Expr} {a : Addr} {as : List D} {n : Int} {d : D} {xp tp pos : Pos} {Φ : Out → Prop} (hx : σ.lookup x = some (.own a as)) (h : Ev C k ec σ e d) (hi : Ev C k ec σ i (.int n)) (h0 : 0 ≤ n) (hn : n < as.length) (hl : as.length ≤ 2 ^ 40)
    (h1 : (x == ("__debug__" : Str)) = false) (h2 : (x == ("__classdict__" : Str)) = false) (hs : ∀ env, swapsWith e (some (.Subscript (.Name x xp) i tp)) pos.line env = pure false)
    (hΦ : Φ (.next (σ.set x (.own a (as.set n.toNat d))))) : X1 C k ec W σ (.Assign [.Subscript (.Name x xp) i tp] e pos) Φ := by
  intro A env h₀ ex s Q E hr he S hQ
  refine wpAny_Assign_Subscript (h _ _ _ _ _ _ _ _ hr he S fun v s1 g1 r1 => ?_) (hs env)
  have S1 := S.go g1
  obtain ⟨V, _⟩ := S1.slots _ _ hx
  refine name_wp (W := W) (h₀ := h₀) (ex := ex) he V h1 h2 ?_
  refine hi _ _ _ _ _ _ _ _ hr he S1 fun iv s2 g2 r2 => ?_
  simp only [Rep] at r2
  obtain ⟨t, rfl⟩ := r2
  have S2 := S1.go g2
  obtain ⟨_, _, vs, m, ha, r⟩ := S2.slots _ _ hx
  have hlt : n < vs.toArray.size := by rw [List.size_toArray, r.length]; exact hn
  refine setItem_own ha h0 (by have := r.length; omega) hlt fun h' n' hg hs => ?_
  exact hQ _ _ _ hΦ ⟨rfl, S2.setOwn hx hs hg (RepL.set (r1.go g2 S1.tab) n.toNat r)⟩ ((g1.gx.trans g2.gx).trans ⟨rfl, id⟩)
end Mine
namespace Mine
open PySem PySem.W PyProof.Rows PySem.Calls PySem.Spec

variable {C : Cfg} {k : Nat} {ec : EC} {σ : Sto} {W W' : List Str}

theorem slice_road {A : Around} {s : Shared} {a : Addr} {vs : List Value} {n : Nat} {vl vu : Value} {lo hi : Option Int} {value : Expr} {l u : Option Expr} {p : Pos} {Q : Value → Shared → Prop} {E : Value → Shared → Prop} (ha : s.heap.get? a = some (lstObj vs n)) (pl : IsPart vl lo) (pu : IsPart vu hi) (hl : vs.length ≤ 1000)
    (hQ : ∀ D₁ vs' s', vs'.toArray = slicePick vs.toArray lo hi none → (∀ b o, s.heap.get? b = some o → s'.heap.get? b = some o) → s.heap.objs.size ≤ D₁ → s'.os = s.os → s'.gens = s.gens → s'.heap.get? D₁ = some (lstObj vs' 0) → Q (.ref D₁) s') :
    wpAny (model C.prog C.w) A (subscriptTail value (.Slice l u none p) (.ref a) (.ref s.heap.objs.size)) Q E { s with heap := s.heap.push { cls := .type "slice", data := .fields #[vl, vu, .none] } } := by
  have hl' : ({ s with heap := s.heap.push { cls := .type "slice", data := .fields #[vl, vu, .none] } } : Shared).heap.IsList a vs.toArray := lst_at (Heap.get?_push_of_some _ ha)
  refine tail_any (s := { s with heap := s.heap.push { cls := .type "slice", data := .fields #[vl, vu, .none] } }) hl'.typeIs list_getitem_lookup (wpAny_getItem_list_slice hl' (Heap.IsSliceOf.new ..) pl pu .none (by simp) ?_ (by rw [List.size_toArray, sizeLine_eq]; omega)) rfl
  refine hQ _ (slicePick vs.toArray lo hi none).toList _ (by simp) (fun b o e => Heap.get?_push_of_some _ (Heap.get?_push_of_some _ e)) ?_ rfl rfl ?_
  · simp [Heap.size_push]
  · have := Heap.get?_push_size (s.heap.push { cls := .type "slice", data := .fields #[vl, vu, .none] }) (o := lstObj (slicePick vs.toArray lo hi none).toList 0) rfl
    have e : lstObj (slicePick vs.toArray lo hi none).toList 0 = { cls := .type "list", data := .seq (slicePick vs.toArray lo hi none) } := by simp [lstObj]
    rw [e] at this ⊢
    exact this
theorem fl_upto {e i : Expr} {ds : List D} {n : Int} {p pos : Pos} (h : El C k ec σ e ds) (hi : Ev C k ec σ i (.int n)) (h0 : 0 ≤ n) (hl : ds.length ≤ 1000) : Fl C k ec σ (.Subscript e (.Slice none (some i) none p) pos) (ds.take n.toNat) := by
  intro A W env h₀ ex s Q E hr he S hQ
  refine Subscript_ (h _ _ _ _ _ _ _ _ hr he S fun a vs m s1 g1 ha r => ?_)
  refine wpAny_Slice ?_
  rw [evalPart_none, evalPart_some]
  refine wpAny_pure (hi _ _ _ _ _ _ _ _ hr he (S.go g1) fun v s2 g2 r2 => wpAny_pure ?_)
  simp only [Rep] at r2
  obtain ⟨t, rfl⟩ := r2
  have S2 := (S.go g1).go g2
  have r' := r.go g2 (S.go g1).tab
  refine slice_road (g2.ext _ _ ((S.go g1).tab.ne ha nofun) ha) .none (.int n t) (by rw [r'.length]; exact hl) fun D₁ vs' s' hv hk hD hos hgs hg => ?_
  have g := (g1.trans g2).trans (.keep hk hos hgs)
  have hn : n = ((n.toNat : Nat) : Int) := by omega
  rw [hn, slicePick_upto'] at hv
  have hv2 : vs' = vs.take n.toNat := by simpa using congrArg Array.toList hv
  subst hv2
  refine hQ D₁ _ 0 _ g (fresh_old S2.tab (g1.trans g2) hD) hg (RepL.move (fun b o hb e _ => ⟨hk _ _ e, fun m => ?_⟩) _ _ (r'.take n.toNat))
  rcases List.mem_cons.mp m with rfl | m
  · exact absurd (Heap.lt_size e) (Nat.not_lt.mpr hD)
  · exact hb m
theorem fl_from {e i : Expr} {ds : List D} {n : Int} {p pos : Pos} (h : El C k ec σ e ds) (hi : Ev C k ec σ i (.int n)) (h0 : 0 ≤ n) (hl : ds.length ≤ 1000) : Fl C k ec σ (.Subscript e (.Slice (some i) none none p) pos) (ds.drop n.toNat) := by
  intro A W env h₀ ex s Q E hr he S hQ
  refine Subscript_ (h _ _ _ _ _ _ _ _ hr he S fun a vs m s1 g1 ha r => ?_)
  refine wpAny_Slice ?_
  rw [evalPart_none, evalPart_some]
  refine hi _ _ _ _ _ _ _ _ hr he (S.go g1) fun v s2 g2 r2 => wpAny_pure (wpAny_pure ?_)
  simp only [Rep] at r2
  obtain ⟨t, rfl⟩ := r2
  have S2 := (S.go g1).go g2
  have r' := r.go g2 (S.go g1).tab
  refine slice_road (g2.ext _ _ ((S.go g1).tab.ne ha nofun) ha) (.int n t) .none (by rw [r'.length]; exact hl) fun D₁ vs' s' hv hk hD hos hgs hg => ?_
  have g := (g1.trans g2).trans (.keep hk hos hgs)
  have hn : n = ((n.toNat : Nat) : Int) := by omega
  rw [hn, slicePick_from'] at hv
  have hv2 : vs' = vs.drop n.toNat := by simpa using congrArg Array.toList hv
  subst hv2
  refine hQ D₁ _ 0 _ g (fresh_old S2.tab (g1.trans g2) hD) hg (RepL.move (fun b o hb e _ => ⟨hk _ _ e, fun m => ?_⟩) _ _ (r'.drop n.toNat))
  rcases List.mem_cons.mp m with rfl | m
  · exact absurd (Heap.lt_size e) (Nat.not_lt.mpr hD)
  · exact hb m

/-- list + list -/
theorem fl_cat {e f : Expr} {ds es : List D} {pos : Pos} (h : El C k ec σ e ds) (h' : El C k ec σ f es) (hl : ds.length + es.length ≤ 1000) : Fl C k ec σ (.BinOp e .Add f pos) (ds ++ es) := by
  intro A W env h₀ ex s Q E hr he S hQ
  refine wpAny_BinOp (h _ _ _ _ _ _ _ _ hr he S fun a vs n s1 g1 ha r1 => ?_)
  refine h' _ _ _ _ _ _ _ _ hr he (S.go g1) fun b us m s2 g2 hb r2 => ?_
  have S2 := (S.go g1).go g2
  have ha2 := g2.ext _ _ ((S.go g1).tab.ne ha nofun) ha
  have r1' := r1.go g2 (S.go g1).tab
  have g := g1.trans g2
  refine concat_meets (T := "list") (lst_at ha2).typeIs (lst_at hb).typeIs noFill_list_add seq_list_add PySem.F.slot_list_add PySem.F.entry_list_add (PySem.F.args_list_add_2 _ _) (list_addW a b vs.toArray us.toArray n m none none _ _ (by rw [List.size_toArray, List.size_toArray, r1'.length, r2.length, sizeLine_eq]; omega)) ⟨ha2, hb, ?_⟩
  have hg : (s2.heap.push { cls := .type "list", data := .seq (vs.toArray ++ us.toArray) }).get? s2.heap.objs.size = some (lstObj (vs ++ us) 0) := by
    have e : lstObj (vs ++ us) 0 = { cls := .type "list", data := .seq (vs.toArray ++ us.toArray) } := by simp [lstObj]
    rw [e]; exact Heap.get?_push_size _ rfl
  refine hQ s2.heap.objs.size (vs ++ us) 0 _ (g.trans (.push _ rfl)) (fresh_old S2.tab g (Nat.le_refl _)) hg ?_
  refine RepL.move (fun c o hc e _ => ⟨Heap.get?_push_of_some _ e, fun q => ?_⟩) _ _ (r1'.append r2)
  rcases List.mem_cons.mp q with rfl | q
  · exact absurd (Heap.lt_size e) (Nat.lt_irrefl _)
  · exact hc q
end Mine
namespace Mine
open PySem PySem.W PyProof.Rows PySem.Calls PySem.Spec

variable {C : Cfg} {k : Nat} {ec : EC} {σ : Sto} {W W' : List Str}

theorem adjust_upto (b n : Nat) (hb : b ≤ n) : Builtin.Slice.sliceAdjust none (some (b : Int)) 1 (n : Int) = (0, (b : Int)) := by
  unfold Builtin.Slice.sliceAdjust
  have h1 : ¬ ((1 : Int) < 0) := by omega
  have h2 : ¬ ((b : Int) < 0) := by omega
  simp only [h1, h2, if_false]
  congr 1
  omega
theorem places_upto (b : Nat) : Builtin.Slice.slicePlaces 0 (b : Int) 1 = b := by
  unfold Builtin.Slice.slicePlaces
  have h1 : (1 : Int) > 0 := by omega
  simp only [h1, if_true, Int.ediv_one]
  split <;> omega
theorem sliceApplied_upto {prog : Program} {w : World} {A : Around} {E : Value → Shared → Prop} {s : Shared} {sl : Addr} {b n : Nat} {u : Tok} {Q : Int × Int × Nat → Shared → Prop} (hs : s.heap.IsSliceOf sl .none (.int b u) .none) (hb : b ≤ n) (h : Q (0, 1, b) s) :
    wpAny (model prog w) A (Builtin.Slice.sliceApplied (.ref sl) (pure (n : Int))) Q E s := by
  obtain ⟨os, hos, hcs, hds⟩ := id hs
  unfold Builtin.Slice.sliceApplied Builtin.Slice.sliceFields
  refine wpAny_bind (wpAny_bind (wpAny_field hos hds (x := .none) rfl (wpAny_bind (wpAny_field hos hds (x := .int b u) rfl (wpAny_bind (wpAny_field hos hds (x := .none) rfl (wpAny_pure ?_)))))))
  refine wpAny_bind (slicePart_none ?_)
  show wpAny _ _ (if ((1 : Int) == 0) = true then _ else _) _ _ s
  rw [if_neg (by decide)]
  refine wpAny_bind (slicePart_none (wpAny_bind (slicePart_int (wpAny_bind (wpAny_pure ?_)))))
  show wpAny _ _ (match Builtin.Slice.sliceAdjust none (some (b : Int)) 1 (n : Int) with | (lo, hi) => pure (lo, (1 : Int), Builtin.Slice.slicePlaces lo hi 1)) _ _ s
  rw [adjust_upto b n hb]
  show wpAny _ _ (pure ((0 : Int), (1 : Int), Builtin.Slice.slicePlaces 0 (b : Int) 1)) _ _ s
  rw [places_upto b]
  exact wpAny_pure h
theorem pick_upto (xs : Array Value) (b : Nat) : ((List.range b).filterMap fun (k : Nat) => xs[((0 : Int) + (k : Int) * 1).toNat]?).toArray = (xs.toList.take b).toArray := by
  have e : (fun (k : Nat) => xs[((0 : Int) + (k : Int) * 1).toNat]?) = fun k => xs[0 + k]? := by
    funext k
    have : ((0 : Int) + (k : Int) * 1).toNat = 0 + k := by omega
    rw [this]
  rw [e]
  have := pick_run xs 0 b
  rw [List.filterMap_map] at this
  have e2 : ((fun x => xs[x]?) ∘ fun x => 0 + x) = fun k => xs[0 + k]? := rfl
  rw [e2] at this
  rw [this]; simp
theorem getItem_tuple_upto {prog : Program} {w : World} {A : Around} {E : Value → Shared → Prop} {s : Shared} {t sl : Addr} {items : Array Value} {b : Nat} {u : Tok} {Q : Value → Shared → Prop} (ht : IsTup s.heap t items) (hs : s.heap.IsSliceOf sl .none (.int b u) .none) (hb : b < items.size)
    (h : Q (.ref s.heap.objs.size) { s with heap := s.heap.push { cls := .type "tuple", data := .seq (items.toList.take b).toArray } })
    (hsz : items.size ≤ sizeLine) : wpAny (model prog w) A (getItem (.ref t) (.ref sl)) Q E s := by
  have htake : sizeOk (.seq (items.toList.take b).toArray) := by
    show (items.toList.take b).toArray.size ≤ sizeLine
    rw [List.size_toArray, List.length_take, Array.length_toList]
    omega
  obtain ⟨os, hos, hcs, hds⟩ := id hs
  have hTs : s.TypeIs (.ref sl) "slice" := ⟨os, hos, hcs⟩
  unfold getItem
  try with_reducible refine wpAny_holding ?_
  first | refine wpAny_bind (wpAny_pure ?_) | skip
  refine wpAny_bind (wpAny_sequenceKey ht.typeIs (by decide) ?_)
  refine wpAny_bind (wpAny_callSpecial?_slot (name := Str.ofString "__getitem__") ht.typeIs slot_tuple_getitem
    (wpAny_call_entry slot_tuple_getitem ht.typeIs entry_tuple_getitem ?_ (args_tuple_getitem _ _)))
  show wpAny _ _ (Builtin.Tuple.tupleItemsOf (.ref t) >>= _) _ _ s
  refine wpAny_bind (tupleItemsOf_ ht ?_)
  refine wpAny_bind (wpAny_typeOf hTs ?_)
  rw [if_pos (by decide)]
  refine wpAny_bind (sliceApplied_upto hs (Nat.le_of_lt hb) ?_)
  have hno : ¬ (((0 : Int) == 0 && (1 : Int) == 1 && b == items.size) = true) := by
    have : (b == items.size) = false := by rw [beq_eq_false_iff_ne]; omega
    rw [this]; simp
  show wpAny _ _ (if ((0 : Int) == 0 && (1 : Int) == 1 && b == items.size) = true then _ else _) _ _ s
  rw [if_neg hno, pick_upto items b]
  first
    | exact wpAny_bind (m := Builtin.Tuple.tupleExact _) (wpAny_newObj_type (wpAny_pure ⟨_, rfl, wpAny_pure h⟩) htake)
    | exact wpAny_bind (m := Builtin.Tuple.tupleExact _) (wpAny_newObj_type (wpAny_bind (wpAny_pure (wpAny_pure ⟨_, rfl, wpAny_pure h⟩))) htake)
    | exact wpAny_bind (wpAny_bind (m := Builtin.Tuple.tupleExact _) (wpAny_newObj_type (wpAny_pure (wpAny_pure ⟨_, rfl, wpAny_pure h⟩)) htake))
    | exact wpAny_bind (wpAny_bind (m := Builtin.Tuple.tupleExact _) (wpAny_newObj_type (wpAny_pure ⟨_, rfl, wpAny_pure h⟩) htake))
theorem ev_tupto {e i : Expr} {ds : List D} {n : Int} {p pos : Pos} (h : Ev C k ec σ e (.tup ds)) (hi : Ev C k ec σ i (.int n)) (h0 : 0 ≤ n) (hn : n < ds.length) (hl : ds.length ≤ 1000) : Ev C k ec σ (.Subscript e (.Slice none (some i) none p) pos) (.tup (ds.take n.toNat)) := by
  intro A W env h₀ ex s Q E hr he S hQ
  refine Subscript_ (h _ _ _ _ _ _ _ _ hr he S fun v s1 g1 r => ?_)
  simp only [Rep] at r
  obtain ⟨a, vs, m, rfl, _, ha, r⟩ := r
  refine wpAny_Slice ?_
  rw [evalPart_none, evalPart_some]
  refine wpAny_pure (hi _ _ _ _ _ _ _ _ hr he (S.go g1) fun v s2 g2 r2 => wpAny_pure ?_)
  simp only [Rep] at r2
  obtain ⟨t, rfl⟩ := r2
  have S2 := (S.go g1).go g2
  have r' := r.go g2 (S.go g1).tab
  have ha2 := g2.ext _ _ ((S.go g1).tab.ne ha nofun) ha
  have hnn : n = ((n.toNat : Nat) : Int) := by omega
  rw [hnn]
  have hT : ({ s2 with heap := s2.heap.push { cls := .type "slice", data := .fields #[.none, .int (n.toNat : Nat) t, .none] } } : Shared).heap.IsTuple a vs.toArray := tup_at (Heap.get?_push_of_some _ ha2)
  refine tail_any (s := { s2 with heap := s2.heap.push { cls := .type "slice", data := .fields #[.none, .int (n.toNat : Nat) t, .none] } }) hT.typeIs slot_tuple_getitem.lookup (getItem_tuple_upto hT (Heap.IsSliceOf.new ..) (by rw [List.size_toArray, r'.length]; omega) ?_ (by rw [List.size_toArray, r'.length, sizeLine_eq]; omega)) rfl
  refine hQ _ _ ((g1.trans g2).trans (.keep fun b o e => Heap.get?_push_of_some _ (Heap.get?_push_of_some _ e))) ?_
  simp only [Rep]
  refine ⟨_, vs.take n.toNat, 0, rfl, fun m => ?_, ?_, ((r'.take n.toNat).push _).push _⟩
  · exact S2.alive _ m (by
      cases q : s2.heap.get? (s2.heap.push { cls := .type "slice", data := .fields #[.none, .int (n.toNat : Nat) t, .none] }).objs.size with
      | none => rfl
      | some o => have := Heap.lt_size q; rw [Heap.size_push] at this; exact absurd this (Nat.not_lt.mpr (Nat.le_succ _)))
  · have := Heap.get?_push_size (s2.heap.push { cls := .type "slice", data := .fields #[.none, .int (n.toNat : Nat) t, .none] }) (o := tupObj (vs.take n.toNat) 0) rfl
    have e : tupObj (vs.take n.toNat) 0 = { cls := .type "tuple", data := .seq (vs.toArray.toList.take n.toNat).toArray } := by simp [tupObj]
    rw [e] at this ⊢
    exact this

open Classical in
/-- list.count -/
theorem ev_count {o x : Expr} {ds : List D} {d : D} {n : Nat} {apos pos : Pos} (h : El C k ec σ o ds) (hx : Ev C k ec σ x d) (hs : ∀ d' ∈ ds, sim n d' d = true) (hn : n ≤ 90)
    (ha1 : ∀ env, attributeBase o (Str.ofString "count") env (eval o env) = eval o env)
    (ha2 : ∀ env, (((backTo pos (starEach [x] env)).all fun y => !y.1) && ((backToKw pos (keywordEach [] env)).all fun y => y.1.isSome) && decide (([x].length + ([] : List Keyword).length + if ([] : List Keyword).isEmpty = true then 0 else 1) < 30)) = true)
    (ha3 : (apos.endLine == pos.line) = true) (ha4 : ∀ env, starEach [x] env = (false, eval x env) :: starEach [] env) (ha5 : ∀ env, backTo pos (starEach [x] env) = [(false, eval x env)]) :
    Ev C k ec σ (.Call (.Attribute o (Str.ofString "count") apos) [x] [] pos) (.int (ds.countP fun d' => decide (d' = d))) := by
  intro A W env h₀ ex s Q E hr he S hQ
  refine wpAny_Call_method (ha1 env) (ha2 env) ha3 PySem.F.plainAttrs_list PySem.F.slot_list_count PySem.F.type_list_count (h _ _ _ _ _ _ _ _ hr he S fun a vs m s1 g1 ha r => ?_)
  refine ⟨(lst_at ha).typeIs, fun b e => by cases e; exact ⟨_, ha, rfl⟩, ?_⟩
  refine callWith_method1 ?_ (ha4 env) rfl
  rw [ha5 env]
  refine spliced_cons (hx _ _ _ _ _ _ _ _ hr he (S.go g1) fun v s2 g2 r2 => spliced_nil ?_)
  have S2 := (S.go g1).go g2
  have r' := r.go g2 (S.go g1).tab
  have ha2 := g2.ext _ _ ((S.go g1).tab.ne ha nofun) ha
  refine call_meets PySem.F.slot_list_count (lst_at ha2).typeIs PySem.F.entry_list_count (PySem.F.args_list_count_2 _ _) (SeqAt.list_countAt a vs.toArray m none _ v _) ⟨ha2, eqs_rep r2 hs r' ?_, ?_⟩
  · have := hr.units; simp; omega
  · refine hQ _ _ ((g1.trans g2).trans (.keep fun _ _ e => e)) ?_
    simp only [Rep]
    refine ⟨s2.toks, ?_⟩
    rw [← count_rep r2 hs r']
end Mine
namespace Mine
open PySem PySem.W PyProof.Rows PySem.Calls PySem.Spec

variable {C : Cfg} {k : Nat} {ec : EC} {σ : Sto} {W W' : List Str}

theorem sys_lt {h : Heap} (g : G1 C h) : ∀ a, h.objs.size ≤ a → (a == sysModules) = false := fun a ha => by
  obtain ⟨o, es, ep, ho, _⟩ := g.g
  have h1 : mainGlobals < h.objs.size := Heap.lt_size ho
  have h2 : sysModules < mainGlobals := by decide
  rw [beq_eq_false_iff_ne]
  exact Nat.ne_of_gt (Nat.lt_of_lt_of_le (Nat.lt_trans h2 h1) ha)
theorem dict_new (h : Heap) : (h.push { cls := .type "dict", data := .dict #[] }).DictOf (kS C) h.objs.size [] := by
  exact Heap.DictOf.new _

/-- {} -/
theorem ev_d0 {pos : Pos} : Ev C k ec σ (.Dict [] [] pos) .d0 := by
  intro A W env h₀ ex s Q E hr he S hQ
  refine wpAny_Dict_empty (hQ _ _ (.push _ rfl) ?_)
  simp only [Rep]
  exact ⟨_, rfl, (S.pre hr).alive.fresh, sys_lt S.g _ (Nat.le_refl _), dict_new _⟩
theorem x1_dict0 {x : Str} {p dp pos : Pos} {Φ : Out → Prop} (hx : ec.kind x = some .local ∨ x ∈ W) (hΦ : ∀ a, Φ (.next (σ.set x (.ownd a [])))) : X1 C k ec W σ (.Assign [.Name x p] (.Dict [] [] dp) pos) Φ := by
  intro A env h₀ ex s Q E hr he S hQ
  refine wpAny_Assign_Name (wpAny_Dict_empty ?_) (by rfl)
  have g1 : Go C s { s with heap := s.heap.push { cls := .type "dict", data := .dict #[] } } := .push _ rfl
  have hn : s.heap.get? s.heap.objs.size = none := fresh_old S.tab (.refl s) (Nat.le_refl _)
  have S1 : Sta C ec W env h₀ ([s.heap.objs.size] ++ ex) σ (s.heap.push { cls := .type "dict", data := .dict #[] }) := Sta.addEx (ws := [s.heap.objs.size]) S g1 (fun b hb => by rw [List.mem_singleton] at hb; subst hb; exact hn) (fun b hb => by rw [List.mem_singleton] at hb; subst hb; show (s.heap.push _).get? _ ≠ none; rw [Heap.get?_push_size _ rfl]; nofun) (List.nodup_cons.mpr ⟨nofun, List.nodup_nil⟩)
  refine store_wp (sl := .ownd s.heap.objs.size []) he S1 hx ⟨rfl, fresh_base S hn, sys_lt S.g _ (Nat.le_refl _), [], dict_new _, .nil⟩ fun s2 g2 S2 => hQ _ _ _ (hΦ _) ⟨rfl, S2⟩ (g1.gx.trans g2)

/-- {'f': .., 'g': ..} -/
theorem ev_d2 {v1 v2 : Expr} {d1 d2 : D} {n m : Nat} {p q pos : Pos} (h1 : Ev C k ec σ v1 d1) (h2 : Ev C k ec σ v2 d2) : Ev C k ec σ (.Dict [some (.Constant (.str "f") n p), some (.Constant (.str "g") m q)] [v1, v2] pos) (.d2 d1 d2) := by
  intro A W env h₀ ex s Q E hr he S hQ
  refine wpAny_Dict_walk (knd := kS C) rfl rfl (by simp) (by simp) ?_
  have g0 : Go C s { s with heap := s.heap.push { cls := .type "dict", data := .dict #[] } } := .push _ rfl
  have S0 : Sta C ec W env h₀ ex σ (s.heap.push { cls := .type "dict", data := .dict #[] }) := S.go g0
  have hn : s.heap.get? s.heap.objs.size = none := fresh_old S.tab (.refl s) (Nat.le_refl _)
  have S1 : Sta C ec W env h₀ ([s.heap.objs.size] ++ ex) σ (s.heap.push { cls := .type "dict", data := .dict #[] }) := Sta.addEx (ws := [s.heap.objs.size]) S g0 (fun b hb => by rw [List.mem_singleton] at hb; subst hb; exact hn) (fun b hb => by rw [List.mem_singleton] at hb; subst hb; show (s.heap.push _).get? _ ≠ none; rw [Heap.get?_push_size _ rfl]; nofun) (List.nodup_cons.mpr ⟨nofun, List.nodup_nil⟩)
  refine pairTrees_cons_walk (wpAny_Constant_str ?_)
  refine h1 _ _ _ _ _ _ _ _ hr he S1 fun u1 s1 g1 r1 => ?_
  have S2 : Sta C ec W env h₀ ([s.heap.objs.size] ++ ex) σ s1.heap := S1.go (s := { s with heap := s.heap.push { cls := .type "dict", data := .dict #[] } }) ⟨g1.ext, g1.tab, g1.os, g1.bare⟩
  refine pairTrees_cons_walk (wpAny_Constant_str ?_)
  refine h2 _ _ _ _ _ _ _ _ hr he S2 fun u2 s2 g2 r2 => ?_
  have g2' : Go C s1 s2 := ⟨g2.ext, g2.tab, g2.os, g2.bare⟩
  have S3 := S2.go g2'
  refine pairTrees_nil_walk ?_
  have g02 : Go C { s with heap := s.heap.push { cls := .type "dict", data := .dict #[] } } s2 := Go.trans ⟨g1.ext, g1.tab, g1.os, g1.bare⟩ g2'
  refine ⟨[(Str.ofString "f", u1), (Str.ofString "g", u2)], ⟨strKind_is _ _ _ _, rfl, strKind_is _ _ _ _, rfl, trivial⟩, dictOf_ext (dict_new (C := C) s.heap) S0.tab g02.ext, fun h' hd hs => ?_⟩
  have hmv : ∀ {ds : D} {v : Value}, Rep C s2.heap (exOf env σ ([s.heap.objs.size] ++ ex)) ds v → Rep C h' (exOf env σ ex) ds v := fun {ds v} r => Rep.move (fun b o hb e _ => by
    have hne : b ≠ s.heap.objs.size := fun q => hb (q ▸ List.mem_cons_of_mem _ (List.mem_append_right _ (.head _)))
    refine ⟨(hs.2 b hne).trans e, fun m => hb ?_⟩
    rcases List.mem_cons.mp m with rfl | m
    · exact .head _
    · rcases List.mem_append.mp m with m | m
      · exact .tail _ (List.mem_append_left _ m)
      · exact .tail _ (List.mem_append_right _ (.tail _ m))) ds v r
  have g3 : Go C s { s2 with heap := h', toks := s2.toks + 2 } := go_drop S.tab (g0.trans g02) hn hs |> fun g => ⟨g.ext, g.tab, g.os, g.bare⟩
  refine hQ _ _ g3 ?_
  simp only [Rep]
  refine ⟨_, u1, u2, rfl, fun m => S.alive _ m hn, sys_lt S.g _ (Nat.le_refl _), ?_, hmv (r1.go g2' S2.tab), hmv r2⟩
  exact hd
end Mine
namespace Mine
open PySem PySem.W PyProof.Rows PySem.Calls PySem.Spec

variable {C : Cfg} {k : Nat} {ec : EC} {σ : Sto} {W W' : List Str}

abbrev kF : Str := Str.ofString "f"
abbrev kG : Str := Str.ofString "g"

theorem Sta.setOwnd {env : Env} {h₀ h h' : Heap} {ex : List Addr} {x : Str} {D₁ : Addr} {kvs kvs' : List (Str × D)} {us' : List Value} (S : Sta C ec W env h₀ ex σ h) (hx : σ.lookup x = some (.ownd D₁ kvs))
    (hs : Heap.SameBut D₁ h h') (hd : h'.DictOf (kS C) D₁ ((kvs'.map (·.1)).zip us')) (r : RepL C h (exOf env σ ex) (kvs'.map (·.2)) us') : Sta C ec W env h₀ ex (σ.set x (.ownd D₁ kvs')) h' := by
  obtain ⟨V, hn0, hsys, us, hg, _⟩ := S.slots _ _ hx
  obtain ⟨o, ho, hso⟩ := dictOf_cls hg
  obtain ⟨o', ho', _⟩ := dictOf_cls hd
  exact S.setObj hx rfl rfl hn0 ho hso hs (by rw [ho']; nofun) fun hV _ hR => ⟨hV _ V, hn0, hsys, us', hd, hR _ _ r⟩

/-- what a dict of its own holds at a key -/
def dGet (kvs : List (Str × D)) (key : Str) : Option D := (kvs.find? fun kv => kv.1 = key).map (·.2)
theorem valueAt_rep {h : Heap} {ex : List Addr} {key : Str} : ∀ {kvs : List (Str × D)} {us : List Value}, RepL C h ex (kvs.map (·.2)) us → (∀ d, dGet kvs key = some d → ∃ v, valueAt ((kvs.map (·.1)).zip us) key = some v ∧ Rep C h ex d v) ∧ (dGet kvs key = none → valueAt ((kvs.map (·.1)).zip us) key = none)
  | [], us, _ => ⟨fun d e => (nomatch e), fun _ => rfl⟩
  | (y, d) :: kvs, us, r => by
    simp only [List.map_cons, RepL] at r
    obtain ⟨v, us', rfl, r1, r2⟩ := r
    obtain ⟨i1, i2⟩ := valueAt_rep (key := key) r2
    by_cases hy : y = key
    · subst hy
      refine ⟨fun d' e => ?_, fun e => ?_⟩
      · simp [dGet] at e; subst e
        exact ⟨v, by simp [valueAt], r1⟩
      · simp [dGet] at e
    · refine ⟨fun d' e => ?_, fun e => ?_⟩
      · have e' : dGet kvs key = some d' := by simpa [dGet, hy] using e
        obtain ⟨v', h1, h2⟩ := i1 d' e'
        exact ⟨v', by simpa [valueAt, hy] using h1, h2⟩
      · have e' : dGet kvs key = none := by simpa [dGet, hy] using e
        simpa [valueAt, hy] using i2 e'

/-- key in own dict -/
theorem tr_in_own {e : Expr} {x : Str} {xp pos : Pos} {a : Addr} {kvs : List (Str × D)} {key : Str} (hx : σ.lookup x = some (.ownd a kvs)) (h : Ev C k ec σ e (.str key)) (h1 : (x == ("__debug__" : Str)) = false) (h2 : (x == ("__classdict__" : Str)) = false) (hm : behindInMarks .In (.Name x xp) = false) :
    Tr C k ec σ (.Compare e [.In] [.Name x xp] pos) (dGet kvs key).isSome := by
  intro A W env h₀ ex s Q E hr he S hQ
  refine wpAny_isTrue_Compare1 (h _ _ _ _ _ _ _ _ hr he S fun v s1 g1 r1 => ?_) hm
  have S1 := S.go g1
  obtain ⟨V, _, hsys, us, hg, r⟩ := S1.slots _ _ hx
  refine name_wp (W := W) (h₀ := h₀) (ex := ex) he V h1 h2 ?_
  simp only [Rep] at r1
  obtain ⟨t, rfl⟩ := r1
  refine wpAny_in_of (knd := kS C) (strKind_is _ _ _ _) hsys hg.mapOf ?_
  have hv : (valueAt ((kvs.map (·.1)).zip us) key).isSome = (dGet kvs key).isSome := by
    cases hd : dGet kvs key with
    | none => rw [(valueAt_rep r).2 hd]; rfl
    | some d => obtain ⟨v, hv, _⟩ := (valueAt_rep r).1 d hd; rw [hv]; rfl
  rw [hv]
  exact wpAny_truthy_bool (hQ _ (g1.trans (.keep fun _ _ e => e)))
/-- own dict [key] -/
theorem ev_ditem {e : Expr} {x : Str} {xp pos : Pos} {a : Addr} {kvs : List (Str × D)} {key : Str} {d : D} (hx : σ.lookup x = some (.ownd a kvs)) (h : Ev C k ec σ e (.str key)) (hd : dGet kvs key = some d) (h1 : (x == ("__debug__" : Str)) = false) (h2 : (x == ("__classdict__" : Str)) = false)
    (hs : ∀ (o : Addr) (q : Str) (u : Tok), subscripted e false (.ref o) (.str q u) = operate [.ref o, .str q u] (getItem (.ref o) (.str q u))) : Ev C k ec σ (.Subscript (.Name x xp) e pos) d := by
  intro A W env h₀ ex s Q E hr he S hQ
  obtain ⟨V, _⟩ := S.slots _ _ hx
  refine Subscript_ (name_wp (W := W) (h₀ := h₀) (ex := ex) he V h1 h2 ?_)
  refine h _ _ _ _ _ _ _ _ hr he S fun v s1 g1 r1 => ?_
  obtain ⟨_, _, hsys, us, hg, r⟩ := (S.go g1).slots _ _ hx
  simp only [Rep] at r1
  obtain ⟨t, rfl⟩ := r1
  obtain ⟨v, hv, rv⟩ := (valueAt_rep r).1 d hd
  exact tail_any hg.typeIs slot_dict_getitem.lookup (wpAny_getItem_of (knd := kS C) (strKind_is _ _ _ _) hg.mapOf hv (hQ _ _ (g1.trans (.keep fun _ _ e => e)) rv)) (hs _ _ _)

def dSet (kvs : List (Str × D)) (key : Str) (d : D) : List (Str × D) :=
  if kvs.any (fun kv => kv.1 = key) then kvs.map (fun kv => if kv.1 = key then (kv.1, d) else kv) else kvs ++ [(key, d)]
theorem any_zip {key : Str} : ∀ {kvs : List (Str × D)} {us : List Value}, us.length = kvs.length → (((kvs.map (·.1)).zip us).any fun kv => decide (kv.1 = key)) = kvs.any fun kv => decide (kv.1 = key)
  | [], us, _ => rfl
  | _ :: _, [], e => by cases e
  | (y, d) :: r, v :: us, e => by
    show (decide (y = key) || ((r.map (·.1)).zip us).any fun kv => decide (kv.1 = key)) = (decide (y = key) || _)
    rw [any_zip (by simpa using e)]
theorem map_zip {h : Heap} {ex : List Addr} {key : Str} {d : D} {v : Value} (rv : Rep C h ex d v) : ∀ {kvs : List (Str × D)} {us : List Value}, RepL C h ex (kvs.map (·.2)) us →
    ∃ us', ((kvs.map (·.1)).zip us).map (fun kv => if kv.1 = key then (kv.1, v) else kv) = ((kvs.map fun kv => if kv.1 = key then (kv.1, d) else kv).map (·.1)).zip us' ∧ RepL C h ex ((kvs.map fun kv => if kv.1 = key then (kv.1, d) else kv).map (·.2)) us'
  | [], us, r => ⟨[], rfl, .nil⟩
  | (y, e) :: kvs, us, r => by
    simp only [List.map_cons, RepL] at r
    obtain ⟨u, us', rfl, r1, r2⟩ := r
    obtain ⟨us2, h1, h2⟩ := map_zip (key := key) rv r2
    by_cases hy : y = key
    · refine ⟨v :: us2, ?_, ?_⟩
      · simp only [List.map_cons, List.zip_cons_cons, h1, if_pos hy]
      · simp only [List.map_cons, if_pos hy]; exact .cons rv h2
    · refine ⟨u :: us2, ?_, ?_⟩
      · simp only [List.map_cons, List.zip_cons_cons, h1, if_neg hy]
      · simp only [List.map_cons, if_neg hy]; exact .cons r1 h2
theorem stored_rep {h : Heap} {ex : List Addr} {key : Str} {d : D} {v : Value} (rv : Rep C h ex d v) {kvs : List (Str × D)} {us : List Value} (r : RepL C h ex (kvs.map (·.2)) us) :
    ∃ us', stored ((kvs.map (·.1)).zip us) key v = ((dSet kvs key d).map (·.1)).zip us' ∧ RepL C h ex ((dSet kvs key d).map (·.2)) us' := by
  have hl : us.length = kvs.length := by rw [r.length, List.length_map]
  unfold stored dSet
  rw [any_zip hl]
  split
  · exact map_zip rv r
  · refine ⟨us ++ [v], ?_, ?_⟩
    · rw [List.map_append, List.zip_append (by rw [List.length_map, hl])]; rfl
    · rw [List.map_append]; exact r.append (.one rv)
/-- own dict [key] = e -/
theorem x1_dset {x : Str} {i e : Expr} {a : Addr} {kvs : List (Str × D)} {key : Str} {d : D} {xp tp pos : Pos} {Φ : Out → Prop} (hx : σ.lookup x = some (.ownd a kvs)) (h : Ev C k ec σ e d) (hi : Ev C k ec σ i (.str key)) (hl : kvs.length ≤ 1000)
    (h1 : (x == ("__debug__" : Str)) = false) (h2 : (x == ("__classdict__" : Str)) = false) (hs : ∀ env, swapsWith e (some (.Subscript (.Name x xp) i tp)) pos.line env = pure false)
    (hΦ : Φ (.next (σ.set x (.ownd a (dSet kvs key d))))) : X1 C k ec W σ (.Assign [.Subscript (.Name x xp) i tp] e pos) Φ := by
  intro A env h₀ ex s Q E hr he S hQ
  refine wpAny_Assign_Subscript (h _ _ _ _ _ _ _ _ hr he S fun v s1 g1 r1 => ?_) (hs env)
  have S1 := S.go g1
  obtain ⟨V, _⟩ := S1.slots _ _ hx
  refine name_wp (W := W) (h₀ := h₀) (ex := ex) he V h1 h2 ?_
  refine hi _ _ _ _ _ _ _ _ hr he S1 fun iv s2 g2 r2 => ?_
  simp only [Rep] at r2
  obtain ⟨t, rfl⟩ := r2
  have S2 := S1.go g2
  obtain ⟨_, _, _, us, hg, r⟩ := S2.slots _ _ hx
  have hus : us.length = kvs.length := by rw [r.length, List.length_map]
  refine wpAny_setItem_pairs (knd := kS C) (strKind_is _ _ _ _) hg (fun h' hg' hs' => ?_) (by rw [List.length_zip, List.length_map, sizeLine_eq]; omega)
  obtain ⟨us', e1, r'⟩ := stored_rep (key := key) (r1.go g2 S1.tab) r
  rw [e1] at hg'
  exact hQ _ _ _ hΦ ⟨rfl, S2.setOwnd hx hs' hg' r'⟩ ((g1.gx.trans g2.gx).trans ⟨rfl, id⟩)
/-- own dict [key] += e -/
theorem x1_daug {x : Str} {i e : Expr} {a : Addr} {kvs : List (Str × D)} {key : Str} {m n : Int} {xp tp pos : Pos} {Φ : Out → Prop} (hx : σ.lookup x = some (.ownd a kvs)) (hd : dGet kvs key = some (.int m)) (h : Ev C k ec σ e (.int n)) (hi : Ev C k ec σ i (.str key)) (hl : kvs.length ≤ 1000)
    (h1 : (x == ("__debug__" : Str)) = false) (h2 : (x == ("__classdict__" : Str)) = false) (ha : ∀ (ov iv new : Value), augStore i ov iv new = (do holding [new, ov, iv] (setItem ov iv new); release [new, ov, iv] []; pure .next))
    (hΦ : Φ (.next (σ.set x (.ownd a (dSet kvs key (.int (m + n))))))) : X1 C k ec W σ (.AugAssign (.Subscript (.Name x xp) i tp) .Add e pos) Φ := by
  intro A env h₀ ex s Q E hr he S hQ
  obtain ⟨V, _⟩ := S.slots _ _ hx
  refine wpAny_AugAssign_SubscriptAny (name_wp (W := W) (h₀ := h₀) (ex := ex) he V h1 h2 ?_) ha
  refine hi _ _ _ _ _ _ _ _ hr he S fun iv s1 g1 r1 => ?_
  simp only [Rep] at r1
  obtain ⟨t, rfl⟩ := r1
  have S1 := S.go g1
  obtain ⟨_, _, _, us, hg, r⟩ := S1.slots _ _ hx
  obtain ⟨v, hv, rv⟩ := (valueAt_rep r).1 _ hd
  refine wpAny_getItem_of (knd := kS C) (strKind_is _ _ _ _) hg.mapOf hv ?_
  have g2 : Go C s1 { s1 with toks := s1.toks + 1 } := .keep fun _ _ e => e
  have S2 := S1.go g2
  refine h _ _ _ _ _ _ _ _ hr he S2 fun u s3 g3 r3 => ?_
  simp only [Rep] at rv r3
  obtain ⟨t1, rfl⟩ := rv
  obtain ⟨t2, rfl⟩ := r3
  refine AutoIntOps.iadd_0 ?_
  have S3 := S2.go g3
  obtain ⟨_, _, _, us3, hg3, r3⟩ := S3.slots _ _ hx
  have hus : us3.length = kvs.length := by rw [r3.length, List.length_map]
  refine wpAny_setItem_pairs (knd := kS C) (strKind_is _ _ _ _) hg3 (fun h' hg' hs' => ?_) (by rw [List.length_zip, List.length_map, sizeLine_eq]; omega)
  obtain ⟨us', e1, r'⟩ := stored_rep (C := C) (key := key) (rep_int (C := C) (h := s3.heap) (ex := exOf env σ ex) (i := m + n) (t := s3.toks)) r3
  rw [e1] at hg'
  exact hQ _ _ _ hΦ ⟨rfl, S3.setOwnd hx hs' hg' r'⟩ ⟨g3.os.trans g1.os, fun hh => g3.bare (g1.bare hh)⟩

/-- a dict of the frame's own is handed on as data -/
theorem Sta.freezeD {env : Env} {h₀ h : Heap} {ex : List Addr} {x : Str} {a : Addr} {kvs : List (Str × D)} {d : D} (S : Sta C ec W env h₀ ex σ h) (hx : σ.lookup x = some (.ownd a kvs)) (hd : (kvs = [] ∧ d = .d0) ∨ ∃ f g, kvs = [(kF, f), (kG, g)] ∧ d = .d2 f g) : Sta C ec W env h₀ ex (σ.set x (.dat d)) h := by
  have hsub : ∀ b, b ∈ exOf env (σ.set x (.dat d)) ex → b ∈ exOf env σ ex := fun b hb => by
    rcases List.mem_cons.mp hb with rfl | hb
    · exact .head _
    · refine List.mem_cons_of_mem _ ?_
      rcases List.mem_append.mp hb with hb | hb
      · rw [owns_set] at hb
        exact List.mem_append_left _ ((owns_filter_sub _ σ).subset (by simpa [Slot.addr] using hb))
      · exact List.mem_append_right _ hb
  have hmv : ∀ b o, b ∉ exOf env σ ex → h.get? b = some o → Solid o → h.get? b = some o ∧ b ∉ exOf env (σ.set x (.dat d)) ex := fun b o hb e _ => ⟨e, fun m => hb (hsub b m)⟩
  -- the owners: x's own goes
  have hperm : ∀ (τ : Sto), (∀ p ∈ τ, τ.lookup p.1 = some p.2 ∨ True) → τ.lookup x = some (.ownd a kvs) → ∃ l1 l2, τ = l1 ++ (x, .ownd a kvs) :: l2 ∧ ∀ p ∈ l1, (x == p.1) = false := fun τ _ e => by
    obtain ⟨l1, l2, rfl, hl⟩ := List.lookup_eq_some_iff.mp e
    exact ⟨l1, l2, rfl, fun p hp => by simpa using hl p hp⟩
  have ha : a ∉ exOf env (σ.set x (.dat d)) ex := by
    obtain ⟨l1, l2, rfl, hl⟩ := hperm σ (fun _ _ => .inr trivial) hx
    have hn := S.nodup
    have e1 : owns (l1 ++ (x, Slot.ownd a kvs) :: l2) = owns l1 ++ a :: owns l2 := by simp [owns, Slot.addr]
    unfold exOf at hn ⊢
    rw [e1] at hn
    rw [owns_set]
    intro m
    have hn2 : (env.locals :: (owns l1 ++ a :: (owns l2 ++ ex))).Nodup := by simpa using hn
    have hfil : ∀ b, b ∈ owns ((l1 ++ (x, Slot.ownd a kvs) :: l2).filter fun p => !(p.1 == x)) → b ∈ owns l1 ∨ b ∈ owns l2 := fun b hb => by
      rw [List.filter_append, List.filter_cons_of_neg (by simp)] at hb
      simp only [owns, List.flatMap_append, List.mem_append] at hb
      rcases hb with hb | hb
      · exact .inl ((owns_filter_sub _ l1).subset hb)
      · exact .inr ((owns_filter_sub _ l2).subset hb)
    have hnl : a ∉ env.locals :: (owns l1 ++ (owns l2 ++ ex)) := by
      have hp : (env.locals :: (owns l1 ++ a :: (owns l2 ++ ex))).Perm (a :: (env.locals :: (owns l1 ++ (owns l2 ++ ex)))) := by
        refine (List.Perm.cons _ List.perm_middle).trans (.swap _ _ _)
      exact (List.nodup_cons.mp (hp.nodup_iff.mp hn2)).1
    apply hnl
    rcases List.mem_cons.mp m with rfl | m
    · exact .head _
    · refine List.mem_cons_of_mem _ ?_
      simp only [Slot.addr, List.nil_append] at m
      rcases List.mem_append.mp m with m | m
      · rcases hfil _ m with m | m
        · exact List.mem_append_left _ m
        · exact List.mem_append_right _ (List.mem_append_left _ m)
      · exact List.mem_append_right _ (List.mem_append_right _ m)
  exact { base := S.base, g0 := S.g0, t0 := S.t0, tab := S.tab, ns := S.ns, newL := S.newL, wr := S.wr, apart := S.apart, cells := S.cells, proper := proper_set S.proper,
          slots := fun y s hy => by
            by_cases hyx : y = x
            · subst hyx
              rw [lookup_set_self] at hy
              cases hy
              obtain ⟨V, _, hsys, us, hg, r⟩ := S.slots _ _ hx
              refine ⟨_, V, ?_⟩
              rcases hd with ⟨rfl, rfl⟩ | ⟨f, g, rfl, rfl⟩
              · simp only [Rep]
                exact ⟨a, rfl, ha, hsys, hg⟩
              · simp only [List.map_cons, List.map_nil, RepL] at r
                obtain ⟨u1, _, rfl, r1, u2, _, rfl, r2, rfl⟩ := r
                simp only [Rep]
                exact ⟨a, u1, u2, rfl, ha, hsys, hg, Rep.move hmv f u1 r1, Rep.move hmv g u2 r2⟩
            · rw [lookup_set_ne hyx] at hy
              have q := S.slots y s hy
              cases s with
              | dat d => obtain ⟨u, V, r⟩ := q; exact ⟨u, V, Rep.move hmv d u r⟩
              | own b es => obtain ⟨V, hn, vs, n, hg, r⟩ := q; exact ⟨V, hn, vs, n, hg, RepL.move hmv es vs r⟩
              | ownd b kvs => obtain ⟨V, hn, hs, us, hg, r⟩ := q; exact ⟨V, hn, hs, us, hg, RepL.move hmv _ us r⟩
              | gho b es => obtain ⟨hn, vs, n, hg, r⟩ := q; exact ⟨hn, vs, n, hg, RepL.move hmv es vs r⟩
          nodup := by
            have hn := S.nodup
            unfold exOf at hn ⊢
            refine List.Nodup.sublist ?_ hn
            rw [owns_set]
            exact (((owns_filter_sub _ σ).append (.refl _))).cons₂ _
          alive := fun b hb => S.alive b (hsub b hb) }
theorem xs_freezeD {x : Str} {a : Addr} {kvs : List (Str × D)} {d : D} {ss : List Stmt} {Φ : Out → Prop} (hx : σ.lookup x = some (.ownd a kvs)) (hd : (kvs = [] ∧ d = .d0) ∨ ∃ f g, kvs = [(kF, f), (kG, g)] ∧ d = .d2 f g) (h : Xs C k ec W (σ.set x (.dat d)) ss Φ) : Xs C k ec W σ ss Φ :=
  fun A env h₀ ex s Q E hr he S hQ => h _ _ _ _ _ _ _ hr he (S.freezeD hx hd) hQ
end Mine
namespace Mine
open PySem PySem.W PyProof.Rows PySem.Calls PySem.Spec

variable {C : Cfg} {k : Nat} {ec : EC} {σ : Sto} {W W' : List Str}

/-- a call of a value on data gives data -/
def Fn (C : Cfg) (k : Nat) (fv : Value) (ds : List D) (d : D) : Prop :=
  ∀ (A : Around) (ex : List Addr) (s : Shared) (vs : List Value) (Q : Value → Shared → Prop) (E : Value → Shared → Prop), Pre C k A ex s → ex.Nodup → RepL C s.heap ex ds vs →
    (∀ r s', Go C s s' → Rep C s'.heap ex d r → Q r s') → wpAny (model C.prog C.w) A (call fv vs) Q E s

theorem bindL_other {kindOf : Str → Option NameKind} {y : Str} : ∀ (bs : List (Str × Value)) (m : Str → Option Value), y ∉ bs.map (·.1) → bindL kindOf bs m y = m y
  | [], m, _ => rfl
  | (n, v) :: r, m, h => by
    have hn : y ≠ n := fun e => h (by rw [e]; exact .head _)
    rw [bindL, bindL_other r _ fun q => h (.tail _ q)]
    split <;> simp [hn]
theorem bindC_other {kindOf : Str → Option NameKind} {y : Str} : ∀ (bs : List (Str × Value)) (m : Str → Option Value), y ∉ bs.map (·.1) → bindC kindOf bs m y = m y
  | [], m, _ => rfl
  | (n, v) :: r, m, h => by
    have hn : y ≠ n := fun e => h (by rw [e]; exact .head _)
    rw [bindC, bindC_other r _ fun q => h (.tail _ q)]
    split <;> simp [hn]
theorem bindL_at {kindOf : Str → Option NameKind} {y : Str} {v : Value} : ∀ (bs : List (Str × Value)) (m : Str → Option Value), (bs.map (·.1)).Nodup → (y, v) ∈ bs → kindOf y = some .local → bindL kindOf bs m y = some v
  | (n, u) :: r, m, hn, hm, hk => by
    obtain ⟨h1, h2⟩ := List.nodup_cons.mp hn
    rcases List.mem_cons.mp hm with e | hm
    · cases e
      rw [bindL, bindL_other r _ h1, if_pos hk]; simp
    · rw [bindL]; exact bindL_at r _ h2 hm hk
theorem bindC_at {kindOf : Str → Option NameKind} {y : Str} {v : Value} : ∀ (bs : List (Str × Value)) (m : Str → Option Value), (bs.map (·.1)).Nodup → (y, v) ∈ bs → kindOf y = some .cell → bindC kindOf bs m y = some v
  | (n, u) :: r, m, hn, hm, hk => by
    obtain ⟨h1, h2⟩ := List.nodup_cons.mp hn
    rcases List.mem_cons.mp hm with e | hm
    · cases e
      rw [bindC, bindC_other r _ h1, if_neg (by rw [hk]; decide)]; simp
    · rw [bindC]; exact bindC_at r _ h2 hm hk
theorem apart_of {cs : List (Str × Addr)} (h : cs.Pairwise fun x y => x.2 ≠ y.2) {x y : Str} {c : Addr} (hx : (x, c) ∈ cs) (hy : (y, c) ∈ cs) : x = y := by
  induction h with
  | nil => cases hx
  | cons h1 _ ih =>
    rcases List.mem_cons.mp hx with e | hx2 <;> rcases List.mem_cons.mp hy with e' | hy2
    · rw [← e] at e'; exact (congrArg Prod.fst e').symm
    · subst e; exact (h1 _ hy2 rfl).elim
    · subst e'; exact (h1 _ hx2 rfl).elim
    · exact ih hx2 hy2

/-- what a def's record holds -/
structure DefOK (C : Cfg) (fa : Addr) (o : Obj) (fd : FuncData) (body : List Stmt) (params : List Str) : Prop where
  at_ : C.K.lookup fa = some o
  data : o.data = .func fd
  co : fd.scope.isCoroutine = false
  gen : fd.scope.isGenerator = false
  kind : fd.scope.kind = .function
  stmts : fd.body = .stmts body
  code : codeIn C.K fd.code fd.qualname = true
  gl : fd.globals = mainGlobals
  bi : fd.builtins = builtinsNs
  clo : fd.closure = []
  kinds : ∀ p ∈ params, fd.scope.names.lookup p = some .local ∨ (fd.scope.names.lookup p = some .cell ∧ ∀ n, ((cellsFrom n fd.scope.names []).lookup p).isSome = true)
  nodup : params.Nodup
  bind : ∀ (s : Shared) (vs : List Value), C.K.In s.heap → vs.length = params.length → BindsTo s fd ⟨vs, []⟩ (params.zip vs)
def ecOf (fd : FuncData) : EC := { sc := fd.scope, code := fd.code, qual := fd.qualname ++ ".<locals>." }
def argSto (params : List Str) (ds : List D) : Sto := (params.zip ds).map fun p => (p.1, .dat p.2)

theorem argSto_lookup : ∀ {ps : List Str} {ds : List D} {x : Str} {sl : Slot}, (argSto ps ds).lookup x = some sl → ∃ (i : Nat) (d : D), ps[i]? = some x ∧ ds[i]? = some d ∧ sl = .dat d
  | [], ds, x, sl, e => by simp [argSto] at e
  | p :: ps, [], x, sl, e => by simp [argSto] at e
  | p :: ps, d :: ds, x, sl, e => by
    simp only [argSto, List.zip_cons_cons, List.map_cons, List.lookup_cons] at e
    by_cases hx : x = p
    · subst hx; simp at e; subst e; exact ⟨0, d, rfl, rfl, rfl⟩
    · rw [show (x == p) = false by simpa using hx] at e
      obtain ⟨i, d', h1, h2, h3⟩ := argSto_lookup (ps := ps) (ds := ds) e
      exact ⟨i + 1, d', by simpa using h1, by simpa using h2, h3⟩
theorem argSto_names : ∀ {ps : List Str} {ds : List D}, ps.length = ds.length → (argSto ps ds).map (·.1) = ps
  | [], _, _ => rfl
  | _ :: _, [], e => by cases e
  | p :: ps, d :: ds, e => by
    show p :: (argSto ps ds).map (·.1) = p :: ps
    rw [argSto_names (by simpa using e)]
theorem owns_argSto : ∀ (ps : List Str) (ds : List D), owns (argSto ps ds) = []
  | [], ds => rfl
  | _ :: _, [] => rfl
  | p :: ps, d :: ds => by
    show Slot.addr (.dat d) ++ owns (argSto ps ds) = []
    rw [owns_argSto ps ds]; rfl
theorem zip_mem {α β : Type} : ∀ {xs : List α} {ys : List β} {i : Nat} {x : α} {y : β}, xs[i]? = some x → ys[i]? = some y → (x, y) ∈ xs.zip ys
  | x :: xs, y :: ys, 0, a, b, h1, h2 => by simp at h1 h2; subst h1; subst h2; exact .head _
  | x :: xs, y :: ys, i + 1, a, b, h1, h2 => .tail _ (zip_mem (i := i) (by simpa using h1) (by simpa using h2))

theorem fn_def {fa : Addr} {o : Obj} {fd : FuncData} {body : List Stmt} {params : List Str} {ds : List D} {d : D} (F : DefOK C fa o fd body params) (hl : params.length = ds.length) (hW : ∀ x ∈ W, fd.scope.names.lookup x = some .cell ∧ ∀ n, ((cellsFrom n fd.scope.names []).lookup x).isSome = true)
    (h : Xs C k (ecOf fd) W (argSto params ds) body fun o => o = .ret d) : Fn C (k + 1) (.ref fa) ds d := by
  intro A ex s vs Q E p hnd r hQ
  have X := p.g.kin
  have ho := X _ _ F.at_
  have hvl : vs.length = params.length := by rw [r.length, hl]
  refine wpAny_call (codeAny_call_function (by have := p.room.depth; omega) ho F.data F.co F.gen F.stmts (codeRec_of X F.code) (F.bind s vs X hvl _ _ _ _ ?_))
  rw [F.gl, F.bi, F.clo]
  have hzn : (params.zip vs).map (·.1) = params := by rw [List.map_fst_zip (by omega)]
  refine wpAny_newFunctionEnv_cells F.kind (fun x hx => ?_) fun env he s1 x1 => ?_
  · have hxp : x.1 ∈ params := by rw [← hzn]; exact List.mem_map.mpr ⟨x, hx, rfl⟩
    exact (F.kinds _ hxp).imp id fun h => ⟨h.1, h.2 _⟩
  subst he
  refine ⟨p.g.nolimit.keeps x1.toInCall.keep, codeAny_func ?_⟩
  obtain ⟨hh, tk, hs1⟩ := x1.toInCall.same
  have hk := x1.toInCall.keep
  have hLn : s.heap.get? s.heap.objs.size = none := by
    cases q : s.heap.get? s.heap.objs.size with
    | none => rfl
    | some o => exact absurd (Heap.lt_size q) (Nat.lt_irrefl _)
  have habove : ∀ n c, (n, c) ∈ cellsFrom (s.heap.objs.size + 1) fd.scope.names [] → s.heap.get? c = none := fun n c hm => by
    have := x1.above n c hm
    cases q : s.heap.get? c with
    | none => rfl
    | some o => exact absurd (Nat.lt_trans this (Heap.lt_size q)) (Nat.lt_irrefl _)
  have T1 : TabOK C s1.heap := p.tab.keeps fun o e => hk _ _ e
  let env : Env := newEnv fd.scope s.heap.objs.size mainGlobals (cellsFrom (s.heap.objs.size + 1) fd.scope.names []) (fd.qualname ++ ".<locals>.") (some fa) fd.code none builtinsNs
  have he : EnvOK (ecOf fd) env := ⟨rfl, rfl, rfl, rfl, rfl, F.kind⟩
  have S : Sta C (ecOf fd) W env s.heap ex (argSto params ds) s1.heap := {
    base := fun b o _ e => hk b o e, g0 := p.g, t0 := p.tab, tab := T1, ns := ⟨_, x1.toInCall.ns⟩, newL := hLn
    wr := fun x hx => by
      obtain ⟨h1, h2⟩ := hW x hx
      have h3 := h2 (s.heap.objs.size + 1)
      cases q : (cellsFrom (s.heap.objs.size + 1) fd.scope.names []).lookup x with
      | none => rw [q] at h3; cases h3
      | some c => exact ⟨h1, c, _, q, x1.cell x c q, habove x c (mem_of_lookup q)⟩
    apart := fun x y c e e' => apart_of x1.apart (mem_of_lookup e) (mem_of_lookup e')
    cells := fun x c e => ⟨_, x1.cell x c e⟩
    slots := fun x sl e => by
      obtain ⟨i, d', h1, h2, rfl⟩ := argSto_lookup e
      obtain ⟨v, hv, rv⟩ := r.get i d' h2
      have hm : (x, v) ∈ params.zip vs := zip_mem h1 hv
      refine ⟨v, ?_, Rep.move (fun b o hb e _ => ⟨hk _ _ e, fun m => ?_⟩) d' v rv⟩
      · rcases F.kinds x (List.mem_of_getElem? h1) with hk | ⟨hk, hc⟩
        · exact .inl ⟨hk, _, x1.toInCall.ns, bindL_at _ _ (hzn.symm ▸ F.nodup) hm hk⟩
        · have h3 := hc (s.heap.objs.size + 1)
          cases q : (cellsFrom (s.heap.objs.size + 1) fd.scope.names []).lookup x with
          | none => rw [q] at h3; cases h3
          | some c =>
            have hcl := x1.cell x c q
            rw [bindC_at _ _ (hzn.symm ▸ F.nodup) hm hk] at hcl
            exact .inr ⟨.inl hk, c, q, hcl⟩
      · rcases List.mem_cons.mp m with rfl | m
        · have : s.heap.get? s.heap.objs.size = some o := e
          rw [hLn] at this; cases this
        · rw [owns_argSto, List.nil_append] at m
          exact hb m
    nodup := by
      show (s.heap.objs.size :: (owns (argSto params ds) ++ ex)).Nodup
      rw [owns_argSto, List.nil_append]
      exact List.nodup_cons.mpr ⟨p.alive.fresh, hnd⟩
    proper := proper_of (by rw [argSto_names hl]; exact F.nodup)
    alive := fun b hb => by
      rcases List.mem_cons.mp hb with rfl | hb
      · obtain ⟨o, _, _, ho, _⟩ := x1.toInCall.ns; rw [show s1.heap.get? env.locals = some o from ho]; nofun
      · rw [owns_argSto, List.nil_append] at hb
        cases q : s.heap.get? b with
        | none => exact absurd q (p.alive b hb)
        | some o => rw [hk b o q]; nofun }
  refine h (A.deeper env) env s.heap ex s1 _ _ (p.room.deeper env) he S fun f s2 o2 ho2 hf g2 => ?_
  subst ho2
  obtain ⟨v, rfl, hb, ht, rv⟩ := hf
  refine hQ v s2 ⟨hb, fun _ => ht, ?_, fun hbare => ?_⟩ rv
  · rw [g2.os, hs1]
  · exact g2.bare (by rw [hs1]; exact hbare)

/-- a call of a def by its name -/
theorem ev_call {f : Str} {fa : Addr} {o : Obj} {fd : FuncData} {body : List Stmt} {params : List Str} {ds : List D} {d : D} {p pos : Pos} {args : List Expr} (F : DefOK C fa o fd body params) (hf : Fn C k (.ref fa) ds d) (hk : ec.kind f = some .globalImplicit) (hm : C.mg f = some (.ref fa)) (h1 : (f == ("__debug__" : Str)) = false)
    (ha : Evs C k ec σ args ds) (hse : ∀ env, ∃ x rest, backTo pos (starEach args env) = (false, x) :: rest) : Ev C k ec σ (.Call (.Name f p) args [] pos) d := by
  intro A W env h₀ ex s Q E hr he S hQ
  refine wpAny_Call_NameR (ev_glob hk hm h1 _ _ _ _ _ _ _ _ hr he S fun v s1 g1 r1 => ?_)
  simp only [Rep] at r1
  subst r1
  have S1 := S.go g1
  have hsp := ha A W env h₀ ex s1 pos (fun vs s2 => (s2.heap.get? fa = some o ∧ o.data = .func fd) ∧ wpAny (model C.prog C.w) A (call (.ref fa) vs) Q E s2) E hr he S1 fun vs s2 g2 r2 => ?_
  · obtain ⟨x, rest, e⟩ := hse env
    rw [e] at hsp ⊢
    exact callWith_function (o := o) (fd := fd) (evalArgs_plain (wpAny_mono hsp (fun vs s2 h2 => ⟨h2.1, by simpa using h2.2⟩) fun _ _ e => e))
  · have S2 := S1.go g2
    refine ⟨⟨S2.g.kin _ _ F.at_, F.data⟩, hf _ _ _ _ _ _ (S2.pre hr) S2.nodup r2 fun r s3 g3 r3 => hQ _ _ ((g1.trans g2).trans g3) r3⟩
end Mine
namespace Mine
open PySem PySem.W PyProof.Rows PySem.Calls PySem.Spec

/-- the bodies and the scopes of the given defs, taken out of the given program -/
def topAt (i : Nat) : Stmt := (PySem.Challenge.pw_ij0073_01.main.body[i]?).getD (.Pass ⟨0, 0, 0, 0⟩)
def bodyOf : Stmt → List Stmt
  | .FunctionDef _ _ b _ _ _ _ _ _ _ => b
  | .ClassDef _ _ _ b _ _ _ _ _ _ _ => b
  | _ => []
def scopeOf : Stmt → Scope
  | .FunctionDef _ _ _ _ _ _ s _ _ _ => s
  | _ => { kind := .function, names := [], isGenerator := false, isCoroutine := false }
def inClass (i j : Nat) : Stmt := ((bodyOf (topAt i))[j]?).getD (.Pass ⟨0, 0, 0, 0⟩)
abbrev stats_body : List Stmt := bodyOf (topAt 3)
abbrev stats_scope : Scope := scopeOf (topAt 3)
abbrev callers_body : List Stmt := bodyOf (topAt 4)
abbrev callers_scope : Scope := scopeOf (topAt 4)
abbrev diff_body : List Stmt := bodyOf (topAt 9)
abbrev diff_scope : Scope := scopeOf (topAt 9)
abbrev vector_body : List Stmt := bodyOf (topAt 11)
abbrev vector_scope : Scope := scopeOf (topAt 11)
abbrev entry_body : List Stmt := bodyOf (topAt 12)
abbrev entry_scope : Scope := scopeOf (topAt 12)
abbrev together_body : List Stmt := bodyOf (topAt 13)
abbrev together_scope : Scope := scopeOf (topAt 13)
abbrev orders_body : List Stmt := bodyOf (topAt 14)
abbrev orders_scope : Scope := scopeOf (topAt 14)
abbrev along_body : List Stmt := bodyOf (topAt 15)
abbrev along_scope : Scope := scopeOf (topAt 15)
abbrev greatest_body : List Stmt := bodyOf (topAt 16)
abbrev greatest_scope : Scope := scopeOf (topAt 16)
abbrev rings_body : List Stmt := bodyOf (topAt 17)
abbrev rings_scope : Scope := scopeOf (topAt 17)
abbrev above_body : List Stmt := bodyOf (topAt 18)
abbrev above_scope : Scope := scopeOf (topAt 18)
abbrev sign_body : List Stmt := bodyOf (topAt 19)
abbrev sign_scope : Scope := scopeOf (topAt 19)
abbrev whole_body : List Stmt := bodyOf (topAt 20)
abbrev whole_scope : Scope := scopeOf (topAt 20)
abbrev rows_body : List Stmt := bodyOf (topAt 21)
abbrev rows_scope : Scope := scopeOf (topAt 21)
abbrev law_body : List Stmt := bodyOf (topAt 22)
abbrev law_scope : Scope := scopeOf (topAt 22)
abbrev init_body : List Stmt := bodyOf (inClass 2 1)
abbrev init_scope : Scope := scopeOf (inClass 2 1)
abbrev compare_body : List Stmt := bodyOf (inClass 2 2)
abbrev compare_scope : Scope := scopeOf (inClass 2 2)
abbrev get_body : List Stmt := bodyOf (inClass 6 1)
abbrev get_scope : Scope := scopeOf (inClass 6 1)
abbrev new_body : List Stmt := bodyOf (inClass 7 4)
abbrev new_scope : Scope := scopeOf (inClass 7 4)

/-- a def that stands where the program's name says -/
structure DefAt (C : Cfg) (name : Str) (body : List Stmt) (scope : Scope) (params : List Str) where
  fa : Addr
  o : Obj
  fd : FuncData
  ok : DefOK C fa o fd body params
  sc : fd.scope = scope
  mg : C.mg name = some (.ref fa)

variable {C : Cfg} {k : Nat} {ec : EC} {σ : Sto} {W W' : List Str}
theorem fn_at {name : Str} {body : List Stmt} {scope : Scope} {params : List Str} {ds : List D} {d : D} (F : DefAt C name body scope params) (hl : params.length = ds.length)
    (hW : ∀ x ∈ W, scope.names.lookup x = some .cell ∧ ∀ n, ((cellsFrom n scope.names []).lookup x).isSome = true)
    (h : ∀ code qual, Xs C k ⟨scope, code, qual⟩ W (argSto params ds) body fun o => o = .ret d) : Fn C (k + 1) (.ref F.fa) ds d := by
  obtain ⟨fa, o, fd, ok, sc, mg⟩ := F
  subst sc
  exact fn_def ok hl hW (h _ _)
theorem ev_at {name : Str} {body : List Stmt} {scope : Scope} {params : List Str} {ds : List D} {d : D} {p pos : Pos} {args : List Expr} (F : DefAt C name body scope params) (hf : Fn C k (.ref F.fa) ds d) (hk : ec.kind name = some .globalImplicit) (h1 : (name == ("__debug__" : Str)) = false)
    (ha : Evs C k ec σ args ds) (hse : ∀ env, ∃ x rest, backTo pos (starEach args env) = (false, x) :: rest) : Ev C k ec σ (.Call (.Name name p) args [] pos) d :=
  ev_call F.ok hf hk F.mg h1 ha hse
end Mine
namespace Mine
open PySem PySem.W PyProof.Rows PySem.Calls PySem.Spec
variable {C : Cfg} {k : Nat} {ec : EC} {σ : Sto} {W W' : List Str}

theorem pylong_small {a b : Int} (h : b.natAbs < 1000 := by decide) : Builtin.divisionGoesByPylong a b = false := by
  unfold Builtin.divisionGoesByPylong
  have h1 : b.natAbs.log2 < 10 := by
    by_cases h0 : b.natAbs = 0
    · rw [h0]; decide
    · exact (Nat.log2_lt h0).mpr (Nat.lt_trans h (by decide))
  have h2 : (if (b == 0) = true then 0 else b.natAbs.log2 / 30 + 1) ≤ 300 := by split <;> omega
  rw [Bool.and_eq_false_iff]
  left
  exact decide_eq_false (Nat.not_lt.mpr h2)
theorem pylong_same {a b : Int} (h : a.natAbs = b.natAbs) : Builtin.divisionGoesByPylong a b = false := by
  unfold Builtin.divisionGoesByPylong
  rw [Bool.and_eq_false_iff]
  right
  refine decide_eq_false (Nat.not_lt.mpr ?_)
  have h0 : (a == 0) = (b == 0) := by
    rw [Bool.eq_iff_iff]; simp; omega
  simp only [h0, h]
  omega


/-- the judgements, closed to the unifier -/
structure V (C : Cfg) (k : Nat) (ec : EC) (σ : Sto) (e : Expr) (d : D) : Prop where
  run : Ev C k ec σ e d
structure Vs (C : Cfg) (k : Nat) (ec : EC) (σ : Sto) (es : List Expr) (ds : List D) : Prop where
  run : Evs C k ec σ es ds
structure Tt (C : Cfg) (k : Nat) (ec : EC) (σ : Sto) (e : Expr) (b : Bool) : Prop where
  run : Tr C k ec σ e b
structure Vl (C : Cfg) (k : Nat) (ec : EC) (σ : Sto) (e : Expr) (ds : List D) : Prop where
  run : Fl C k ec σ e ds
structure Ve (C : Cfg) (k : Nat) (ec : EC) (σ : Sto) (e : Expr) (ds : List D) : Prop where
  run : El C k ec σ e ds
structure Vi (C : Cfg) (k : Nat) (ec : EC) (σ : Sto) (t e : Expr) (ds : List D) (own : Bool) : Prop where
  run : Isrc C k ec σ t e ds own true
structure Vt (C : Cfg) (k : Nat) (ec : EC) (W : List Str) (σ : Sto) (t : Expr) (d : D) (σ' : Sto) : Prop where
  run : Tg C k ec W σ t d σ'
structure St (C : Cfg) (k : Nat) (ec : EC) (W : List Str) (σ : Sto) (ss : List Stmt) (Φ : Out → Prop) : Prop where
  run : Xs C k ec W σ ss Φ
structure Fv (C : Cfg) (k : Nat) (fv : Value) (ds : List D) (d : D) : Prop where
  run : Fn C k fv ds d

/-- a store of this name is one of the frame's own -/
def okName (ec : EC) (W : List Str) (x : Str) : Bool := ec.kind x == some .local || W.contains x
theorem okName.of {x : Str} (h : okName ec W x = true) : ec.kind x = some .local ∨ x ∈ W := by
  unfold okName at h
  rw [Bool.or_eq_true] at h
  rcases h with h | h
  · exact .inl (by simpa using h)
  · exact .inr (by simpa using h)

theorem vr {x : Str} {d : D} {pos : Pos} (hx : σ.lookup x = some (.dat d) := by rfl) (h1 : (x == ("__debug__" : Str)) = false := by rfl) (h2 : (x == ("__classdict__" : Str)) = false := by rfl) : V C k ec σ (.Name x pos) d := ⟨ev_var hx h1 h2⟩
theorem vint {i : Int} {n : Nat} {pos : Pos} : V C k ec σ (.Constant (.int i) n pos) (.int i) := ⟨ev_int⟩
theorem vbool {b : Bool} {n : Nat} {pos : Pos} : V C k ec σ (.Constant (.bool b) n pos) (.bool b) := ⟨ev_bool⟩
theorem vadd {l r : Expr} {pos : Pos} {a b : Int} (h1 : V C k ec σ l (.int a)) (h2 : V C k ec σ r (.int b)) : V C k ec σ (.BinOp l .Add r pos) (.int (a + b)) := ⟨ev_bin h1.run h2.run bo_add⟩
theorem vsub {l r : Expr} {pos : Pos} {a b : Int} (h1 : V C k ec σ l (.int a)) (h2 : V C k ec σ r (.int b)) : V C k ec σ (.BinOp l .Sub r pos) (.int (a - b)) := ⟨ev_bin h1.run h2.run bo_sub⟩
theorem vmul {l r : Expr} {pos : Pos} {a b : Int} (h1 : V C k ec σ l (.int a)) (h2 : V C k ec σ r (.int b)) (h : IntMulOk a b) : V C k ec σ (.BinOp l .Mult r pos) (.int (a * b)) := ⟨ev_bin h1.run h2.run (bo_mul h)⟩
theorem vmod {l r : Expr} {pos : Pos} {a b : Int} (h1 : V C k ec σ l (.int a)) (h2 : V C k ec σ r (.int b)) (h : b ≠ 0 := by decide) : V C k ec σ (.BinOp l .Mod r pos) (.int (Int.fmod a b)) := ⟨ev_bin h1.run h2.run (bo_mod h)⟩
theorem vdiv {l r : Expr} {pos : Pos} {a b : Int} (h1 : V C k ec σ l (.int a)) (h2 : V C k ec σ r (.int b)) (h : b ≠ 0 := by decide) (h' : b.natAbs < 1000 := by decide) : V C k ec σ (.BinOp l .FloorDiv r pos) (.int (Int.fdiv a b)) := ⟨ev_bin h1.run h2.run (bo_fdiv h (pylong_small h'))⟩
theorem vdivS {l r : Expr} {pos : Pos} {a b : Int} (h1 : V C k ec σ l (.int a)) (h2 : V C k ec σ r (.int b)) (h : b ≠ 0) (h' : a.natAbs = b.natAbs) : V C k ec σ (.BinOp l .FloorDiv r pos) (.int (Int.fdiv a b)) := ⟨ev_bin h1.run h2.run (bo_fdiv h (pylong_same h'))⟩
theorem vpow {l r : Expr} {pos : Pos} {a n : Int} (h1 : V C k ec σ l (.int a)) (h2 : V C k ec σ r (.int n)) (h0 : 0 ≤ n) (hb : (Builtin.Int.intBits a : Int) * n ≤ 2 ^ 27) : V C k ec σ (.BinOp l .Pow r pos) (.int (a ^ n.toNat)) := ⟨ev_bin h1.run h2.run (bo_pow h0 hb)⟩
theorem vneg {x : Expr} {pos : Pos} {a : Int} (h : V C k ec σ x (.int a)) : V C k ec σ (.UnaryOp .USub x pos) (.int (-a)) := ⟨ev_neg h.run⟩
theorem s0 : Vs C k ec σ [] [] := ⟨evs_nil⟩
theorem s1 {e : Expr} {d : D} (h1 : V C k ec σ e d) (hs : ∀ env, starEach [e] env = (false, eval e env) :: starEach [] env := by intro _; rfl) : Vs C k ec σ [e] [d] := ⟨evs_cons h1.run evs_nil hs⟩
theorem sc {e : Expr} {es : List Expr} {d : D} {ds : List D} (h1 : V C k ec σ e d) (h2 : Vs C k ec σ es ds) (hs : ∀ env, starEach (e :: es) env = (false, eval e env) :: starEach es env := by intro _; rfl) : Vs C k ec σ (e :: es) (d :: ds) := ⟨evs_cons h1.run h2.run hs⟩
theorem vtup {es : List Expr} {ds : List D} {n : Nat} {pos : Pos} (h : Vs C k ec σ es ds) (hl : ds.length ≤ 1000 := by simp) : V C k ec σ (.Tuple es n pos) (.tup ds) := ⟨ev_tuple h.run hl⟩
theorem llist {es : List Expr} {ds : List D} {pos : Pos} (h : Vs C k ec σ es ds) (hl : ds.length ≤ 1000 := by simp) : Vl C k ec σ (.List es pos) ds := ⟨fl_list h.run hl⟩
theorem Vl.v {e : Expr} {ds : List D} (h : Vl C k ec σ e ds) : V C k ec σ e (.lst ds) := ⟨fl_ev h.run⟩
theorem V.e {e : Expr} {ds : List D} (h : V C k ec σ e (.lst ds)) : Ve C k ec σ e ds := ⟨el_ev h.run⟩
theorem Vl.e {e : Expr} {ds : List D} (h : Vl C k ec σ e ds) : Ve C k ec σ e ds := ⟨el_ev (fl_ev h.run)⟩
theorem eown {x : Str} {a : Addr} {ds : List D} {pos : Pos} (hx : σ.lookup x = some (.own a ds)) (h1 : (x == ("__debug__" : Str)) = false := by rfl) (h2 : (x == ("__classdict__" : Str)) = false := by rfl) : Ve C k ec σ (.Name x pos) ds := ⟨el_own hx h1 h2⟩
theorem vd0 {pos : Pos} : V C k ec σ (.Dict [] [] pos) .d0 := ⟨ev_d0⟩
theorem vd2 {v1 v2 : Expr} {d1 d2 : D} {n m : Nat} {p q pos : Pos} (h1 : V C k ec σ v1 d1) (h2 : V C k ec σ v2 d2) : V C k ec σ (.Dict [some (.Constant (.str "f") n p), some (.Constant (.str "g") m q)] [v1, v2] pos) (.d2 d1 d2) := ⟨ev_d2 h1.run h2.run⟩
theorem vitem {e i : Expr} {ds : List D} {n : Int} {d : D} {pos : Pos} (h1 : Ve C k ec σ e ds) (h2 : V C k ec σ i (.int n)) (h0 : 0 ≤ n) (hd : ds[n.toNat]? = some d) (hl : ds.length ≤ 2 ^ 40)
    (hs : ∀ (o : Addr) (q : Int) (u : Tok), subscripted i false (.ref o) (.int q u) = operate [.ref o, .int q u] (getItem (.ref o) (.int q u)) := by intros; with_unfolding_all rfl) : V C k ec σ (.Subscript e i pos) d := ⟨ev_item h1.run h2.run h0 hd hl hs⟩
theorem vlast {e i : Expr} {ds : List D} {d : D} {pos : Pos} (h1 : Ve C k ec σ e ds) (h2 : V C k ec σ i (.int (-1))) (hd : ds.getLast? = some d) (hl : ds.length ≤ 2 ^ 40)
    (hs : ∀ (o : Addr) (q : Int) (u : Tok), subscripted i false (.ref o) (.int q u) = operate [.ref o, .int q u] (getItem (.ref o) (.int q u)) := by intros; with_unfolding_all rfl) : V C k ec σ (.Subscript e i pos) d := by
  have hne : 0 < ds.length := by
    cases ds with
    | nil => cases hd
    | cons _ _ => simp
  refine ⟨ev_item_neg (j := ds.length - 1) h1.run h2.run (by decide) (by decide) ?_ (by rw [← hd, List.getLast?_eq_getElem?]) hs⟩
  unfold seqIndex?
  have e : (if (-1 : Int) < 0 then -1 + (ds.length : Int) else -1) = -1 + (ds.length : Int) := if_pos (by decide)
  simp only [e]
  rw [if_pos (by simp only [Bool.and_eq_true, decide_eq_true_eq]; omega)]
  congr 1
  omega
theorem vtitem {e i : Expr} {ds : List D} {n : Int} {d : D} {pos : Pos} (h1 : V C k ec σ e (.tup ds)) (h2 : V C k ec σ i (.int n)) (h0 : 0 ≤ n) (hd : ds[n.toNat]? = some d) (hl : ds.length ≤ 2 ^ 40 := by simp)
    (hs : ∀ (o : Addr) (q : Int) (u : Tok), subscripted i false (.ref o) (.int q u) = operate [.ref o, .int q u] (getItem (.ref o) (.int q u)) := by intros; with_unfolding_all rfl) : V C k ec σ (.Subscript e i pos) d := ⟨ev_titem h1.run h2.run h0 hd hl hs⟩
theorem vtupto {e i : Expr} {ds : List D} {n : Int} {p pos : Pos} (h : V C k ec σ e (.tup ds)) (hi : V C k ec σ i (.int n)) (h0 : 0 ≤ n) (hn : n < ds.length) (hl : ds.length ≤ 1000 := by simp) : V C k ec σ (.Subscript e (.Slice none (some i) none p) pos) (.tup (ds.take n.toNat)) := ⟨ev_tupto h.run hi.run h0 hn hl⟩
theorem lupto {e i : Expr} {ds : List D} {n : Int} {p pos : Pos} (h : Ve C k ec σ e ds) (hi : V C k ec σ i (.int n)) (h0 : 0 ≤ n) (hl : ds.length ≤ 1000) : Vl C k ec σ (.Subscript e (.Slice none (some i) none p) pos) (ds.take n.toNat) := ⟨fl_upto h.run hi.run h0 hl⟩
theorem lfrom {e i : Expr} {ds : List D} {n : Int} {p pos : Pos} (h : Ve C k ec σ e ds) (hi : V C k ec σ i (.int n)) (h0 : 0 ≤ n) (hl : ds.length ≤ 1000) : Vl C k ec σ (.Subscript e (.Slice (some i) none none p) pos) (ds.drop n.toNat) := ⟨fl_from h.run hi.run h0 hl⟩
theorem lcat {e f : Expr} {ds es : List D} {pos : Pos} (h : Ve C k ec σ e ds) (h' : Ve C k ec σ f es) (hl : ds.length + es.length ≤ 1000) : Vl C k ec σ (.BinOp e .Add f pos) (ds ++ es) := ⟨fl_cat h.run h'.run hl⟩

-- builtins
theorem vlen {e : Expr} {ds : List D} {p pos : Pos} (b : BN C ec "len" (.builtin "len")) (h : Ve C k ec σ e ds) (hl : ds.length ≤ 2 ^ 40) (hse : ∀ env, backTo pos (starEach [e] env) = [(false, eval e env)] := by intro _; rfl) : V C k ec σ (.Call (.Name "len" p) [e] [] pos) (.int ds.length) := ⟨ev_len b h.run hl hse⟩
theorem vsum {e : Expr} {xs : List Int} {p pos : Pos} (b : BN C ec "sum" (.builtin "sum")) (h : V C k ec σ e (.lst (xs.map .int))) (hse : ∀ env, backTo pos (starEach [e] env) = [(false, eval e env)] := by intro _; rfl) : V C k ec σ (.Call (.Name "sum" p) [e] [] pos) (.int (sumI xs)) := ⟨ev_sum b h.run hse⟩
theorem vmin {e e' : Expr} {a c : Int} {p pos : Pos} (b : BN C ec "min" (.builtin "min")) (h : V C k ec σ e (.int a)) (h' : V C k ec σ e' (.int c)) (hse : ∀ env, backTo pos (starEach [e, e'] env) = [(false, eval e env), (false, eval e' env)] := by intro _; rfl) : V C k ec σ (.Call (.Name "min" p) [e, e'] [] pos) (.int (min a c)) := ⟨ev_min b h.run h'.run hse⟩
theorem vabs {e : Expr} {a : Int} {p pos : Pos} (b : BN C ec "abs" (.builtin "abs")) (h : V C k ec σ e (.int a)) (hse : ∀ env, backTo pos (starEach [e] env) = [(false, eval e env)] := by intro _; rfl) : V C k ec σ (.Call (.Name "abs" p) [e] [] pos) (.int (if a < 0 then -a else a)) := ⟨ev_abs b h.run hse⟩
theorem llistof {e : Expr} {ds : List D} {p pos : Pos} (b : BN C ec "list" (.type "list")) (h : Ve C k ec σ e ds) (hl : ds.length ≤ 1000) (hse : ∀ env, backTo pos (starEach [e] env) = [(false, eval e env)] := by intro _; rfl) : Vl C k ec σ (.Call (.Name "list" p) [e] [] pos) ds := ⟨fl_listof b h.run hl hse⟩
theorem vbn {x : Str} {v : Value} {pos : Pos} (b : BN C ec x v) : V C k ec σ (.Name x pos) (.raw v) := ⟨ev_built b.kind b.mg b.mb b.nd⟩
theorem visi {e : Expr} {x : Str} {T : String} {d : D} {r : Bool} {p q pos : Pos} (b : BN C ec "isinstance" (.builtin "isinstance")) (h : V C k ec σ e d) (h' : BN C ec x (.type T)) (hi : isi T d = some r) (hse : ∀ env, backTo pos (starEach [e, .Name x q] env) = [(false, eval e env), (false, eval (.Name x q) env)] := by intro _; rfl) :
    V C k ec σ (.Call (.Name "isinstance" p) [e, .Name x q] [] pos) (.bool r) := ⟨ev_isi b h.run (ev_built h'.kind h'.mg h'.mb h'.nd) hi hse⟩
open Classical in
theorem vcount {o x : Expr} {ds : List D} {d : D} {n : Nat} {apos pos : Pos} (h : Ve C k ec σ o ds) (hx : V C k ec σ x d) (hs : ∀ d' ∈ ds, sim n d' d = true) (hn : n ≤ 90)
    (ha1 : ∀ env, attributeBase o (Str.ofString "count") env (eval o env) = eval o env := by intro _; rfl)
    (ha2 : ∀ env, (((backTo pos (starEach [x] env)).all fun y => !y.1) && ((backToKw pos (keywordEach [] env)).all fun y => y.1.isSome) && decide (([x].length + ([] : List Keyword).length + if ([] : List Keyword).isEmpty = true then 0 else 1) < 30)) = true := by intro _; rfl)
    (ha3 : (apos.endLine == pos.line) = true := by rfl) (ha4 : ∀ env, starEach [x] env = (false, eval x env) :: starEach [] env := by intro _; rfl) (ha5 : ∀ env, backTo pos (starEach [x] env) = [(false, eval x env)] := by intro _; rfl) :
    V C k ec σ (.Call (.Attribute o (Str.ofString "count") apos) [x] [] pos) (.int (ds.countP fun d' => decide (d' = d))) := ⟨ev_count h.run hx.run hs hn ha1 ha2 ha3 ha4 ha5⟩
theorem vditem {e : Expr} {x : Str} {xp pos : Pos} {a : Addr} {kvs : List (Str × D)} {key : Str} {d : D} (hx : σ.lookup x = some (.ownd a kvs)) (h : V C k ec σ e (.str key)) (hd : dGet kvs key = some d) (h1 : (x == ("__debug__" : Str)) = false := by rfl) (h2 : (x == ("__classdict__" : Str)) = false := by rfl)
    (hs : ∀ (o : Addr) (q : Str) (u : Tok), subscripted e false (.ref o) (.str q u) = operate [.ref o, .str q u] (getItem (.ref o) (.str q u)) := by intros; with_unfolding_all rfl) : V C k ec σ (.Subscript (.Name x xp) e pos) d := ⟨ev_ditem hx h.run hd h1 h2 hs⟩

-- tests
theorem tv {e : Expr} {b : Bool} (h : V C k ec σ e (.bool b)) (hs : ∀ env whole, PySem.isTrue e env whole = (do let v ← whole; standAt (Expr.pos e); holding [v] (truthy v)) := by intro _ _; rfl) : Tt C k ec σ e b := ⟨tr_val h.run hs⟩
theorem tnot {x : Expr} {pos : Pos} {b : Bool} (h : Tt C k ec σ x b) : Tt C k ec σ (.UnaryOp .Not x pos) (!b) := ⟨tr_not h.run⟩
theorem tor {x y : Expr} {pos : Pos} {a b : Bool} (h : Tt C k ec σ x a) (h2 : a = false → Tt C k ec σ y b) : Tt C k ec σ (.BoolOp .Or [x, y] pos) (a || b) := ⟨tr_or h.run fun e => (h2 e).run⟩
theorem tand {x y : Expr} {pos : Pos} {a b : Bool} (h : Tt C k ec σ x a) (h2 : a = true → Tt C k ec σ y b) : Tt C k ec σ (.BoolOp .And [x, y] pos) (a && b) := ⟨tr_and h.run fun e => (h2 e).run⟩
theorem vand {x y : Expr} {pos : Pos} {a b : Bool} (h : V C k ec σ x (.bool a)) (h2 : a = true → V C k ec σ y (.bool b)) : V C k ec σ (.BoolOp .And [x, y] pos) (.bool (a && b)) := ⟨ev_and h.run fun e => (h2 e).run⟩
theorem vifexp {t b o : Expr} {pos : Pos} {c : Bool} {d : D} (ht : Tt C k ec σ t c) (hb : c = true → V C k ec σ b d) (ho : c = false → V C k ec σ o d) : V C k ec σ (.IfExp t b o pos) d := ⟨ev_ifexp ht.run (fun e => (hb e).run) fun e => (ho e).run⟩
theorem vnot {x : Expr} {pos : Pos} {b : Bool} (h : Tt C k ec σ x b) (hx : Ev C k ec σ (.UnaryOp .Not x pos) (.bool (!b))) : V C k ec σ (.UnaryOp .Not x pos) (.bool (!b)) := ⟨hx⟩
structure Cc (C : Cfg) (k : Nat) (op : CmpOp) (a b : D) (d : Bool) : Prop where
  run : Co C k op a b d
theorem tcmp {l r : Expr} {op : CmpOp} {pos : Pos} {a b : D} {d : Bool} (h1 : V C k ec σ l a) (h2 : V C k ec σ r b) (h : Cc C k op a b d) (hm : behindInMarks op r = false := by rfl) : Tt C k ec σ (.Compare l [op] [r] pos) d := ⟨tr_cmp h1.run h2.run h.run hm⟩
theorem vcmp {l r : Expr} {op : CmpOp} {pos : Pos} {a b : D} {d : Bool} (h1 : V C k ec σ l a) (h2 : V C k ec σ r b) (h : Cc C k op a b d) (hm : behindInMarks op r = false := by rfl) : V C k ec σ (.Compare l [op] [r] pos) (.bool d) := ⟨ev_cmp h1.run h2.run h.run hm⟩
theorem clt {a b : Int} : Cc C k .Lt (.int a) (.int b) (decide (a < b)) := ⟨co_lt⟩
theorem cgt {a b : Int} : Cc C k .Gt (.int a) (.int b) (decide (b < a)) := ⟨co_gt⟩
theorem ceq {a b : Int} : Cc C k .Eq (.int a) (.int b) (a == b) := ⟨co_eq⟩
theorem cne {a b : Int} : Cc C k .NotEq (.int a) (.int b) (a != b) := ⟨co_ne⟩
open Classical in
theorem ceqt {n : Nat} {ds es : List D} (hs : sim (n + 1) (.tup ds) (.tup es) = true) (hn : n ≤ 90) : Cc C k .Eq (.tup ds) (.tup es) (decide (ds = es)) := ⟨co_eq_tup hs hn⟩
open Classical in
theorem cnet {n : Nat} {ds es : List D} (hs : sim (n + 1) (.tup ds) (.tup es) = true) (hn : n ≤ 90) : Cc C k .NotEq (.tup ds) (.tup es) (!decide (ds = es)) := ⟨co_ne_tup hs hn⟩
theorem ceqo {a : Addr} {es : List D} : Cc C k .Eq (.obj a) (.tup es) false := ⟨co_eq_obj⟩
open Classical in
theorem cnel {n : Nat} {ds es : List D} (hs : sim (n + 1) (.lst ds) (.lst es) = true) (hn : n ≤ 90) : Cc C k .NotEq (.lst ds) (.lst es) (!decide (ds = es)) := ⟨co_ne_lst hs hn⟩
theorem ceq0 {ds : List D} : Cc C k .Eq (.lst ds) (.lst []) ds.isEmpty := ⟨co_eq_nil⟩
theorem cne0 {ds : List D} : Cc C k .NotEq (.lst ds) (.lst []) (!ds.isEmpty) := ⟨co_ne_nil⟩
open Classical in
theorem cin {n : Nat} {d : D} {ds : List D} (hs : ∀ d' ∈ ds, sim n d' d = true) (hn : n ≤ 90) : Cc C k .In d (.lst ds) (decide (d ∈ ds)) := ⟨co_in hs hn⟩
open Classical in
theorem cnin {n : Nat} {d : D} {ds : List D} (hs : ∀ d' ∈ ds, sim n d' d = true) (hn : n ≤ 90) : Cc C k .NotIn d (.lst ds) (!decide (d ∈ ds)) := ⟨co_notin hs hn⟩
theorem ciso {a : Addr} : Cc C k .Is (.obj a) (.obj a) true := ⟨co_is_obj⟩
theorem cist {ds : List D} {b : Addr} : Cc C k .Is (.tup ds) (.obj b) false := ⟨co_is_tup⟩
theorem tinown {e : Expr} {x : Str} {xp pos : Pos} {a : Addr} {kvs : List (Str × D)} {key : Str} (hx : σ.lookup x = some (.ownd a kvs)) (h : V C k ec σ e (.str key)) (h1 : (x == ("__debug__" : Str)) = false := by rfl) (h2 : (x == ("__classdict__" : Str)) = false := by rfl) (hm : behindInMarks .In (.Name x xp) = false := by rfl) :
    Tt C k ec σ (.Compare e [.In] [.Name x xp] pos) (dGet kvs key).isSome := ⟨tr_in_own hx h.run h1 h2 hm⟩

-- statements
def Th (C : Cfg) (k : Nat) (ec : EC) (W : List Str) (rest : List Stmt) (Φ : Out → Prop) : Out → Prop
  | .next σ => St C k ec W σ rest Φ
  | o => Φ o
theorem then_of {rest : List Stmt} {Φ : Out → Prop} : ∀ o, Th C k ec W rest Φ o → Then C k ec W rest Φ o
  | .next σ, h => h.run
  | .brk σ, h => h
  | .cont σ, h => h
  | .ret d, h => h
theorem zret {e : Expr} {d : D} {pos : Pos} {rest : List Stmt} {Φ : Out → Prop} (h : V C k ec σ e d) (hΦ : Φ (.ret d)) : St C k ec W σ (.Return (some e) pos :: rest) Φ := ⟨xs_cons (x1_return h.run hΦ)⟩
theorem znil {Φ : Out → Prop} (h : Φ (.next σ)) : St C k ec W σ [] Φ := ⟨xs_nil h⟩
theorem zcont {pos : Pos} {rest : List Stmt} {Φ : Out → Prop} (h : Φ (.cont σ)) : St C k ec W σ (.Continue pos :: rest) Φ := ⟨xs_cons (x1_continue h)⟩
theorem zset {x : Str} {e : Expr} {d : D} {p pos : Pos} {rest : List Stmt} {Φ : Out → Prop} (h : V C k ec σ e d) (hr : St C k ec W (σ.set x (.dat d)) rest Φ) (hx : okName ec W x = true := by rfl) (hs : ∀ env, swapsWith e (some (.Name x p)) pos.line env = pure false := by intro _; rfl) :
    St C k ec W σ (.Assign [.Name x p] e pos :: rest) Φ := ⟨xs_cons (x1_assign h.run (okName.of hx) hs hr.run)⟩
theorem zown {x : Str} {e : Expr} {ds : List D} {p pos : Pos} {rest : List Stmt} {Φ : Out → Prop} (h : Vl C k ec σ e ds) (hr : ∀ a, St C k ec W (σ.set x (.own a ds)) rest Φ) (hx : okName ec W x = true := by rfl) (hs : ∀ env, swapsWith e (some (.Name x p)) pos.line env = pure false := by intro _; rfl) :
    St C k ec W σ (.Assign [.Name x p] e pos :: rest) Φ := ⟨xs_cons (x1_own h.run (okName.of hx) hs fun a => (hr a).run)⟩
theorem zdict {x : Str} {p dp pos : Pos} {rest : List Stmt} {Φ : Out → Prop} (hr : ∀ a, St C k ec W (σ.set x (.ownd a [])) rest Φ) (hx : okName ec W x = true := by rfl) : St C k ec W σ (.Assign [.Name x p] (.Dict [] [] dp) pos :: rest) Φ := ⟨xs_cons (x1_dict0 (okName.of hx) fun a => (hr a).run)⟩
theorem zseq {elts : List Expr} {n : Nat} {p pos : Pos} {e : Expr} {rest : List Stmt} {d : D} (qs : List (Str × Pos)) {ds : List D} {Φ : Out → Prop} (h : V C k ec σ e d) (hd : IsSeqD d ds) (hrest : St C k ec W (σ.sets (qs.map (·.1)) ds) rest Φ) (hx : (qs.all fun x => okName ec W x.1) = true := by rfl)
    (hl : qs.length = ds.length := by rfl) (hel : elts = qs.map fun q => .Name q.1 q.2 := by rfl)
    (hs : ∀ env, swapsWithSole [.Tuple elts n p] e pos.line env = pure false := by intro _; rfl) (hw : ∀ env, swappedStores [.Tuple elts n p] e env = pure none := by intro _; rfl) (he2 : ∀ env, (assignEach [.Tuple elts n p] env).map (·.2) = [assign (.Tuple elts n p) env] := by intro _; rfl) :
    St C k ec W σ (.Assign [.Tuple elts n p] e pos :: rest) Φ := ⟨xs_cons (x1_assign_seq qs h.run hd hl (fun x hx' => okName.of (List.all_eq_true.mp hx x hx')) hel hs hw he2 hrest.run)⟩
theorem zif {t : Expr} {b rest : List Stmt} {pos : Pos} {c : Bool} {Φ : Out → Prop} (h : Tt C k ec σ t c) (hb : c = true → St C k ec W σ b (Th C k ec W rest Φ)) (ho : c = false → St C k ec W σ rest Φ) : St C k ec W σ (.If t b [] pos :: rest) Φ :=
  ⟨xs_cons (x1_if h.run (fun e => (hb e).run.mono then_of) fun e => xs_nil (ho e).run)⟩
theorem zife {t : Expr} {b o rest : List Stmt} {pos : Pos} {c : Bool} {Φ : Out → Prop} (h : Tt C k ec σ t c) (hb : c = true → St C k ec W σ b (Th C k ec W rest Φ)) (ho : c = false → St C k ec W σ o (Th C k ec W rest Φ)) : St C k ec W σ (.If t b o pos :: rest) Φ :=
  ⟨xs_cons (x1_if h.run (fun e => (hb e).run.mono then_of) fun e => (ho e).run.mono then_of)⟩
theorem znorm (σ' : Sto) {ss : List Stmt} {Φ : Out → Prop} (hx : St C k ec W σ' ss Φ) (h : σ = σ' := by rfl) : St C k ec W σ ss Φ := h ▸ hx
theorem zmono {ss : List Stmt} {Φ Φ' : Out → Prop} (h : St C k ec W σ ss Φ) (i : ∀ o, Φ o → Φ' o) : St C k ec W σ ss Φ' := ⟨h.run.mono i⟩
theorem zapp {x : Str} {e : Expr} {a : Addr} {as : List D} {d : D} {xp apos cpos pos : Pos} {rest : List Stmt} {Φ : Out → Prop} (hx : σ.lookup x = some (.own a as)) (h : V C k ec σ e d) (hl : as.length ≤ 1000) (hr : St C k ec W (σ.set x (.own a (as ++ [d]))) rest Φ) (h1 : (x == ("__debug__" : Str)) = false := by rfl) (h2 : (x == ("__classdict__" : Str)) = false := by rfl)
    (ha1 : ∀ env, attributeBase (.Name x xp) (Str.ofString "append") env (eval (.Name x xp) env) = eval (.Name x xp) env := by intro _; rfl)
    (ha2 : ∀ env, (((backTo cpos (starEach [e] env)).all fun y => !y.1) && ((backToKw cpos (keywordEach [] env)).all fun y => y.1.isSome) && decide (([e].length + ([] : List Keyword).length + if ([] : List Keyword).isEmpty = true then 0 else 1) < 30)) = true := by intro _; rfl)
    (ha3 : (apos.endLine == cpos.line) = true := by rfl) (ha4 : ∀ env, backTo cpos (starEach [e] env) = [(false, eval e env)] := by intro _; rfl) (hk : ec.sc.kind = .function := by rfl) (hs : ∀ env, swapsWith (.Call (.Attribute (.Name x xp) (Str.ofString "append") apos) [e] [] cpos) none pos.line env = pure false := by intro _; rfl) :
    St C k ec W σ (.Expr (.Call (.Attribute (.Name x xp) (Str.ofString "append") apos) [e] [] cpos) pos :: rest) Φ :=
  ⟨xs_cons (x1_append hx h.run hl h1 h2 ha1 ha2 ha3 ha4 (fun env he => by unfold interactive; rw [he.sc, hk]; simp) hs hr.run)⟩
theorem zset2 {x y : Str} {e : Expr} {d : D} {p q pos : Pos} {rest : List Stmt} {Φ : Out → Prop} (h : V C k ec σ e d) (hr : St C k ec W ((σ.set x (.dat d)).set y (.dat d)) rest Φ) (hx : okName ec W x = true := by rfl) (hy : okName ec W y = true := by rfl) : St C k ec W σ (.Assign [.Name x p, .Name y q] e pos :: rest) Φ := ⟨xs_cons (x1_assign2 h.run (okName.of hx) (okName.of hy) hr.run)⟩
theorem zaug {x : Str} {e : Expr} {a b : Int} {p pos : Pos} {rest : List Stmt} {Φ : Out → Prop} (hx : σ.lookup x = some (.dat (.int a))) (h : V C k ec σ e (.int b)) (hr : St C k ec W (σ.set x (.dat (.int (a + b)))) rest Φ) (hk : ec.kind x = some .local := by rfl) : St C k ec W σ (.AugAssign (.Name x p) .Add e pos :: rest) Φ := ⟨xs_cons (x1_aug_int hx h.run hk hr.run)⟩
theorem zdset {x : Str} {i e : Expr} {a : Addr} {kvs : List (Str × D)} {key : Str} {d : D} {xp tp pos : Pos} {rest : List Stmt} {Φ : Out → Prop} (hx : σ.lookup x = some (.ownd a kvs)) (h : V C k ec σ e d) (hi : V C k ec σ i (.str key)) (hl : kvs.length ≤ 1000) (hr : St C k ec W (σ.set x (.ownd a (dSet kvs key d))) rest Φ)
    (h1 : (x == ("__debug__" : Str)) = false := by rfl) (h2 : (x == ("__classdict__" : Str)) = false := by rfl) (hs : ∀ env, swapsWith e (some (.Subscript (.Name x xp) i tp)) pos.line env = pure false := by intro _; rfl) : St C k ec W σ (.Assign [.Subscript (.Name x xp) i tp] e pos :: rest) Φ := ⟨xs_cons (x1_dset hx h.run hi.run hl h1 h2 hs hr.run)⟩
theorem zdaug {x : Str} {i e : Expr} {a : Addr} {kvs : List (Str × D)} {key : Str} {m n : Int} {xp tp pos : Pos} {rest : List Stmt} {Φ : Out → Prop} (hx : σ.lookup x = some (.ownd a kvs)) (hd : dGet kvs key = some (.int m)) (h : V C k ec σ e (.int n)) (hi : V C k ec σ i (.str key)) (hl : kvs.length ≤ 1000) (hr : St C k ec W (σ.set x (.ownd a (dSet kvs key (.int (m + n))))) rest Φ)
    (h1 : (x == ("__debug__" : Str)) = false := by rfl) (h2 : (x == ("__classdict__" : Str)) = false := by rfl) (ha : ∀ (ov iv new : Value), augStore i ov iv new = (do holding [new, ov, iv] (setItem ov iv new); release [new, ov, iv] []; pure .next) := by intros; rfl) : St C k ec W σ (.AugAssign (.Subscript (.Name x xp) i tp) .Add e pos :: rest) Φ := ⟨xs_cons (x1_daug hx hd h.run hi.run hl h1 h2 ha hr.run)⟩
theorem zlset {x : Str} {i e : Expr} {a : Addr} {as : List D} {n : Int} {d : D} {xp tp pos : Pos} {rest : List Stmt} {Φ : Out → Prop} (hx : σ.lookup x = some (.own a as)) (h : V C k ec σ e d) (hi : V C k ec σ i (.int n)) (h0 : 0 ≤ n) (hn : n < as.length) (hl : as.length ≤ 2 ^ 40) (hr : St C k ec W (σ.set x (.own a (as.set n.toNat d))) rest Φ)
    (h1 : (x == ("__debug__" : Str)) = false := by rfl) (h2 : (x == ("__classdict__" : Str)) = false := by rfl) (hs : ∀ env, swapsWith e (some (.Subscript (.Name x xp) i tp)) pos.line env = pure false := by intro _; rfl) : St C k ec W σ (.Assign [.Subscript (.Name x xp) i tp] e pos :: rest) Φ := ⟨xs_cons (x1_setitem hx h.run hi.run h0 hn hl h1 h2 hs hr.run)⟩
theorem zfreeze {x : Str} {a : Addr} {ds : List D} {ss : List Stmt} {Φ : Out → Prop} (hx : σ.lookup x = some (.own a ds)) (h : St C k ec W (σ.set x (.dat (.lst ds))) ss Φ) : St C k ec W σ ss Φ := ⟨xs_freeze hx h.run⟩
theorem zfreezeD {x : Str} {a : Addr} {kvs : List (Str × D)} {d : D} {ss : List Stmt} {Φ : Out → Prop} (hx : σ.lookup x = some (.ownd a kvs)) (hd : (kvs = [] ∧ d = .d0) ∨ ∃ f g, kvs = [(kF, f), (kG, g)] ∧ d = .d2 f g) (h : St C k ec W (σ.set x (.dat d)) ss Φ) : St C k ec W σ ss Φ := ⟨xs_freezeD hx hd h.run⟩
def LoopO (I : Nat → Sto → Prop) (i : Nat) (Φ : Out → Prop) : Out → Prop
  | .next τ | .cont τ => I (i + 1) τ
  | .brk τ => Φ (.next τ)
  | .ret d => Φ (.ret d)
theorem zfor {target iter : Expr} {body rest : List Stmt} {pos : Pos} {ds : List D} {Φ : Out → Prop} (I : Nat → Sto → Prop) (hsrc : Vi C k ec σ target iter ds false) (h0 : I 0 σ)
    (turn : ∀ i σ' d, I i σ' → ds[i]? = some d → ∃ σ'', Vt C k ec W σ' target d σ'' ∧ St C k ec W σ'' body (LoopO I i (Th C k ec W rest Φ)))
    (hend : ∀ σ', I ds.length σ' → St C k ec W σ' rest Φ) (hf : ∀ env x, foldedSetIterable iter env x = pure x := by intros; rfl) : St C k ec W σ (.For target iter body [] pos :: rest) Φ := by
  refine ⟨xs_cons (x1_for I hsrc.run h0 (fun i σ' d hI hd => ?_) (fun σ' hI => (hend σ' hI).run) hf)⟩
  obtain ⟨σ'', h1, h2⟩ := turn i σ' d hI hd
  refine ⟨σ'', h1.run, h2.run.mono fun o ho => ?_⟩
  cases o with
  | next τ => exact ho
  | cont τ => exact ho
  | brk τ => exact then_of (.next τ) ho
  | ret d => exact ho
theorem zwhile {t : Expr} {body rest : List Stmt} {pos : Pos} {Φ : Out → Prop} (I : Nat → Sto → Prop) (n : Nat) (h0 : I n σ)
    (turn : ∀ n τ, I n τ → ∃ b, Tt C k ec τ t b ∧ (b = true → St C k ec W τ body fun | .next τ' | .cont τ' => ∃ m, m < n ∧ I m τ' | .brk τ' => St C k ec W τ' rest Φ | .ret d => Φ (.ret d)) ∧ (b = false → St C k ec W τ rest Φ)) : St C k ec W σ (.While t body [] pos :: rest) Φ := by
  refine ⟨xs_cons (x1_while I n h0 fun n τ hI => ?_)⟩
  obtain ⟨b, h1, h2, h3⟩ := turn n τ hI
  refine ⟨b, h1.run, fun e => (h2 e).run.mono fun o ho => ?_, fun e => (h3 e).run⟩
  cases o with
  | next τ => exact ho
  | cont τ => exact ho
  | brk τ => exact St.run ho
  | ret d => exact ho
theorem tname {x : Str} {p : Pos} {d : D} (hx : okName ec W x = true := by rfl) : Vt C k ec W σ (.Name x p) d (σ.set x (.dat d)) := ⟨tg_name (okName.of hx)⟩
theorem tseq {elts : List Expr} {n : Nat} {p : Pos} (qs : List (Str × Pos)) {d : D} {ds : List D} (hd : IsSeqD d ds) (hl : qs.length = ds.length := by rfl) (hx : (qs.all fun x => okName ec W x.1) = true := by rfl) (hel : elts = qs.map fun q => .Name q.1 q.2 := by rfl) : Vt C k ec W σ (.Tuple elts n p) d (σ.sets (qs.map (·.1)) ds) :=
  ⟨tg_seq qs hd hl (fun x hx' => okName.of (List.all_eq_true.mp hx x hx')) hel⟩
theorem ilist {target iter : Expr} {ds : List D} (h : V C k ec σ iter (.lst ds)) (ht : TgOk target ds) : Vi C k ec σ target iter ds false := ⟨isrc_list h.run ht⟩
theorem ilistn {x : Str} {p : Pos} {iter : Expr} {ds : List D} (h : V C k ec σ iter (.lst ds)) : Vi C k ec σ (.Name x p) iter ds false := ⟨isrc_list h.run (.inl ⟨_, _, rfl⟩)⟩
theorem iown {x y : Str} {p q : Pos} {a : Addr} {ds : List D} (hx : σ.lookup x = some (.own a ds)) (h1 : (x == ("__debug__" : Str)) = false := by rfl) (h2 : (x == ("__classdict__" : Str)) = false := by rfl) : Vi C k ec σ (.Name y q) (.Name x p) ds true := ⟨isrc_own hx h1 h2 (.inl ⟨_, _, rfl⟩)⟩
theorem irange1 {e : Expr} {N : Int} {x : Str} {p rp rpos : Pos} (b : BN C ec "range" (.type "range")) (h : V C k ec σ e (.int N)) (h1 : 0 ≤ N) (h2 : N < 2 ^ 62)
    (hse : ∀ env, backTo rpos (starEach [e] env) = [(false, eval e env)] := by intro _; rfl) : Vi C k ec σ (.Name x p) (.Call (.Name "range" rp) [e] [] rpos) (rangeD 0 N.toNat) false := ⟨isrc_range1 h.run h1 h2 b.kind b.mg b.mb hse⟩
theorem irange2 {e f : Expr} {M N : Int} {x : Str} {p rp rpos : Pos} (b : BN C ec "range" (.type "range")) (h : V C k ec σ e (.int M)) (h' : V C k ec σ f (.int N)) (h0 : 0 ≤ M) (h1 : M < 2 ^ 62) (h2 : 0 ≤ N) (h3 : N < 2 ^ 62)
    (hse : ∀ env, backTo rpos (starEach [e, f] env) = [(false, eval e env), (false, eval f env)] := by intro _; rfl) : Vi C k ec σ (.Name x p) (.Call (.Name "range" rp) [e, f] [] rpos) (rangeD M (N - M).toNat) false := ⟨isrc_range2 h.run h'.run h0 h1 h2 h3 b.kind b.mg b.mb hse⟩

theorem fv_at {name : Str} {body : List Stmt} {scope : Scope} {params : List Str} {ds : List D} {d : D} (F : DefAt C name body scope params) (hl : params.length = ds.length)
    (h : ∀ code qual, St C k ⟨scope, code, qual⟩ W (argSto params ds) body fun o => o = .ret d)
    (hW : ∀ x ∈ W, scope.names.lookup x = some .cell ∧ ∀ n, ((cellsFrom n scope.names []).lookup x).isSome = true) : Fv C (k + 1) (.ref F.fa) ds d := ⟨fn_at F hl hW fun c q => (h c q).run⟩
theorem vcall {name : Str} {body : List Stmt} {scope : Scope} {params : List Str} {ds : List D} {d : D} {p pos : Pos} {args : List Expr} (F : DefAt C name body scope params) (hf : Fv C k (.ref F.fa) ds d) (ha : Vs C k ec σ args ds) (hk : ec.kind name = some .globalImplicit := by rfl) (h1 : (name == ("__debug__" : Str)) = false := by rfl)
    (hse : ∀ env, ∃ x rest, backTo pos (starEach args env) = (false, x) :: rest := by intro _; exact ⟨_, _, rfl⟩) : V C k ec σ (.Call (.Name name p) args [] pos) d := ⟨ev_at F hf.run hk h1 ha.run hse⟩
theorem Fv.mono {fv : Value} {ds : List D} {d : D} {k' : Nat} (h : Fv C k fv ds d) (hk : k ≤ k') : Fv C k' fv ds d := ⟨fun A ex s vs Q E p => h.run A ex s vs Q E ⟨p.room.mono hk, p.g, p.tab, p.alive⟩⟩
end Mine
namespace Mine
open PySem PySem.W PyProof.Rows PySem.Calls PySem.Spec
variable {C : Cfg} {k : Nat} {ec : EC} {σ : Sto} {W W' : List Str}

def vecD (a b c : Int) : D := .lst [.int a, .int b, .int c]
def entN (a b c : Int) : D := .tup [.int a, .int b, .int c, .int (a + 2 * b - c), .d2 (.int (a - b)) (.int (b + 2 * c))]
def entW (a b c : Int) : D := .tup [.int a, .int b, .int c, .int (a + 2 * b - c), .d2 (.tup [.int a, .int b, .int c, .int (a - b)]) (.tup [.int c, .int (a - c), .int b, .int (b + c)])]
def entD (w : Bool) (a b c : Int) : D := if w then entW a b c else entN a b c
theorem mul2 {b : Int} : IntMulOk 2 b := .of_left (by decide)
theorem z_vector {code : Value} {qual : Str} {x : Int} : St C k ⟨vector_scope, code, qual⟩ W (argSto ["x"] [.int x]) vector_body fun o => o = .ret (vecD (Int.fmod (x + 1) 3 - 1) (Int.fmod (Int.fdiv x 3 + 1) 3 - 1) (Int.fdiv x 9)) :=
  zret (llist (sc (vsub (vmod (vadd vr vint) vint) vint) (sc (vsub (vmod (vadd (vdiv vr vint) vint) vint) vint) (s1 (vdiv vr vint))))).v rfl
theorem z_entry {code : Value} {qual : Str} {a b c : Int} {w : Bool} : St C k ⟨entry_scope, code, qual⟩ W (argSto ["vector", "wide"] [vecD a b c, .bool w]) entry_body fun o => o = .ret (entD w a b c) := by
  refine zseq [("a", _), ("b", _), ("c", _)] vr (.inr rfl) (znorm [("c", .dat (.int c)), ("b", .dat (.int b)), ("a", .dat (.int a)), ("vector", .dat (vecD a b c)), ("wide", .dat (.bool w))] (zif (tv vr) (fun e => ?_) fun e => ?_))
  · subst e
    exact zret (vtup (sc vr (sc vr (sc vr (sc (vsub (vadd vr (vmul vint vr mul2)) vr) (s1 (vd2 (vtup (sc vr (sc vr (sc vr (s1 (vsub vr vr)))))) (vtup (sc vr (sc (vsub vr vr) (sc vr (s1 (vadd vr vr))))))))))))) rfl
  · subst e
    exact zret (vtup (sc vr (sc vr (sc vr (sc (vsub (vadd vr (vmul vint vr mul2)) vr) (s1 (vd2 (vsub vr vr) (vadd vr (vmul vint vr mul2))))))))) rfl
end Mine
namespace Mine
open PySem PySem.W PyProof.Rows PySem.Calls PySem.Spec
variable {C : Cfg} {k : Nat} {ec : EC} {σ : Sto} {W W' : List Str}

def capsIn : List (Str × D) → Sto → Prop
  | [], _ => True
  | (x, d) :: r, σ => σ.lookup x = some (.dat d) ∧ capsIn r σ
theorem capsIn_iff : ∀ {cs : List (Str × D)} {σ : Sto}, capsIn cs σ ↔ ∀ p ∈ cs, σ.lookup p.1 = some (.dat p.2)
  | [], σ => by simp [capsIn]
  | (x, d) :: r, σ => by simp [capsIn, capsIn_iff (cs := r)]
def isCell (k : NameKind) : Bool := k == .cell
def dup : List Str → Bool
  | [] => false
  | x :: r => r.contains x || dup r
theorem nodup_of : ∀ {l : List Str}, dup l = false → l.Nodup
  | [], _ => List.nodup_nil
  | x :: r, h => by
    unfold dup at h
    rw [Bool.or_eq_false_iff] at h
    exact List.nodup_cons.mpr ⟨by simpa using h.1, nodup_of h.2⟩
def capB (ec : EC) (scope : Scope) (ns : List Str) (W' : List Str) : Bool :=
  scope.kind == .function && (((scope.names.filter fun x => x.2 == .cell).map (·.1)) == W' && (decide (W'.length ≤ 1) && ((W'.all fun x => (ec.comp scope).kind x == some .cell) &&
    ((scope.names.all fun x => x.2 != .local || scope.names.lookup x.1 == some .local) && ((scope.names.all fun x => x.2 != .free || ns.contains x.1) &&
    ((ns.all fun n => (ec.kind n == some .cell || ec.kind n == some .free) && (scope.names.contains (n, .free) && (((ec.comp scope).kind n == some .cell || (ec.comp scope).kind n == some .free) && !W'.contains n))) && !dup (accN :: ns)))))))
theorem own_of : ∀ {l : List (Str × NameKind)} {W' : List Str}, (l.filter fun x => x.2 == .cell).map (·.1) = W' → W'.length ≤ 1 → (W' = [] ∧ ∀ x ∈ l, x.2 ≠ .cell) ∨ ∃ x l1 l2, W' = [x] ∧ l = l1 ++ (x, .cell) :: l2 ∧ (∀ y ∈ l1, y.2 ≠ .cell) ∧ (∀ y ∈ l2, y.2 ≠ .cell)
  | [], _, h, _ => .inl ⟨h ▸ rfl, by simp⟩
  | (n, kd) :: r, W', h, hl => by
    by_cases hk : kd = .cell
    · subst hk
      rw [List.filter_cons_of_pos (by simp), List.map_cons] at h
      subst h
      have h0 : (r.filter fun x => x.2 == .cell) = [] := by
        have : ((r.filter fun x => x.2 == .cell).map (·.1)).length = 0 := by simp only [List.length_cons] at hl; omega
        exact List.length_eq_zero_iff.mp (by rw [List.length_map] at this; exact this)
      refine .inr ⟨n, [], r, by rw [h0]; rfl, rfl, by simp, fun y hy e => ?_⟩
      have : y ∈ r.filter fun x => x.2 == .cell := List.mem_filter.mpr ⟨hy, by simp [e]⟩
      rw [h0] at this; cases this
    · rw [List.filter_cons_of_neg (by simpa using hk)] at h
      rcases own_of (l := r) h hl with ⟨h1, h2⟩ | ⟨x, l1, l2, h1, h2, h3, h4⟩
      · refine .inl ⟨h1, fun x hx => ?_⟩
        rcases List.mem_cons.mp hx with rfl | hx
        · exact hk
        · exact h2 x hx
      · refine .inr ⟨x, (n, kd) :: l1, l2, h1, by rw [h2]; rfl, fun y hy => ?_, h4⟩
        rcases List.mem_cons.mp hy with rfl | hy
        · exact hk
        · exact h3 y hy
theorem CapOK.of {scope : Scope} {cs : List (Str × D)} (h : capB ec scope (cs.map (·.1)) W' = true) (ho : capsIn cs σ) : CapOK ec scope σ cs W' := by
  unfold capB at h
  simp only [Bool.and_eq_true] at h
  obtain ⟨h1, h2, h3, h4, h5, h6, h7, h8⟩ := h
  have ho' := capsIn_iff.mp ho
  have h7' : ∀ p ∈ cs, (ec.kind p.1 = some .cell ∨ ec.kind p.1 = some .free) ∧ (p.1, NameKind.free) ∈ scope.names ∧ ((ec.comp scope).kind p.1 = some .cell ∨ (ec.comp scope).kind p.1 = some .free) ∧ p.1 ∉ W' := fun p hp => by
    have := List.all_eq_true.mp h7 p.1 (List.mem_map.mpr ⟨p, hp, rfl⟩)
    simp only [Bool.and_eq_true, Bool.or_eq_true, beq_iff_eq, List.contains_iff_mem, Bool.not_eq_true', ← Bool.not_eq_true] at this
    exact this
  exact {
    kind := by simpa using h1
    own := own_of (by simpa using h2) (by simpa using h3)
    ownk := fun x hx => by simpa using List.all_eq_true.mp h4 x hx
    names := fun x hx hl => by
      have := List.all_eq_true.mp h5 x hx
      simpa [hl] using this
    free := fun x hx hl => by
      have := List.all_eq_true.mp h6 x hx
      simpa [hl] using this
    out := fun p hp => ⟨ho' p hp, (h7' p hp).1⟩
    inn := fun p hp => (h7' p hp).2
    nodup := nodup_of (by simpa using h8) }

theorem nmem {x : Str} {l : List Str} (h : l.contains x = false) : x ∉ l := fun m => by
  have : l.contains x = true := List.contains_iff_mem.mpr m
  rw [h] at this; cases this
theorem lmap {elt iter : Expr} {scope : Scope} {cpos : Pos} {ds : List D} {own : Bool} {x : Str} {p : Pos} (cs : List (Str × D)) (W' : List Str) (f : D → D) (hsrc : Vi C k ec σ (.Name x p) iter ds own) (ho : capsIn cs σ)
    (h : ∀ d ∈ ds, ∀ τ : Sto, τ.lookup x = some (.dat d) → capsIn cs τ → V C k (ec.comp scope) τ elt (f d)) (hl : ds.length ≤ 1000) (hc : capB ec scope (cs.map (·.1)) W' = true := by rfl) (hx : okName (ec.comp scope) W' x = true := by rfl) (hxn : (accN :: cs.map (·.1)).contains x = false := by rfl)
    (hf : ∀ env v, foldedSetIterable iter env v = pure v := by intros; rfl) : Vl C k ec σ (.ListComp elt [⟨.Name x p, iter, [], 0⟩] scope cpos) (ds.map f) :=
  ⟨fl_map (CapOK.of hc ho) hsrc.run hf (okName.of hx) (nmem hxn) (fun d hd τ h1 h2 => (h d hd τ h1 (capsIn_iff.mpr h2)).run) hl⟩
theorem zmap {elt iter : Expr} {scope : Scope} {cpos : Pos} {ds : List D} {own : Bool} {x y : Str} {p yp pos : Pos} {rest : List Stmt} {Φ : Out → Prop} (cs : List (Str × D)) (W' : List Str) (f : D → D) (hsrc : Vi C k ec σ (.Name x p) iter ds own) (ho : capsIn cs σ)
    (h : ∀ d ∈ ds, ∀ τ : Sto, τ.lookup x = some (.dat d) → capsIn cs τ → V C k (ec.comp scope) τ elt (f d)) (hl : ds.length ≤ 1000) (hr : St C k ec W (σ.set y (.dat (.lst (ds.map f)))) rest Φ) (hsw : ∀ env, EnvOK ec env → swapsWith (.ListComp elt [⟨.Name x p, iter, [], 0⟩] scope cpos) (some (.Name y yp)) pos.line env = pure true)
    (hc : capB ec scope (cs.map (·.1)) W' = true := by rfl) (hx : okName (ec.comp scope) W' x = true := by rfl) (hxn : (accN :: cs.map (·.1)).contains x = false := by rfl) (hy : okName ec W y = true := by rfl)
    (hf : ∀ env v, foldedSetIterable iter env v = pure v := by intros; rfl) : St C k ec W σ (.Assign [.Name y yp] (.ListComp elt [⟨.Name x p, iter, [], 0⟩] scope cpos) pos :: rest) Φ :=
  ⟨xs_cons (x1_assign_map (CapOK.of hc ho) hsrc.run hf (okName.of hx) (nmem hxn) (fun d hd τ h1 h2 => (h d hd τ h1 (capsIn_iff.mpr h2)).run) hl (okName.of hy) hsw hr.run)⟩
theorem lfilt {t elt iter : Expr} {scope : Scope} {cpos : Pos} {ds : List D} {own : Bool} {x : Str} {p : Pos} (cs : List (Str × D)) (W' : List Str) (q : D → Bool) (f : D → D) (hsrc : Vi C k ec σ (.Name x p) iter ds own) (ho : capsIn cs σ)
    (h : ∀ d ∈ ds, ∀ τ : Sto, τ.lookup x = some (.dat d) → capsIn cs τ → Tt C k (ec.comp scope) τ t (q d) ∧ (q d = true → V C k (ec.comp scope) τ elt (f d))) (hl : ds.length ≤ 1000) (hc : capB ec scope (cs.map (·.1)) W' = true := by rfl) (hx : okName (ec.comp scope) W' x = true := by rfl) (hxn : (accN :: cs.map (·.1)).contains x = false := by rfl)
    (hf : ∀ env v, foldedSetIterable iter env v = pure v := by intros; rfl) : Vl C k ec σ (.ListComp elt [⟨.Name x p, iter, [t], 0⟩] scope cpos) ((ds.filter q).map f) :=
  ⟨fl_filt (CapOK.of hc ho) hsrc.run hf (okName.of hx) (nmem hxn) (fun d hd τ h1 h2 => ⟨(h d hd τ h1 (capsIn_iff.mpr h2)).1.run, fun e => ((h d hd τ h1 (capsIn_iff.mpr h2)).2 e).run⟩) hl⟩

/-- the coordinates of a vector -/
structure V3 where
  x : Int
  y : Int
  z : Int
def V3.d (v : V3) : D := vecD v.x v.y v.z
def V3.sum (vs : List V3) : V3 := ⟨sumI (vs.map (·.x)), sumI (vs.map (·.y)), sumI (vs.map (·.z))⟩
def V3.at (v : V3) (c : Int) : Int := if c = 0 then v.x else if c = 1 then v.y else v.z
theorem z_together {code : Value} {qual : Str} {vs : List V3} (hl : vs.length ≤ 100) (br : BN C ⟨together_scope, code, qual⟩ "range" (.type "range")) (bs : ∀ ec : EC, ec.kind "sum" = some .globalImplicit → BN C ec "sum" (.builtin "sum")) :
    St C k ⟨together_scope, code, qual⟩ W (argSto ["vectors"] [.lst (vs.map V3.d)]) together_body fun o => o = .ret (V3.sum vs).d := by
  refine zret (d := .lst ((rangeD 0 3).map fun d => match d with | .int c => .int (sumI (vs.map fun v => v.at c)) | _ => d)) (lmap [("vectors", .lst (vs.map V3.d))] ["c"] _ (irange1 br vint (by decide) (by decide)) ⟨rfl, trivial⟩ (fun d hd τ h1 h2 => ?_) (by decide)).v ?_
  · obtain ⟨c, rfl, hc0, hc3⟩ : ∃ c : Int, d = .int c ∧ 0 ≤ c ∧ c < 3 := by
      obtain ⟨i, hi⟩ := List.mem_iff_getElem?.mp hd
      obtain ⟨h1, rfl⟩ := rangeD_get hi
      exact ⟨_, rfl, by omega, by omega⟩
    refine vsum (bs _ rfl) ?_
    have e : (vs.map fun v => v.at c).map D.int = (vs.map V3.d).map fun d => match d with | .lst l => l[c.toNat]?.getD .d0 | _ => .d0 := by
      rw [List.map_map, List.map_map]
      refine List.map_congr_left fun v _ => ?_
      have : c = 0 ∨ c = 1 ∨ c = 2 := by omega
      rcases this with rfl | rfl | rfl <;> rfl
    rw [e]
    refine (lmap [("c", .int c)] [] _ (ilistn (vr h2.1)) ⟨h1, trivial⟩ (fun d hd τ h1 h2 => ?_) (by simp; omega)).v
    obtain ⟨v, _, rfl⟩ := List.mem_map.mp hd
    refine vitem (n := c) (vr h1).e (vr h2.1) hc0 ?_ (by simp)
    have : c = 0 ∨ c = 1 ∨ c = 2 := by omega
    rcases this with rfl | rfl | rfl <;> rfl
  · show Out.ret _ = Out.ret _
    rfl
end Mine
namespace Mine
open PySem PySem.W PyProof.Rows PySem.Calls PySem.Spec
variable {C : Cfg} {k : Nat} {ec : EC} {σ : Sto} {W W' : List Str}

theorem turn_nest {elt i1 i2 : Expr} {scope : Scope} {cpos : Pos} {ds : List D} {cs : List (Str × D)} {x y : Str} {p q : Pos} {D₁ : Addr} {as : List D} {σ' : Sto} {d : D} {ds2 : D → List D} {f : D → D → D} (hc : CapOK ec scope σ cs W') (hx : (ec.comp scope).kind x = some .local ∨ x ∈ W') (hxn : x ∉ accN :: cs.map (·.1)) (hy : (ec.comp scope).kind y = some .local ∨ y ∈ W') (hyn : y ∉ accN :: cs.map (·.1)) (hxy : x ≠ y)
    (hsrc2 : ∀ d ∈ ds, ∀ τ : Sto, τ.lookup x = some (.dat d) → capsIn cs τ → Vi C k (ec.comp scope) τ (.Name y q) i2 (ds2 d) false)
    (h : ∀ d ∈ ds, ∀ e ∈ ds2 d, ∀ τ : Sto, τ.lookup x = some (.dat d) → τ.lookup y = some (.dat e) → capsIn cs τ → V C k (ec.comp scope) τ elt (f d e)) (hl : (ds.flatMap fun d => (ds2 d).map (f d)).length ≤ 1000) (hf : ∀ env v, foldedSetIterable i2 env v = pure v)
    (hca : CA cs D₁ as σ') (hd : d ∈ ds) (hle : (as ++ (ds2 d).map (f d)).length ≤ (ds.flatMap fun d => (ds2 d).map (f d)).length) :
    ∃ σ'', Tg C k (ec.comp scope) W' σ' (.Name x p) d σ'' ∧ Bk C k (ec.comp scope) W' σ'' (nestB elt (.Name x p) i1 (.Name y q) i2 scope cpos) D₁ (CA cs D₁ (as ++ (ds2 d).map (f d))) := by
  have h1 : CA cs D₁ as (σ'.set x (.dat d)) := hca.set hxn
  refine ⟨_, tg_name hx, bk_nest (fun j τ => τ.lookup x = some (.dat d) ∧ CA cs D₁ (as ++ ((ds2 d).take j).map (f d)) τ) (hsrc2 d hd _ lookup_set_self (capsIn_iff.mpr h1.cap)).run hf ⟨lookup_set_self, by simpa using h1⟩ (fun i τ e hI he => ?_) fun τ hI => ?_⟩
  · have hei : i < (ds2 d).length := by
      rcases Nat.lt_or_ge i (ds2 d).length with q | q
      · exact q
      · rw [List.getElem?_eq_none q] at he; cases he
    have h2 : CA cs D₁ (as ++ ((ds2 d).take i).map (f d)) (τ.set y (.dat e)) := hI.2.set hyn
    have h3 : (τ.set y (.dat e)).lookup x = some (.dat d) := (lookup_set_ne hxy).trans hI.1
    refine ⟨_, tg_name hy, bk_one (h d hd e (List.mem_of_getElem? he) _ h3 lookup_set_self (capsIn_iff.mpr h2.cap)).run h2.acc ?_ ⟨?_, ?_⟩⟩
    · rw [List.length_append, List.length_map, List.length_take] at *
      omega
    · exact (lookup_set_ne fun e : x = accN => hxn (by rw [e]; exact .head _)).trans h3
    · have := h2.put (bs := as ++ ((ds2 d).take (i + 1)).map (f d)) hc.nodup
      rw [List.take_add_one, he] at this
      rw [List.take_add_one, he]
      simpa using this
  · have := hI.2
    rwa [List.take_length] at this
theorem znest {elt i1 i2 : Expr} {scope : Scope} {cpos : Pos} {ds : List D} {own : Bool} {x y z : Str} {p q zp pos : Pos} {rest : List Stmt} {Φ : Out → Prop} (cs : List (Str × D)) (W' : List Str) (ds2 : D → List D) (f : D → D → D) (hsrc : Vi C k ec σ (.Name x p) i1 ds own) (ho : capsIn cs σ)
    (hsrc2 : ∀ d ∈ ds, ∀ τ : Sto, τ.lookup x = some (.dat d) → capsIn cs τ → Vi C k (ec.comp scope) τ (.Name y q) i2 (ds2 d) false)
    (h : ∀ d ∈ ds, ∀ e ∈ ds2 d, ∀ τ : Sto, τ.lookup x = some (.dat d) → τ.lookup y = some (.dat e) → capsIn cs τ → V C k (ec.comp scope) τ elt (f d e)) (hl : (ds.flatMap fun d => (ds2 d).map (f d)).length ≤ 1000)
    (hr : St C k ec W (σ.set z (.dat (.lst (ds.flatMap fun d => (ds2 d).map (f d))))) rest Φ) (hsw : ∀ env, EnvOK ec env → swapsWith (.ListComp elt [⟨.Name x p, i1, [], 0⟩, ⟨.Name y q, i2, [], 0⟩] scope cpos) (some (.Name z zp)) pos.line env = pure true)
    (hc : capB ec scope (cs.map (·.1)) W' = true := by rfl) (hx : okName (ec.comp scope) W' x = true := by rfl) (hxn : (accN :: cs.map (·.1)).contains x = false := by rfl) (hy : okName (ec.comp scope) W' y = true := by rfl) (hyn : (accN :: cs.map (·.1)).contains y = false := by rfl) (hxy : (x == y) = false := by rfl) (hz : okName ec W z = true := by rfl)
    (hf : ∀ env v, foldedSetIterable i1 env v = pure v := by intros; rfl) (hf2 : ∀ env v, foldedSetIterable i2 env v = pure v := by intros; rfl) : St C k ec W σ (.Assign [.Name z zp] (.ListComp elt [⟨.Name x p, i1, [], 0⟩, ⟨.Name y q, i2, [], 0⟩] scope cpos) pos :: rest) Φ :=
  ⟨xs_cons (x1_assign_comp (out := fun d => (ds2 d).map (f d)) (B := nestB elt (.Name x p) i1 (.Name y q) i2 scope cpos) (ip := i1.pos) (CapOK.of hc ho) hsrc.run hf (fun _ _ _ => rfl)
    (fun D₁ as σ' d hca hd hle => turn_nest (CapOK.of hc ho) (okName.of hx) (nmem hxn) (okName.of hy) (nmem hyn) (by simpa using hxy) hsrc2 h hl hf2 hca hd hle) (okName.of hz) hsw hr.run)⟩

/-- a name holds a datum -/
abbrev At (τ : Sto) (x : Str) (d : D) : Prop := τ.lookup x = some (.dat d)
def ordD (o : List Int) : D := .lst (o.map .int)
def ins (k : Nat) (o : List Int) : List (List Int) := (List.range (k + 1)).map fun i => o.take i ++ [(k : Int)] ++ o.drop i
def ords : Nat → List (List Int)
  | 0 => [[]]
  | k + 1 => (ords k).flatMap (ins k)
theorem ords_len : ∀ n o, o ∈ ords n → o.length = n
  | 0, o, h => by simp [ords] at h; subst h; rfl
  | n + 1, o, h => by
    simp only [ords, List.mem_flatMap, ins, List.mem_map] at h
    obtain ⟨o', h1, i, hi, rfl⟩ := h
    have := ords_len n o' h1
    rw [List.mem_range] at hi
    simp [List.length_append, List.length_take, List.length_drop]
    omega
theorem ords_step (i : Nat) : (((ords i).map ordD).flatMap fun d => (rangeD 0 (i + 1)).map fun e => match d, e with | .lst o, .int j => .lst (o.take j.toNat ++ [.int i] ++ o.drop j.toNat) | _, _ => d) = (ords (i + 1)).map ordD := by
  rw [List.flatMap_map]
  show _ = ((ords i).flatMap (ins i)).map ordD
  rw [List.map_flatMap]
  congr 1
  funext o
  simp only [ins, rangeD, List.map_map]
  refine List.map_congr_left fun j _ => ?_
  simp [ordD, List.map_append, List.map_take, List.map_drop]
theorem z_orders {code : Value} {qual : Str} {n : Nat} (hn : n ≤ 4) (br : ∀ ec : EC, ec.kind "range" = some .globalImplicit → BN C ec "range" (.type "range")) :
    St C k ⟨orders_scope, code, qual⟩ ["k"] (argSto ["n"] [.int n]) orders_body fun o => o = .ret (.lst ((ords n).map ordD)) := by
  refine zset (d := .lst [.lst []]) (llist (s1 (llist s0).v)).v ?_
  refine zfor (fun i τ => At τ "orders" (.lst ((ords i).map ordD))) (irange1 (N := n) (br _ rfl) vr (by omega) (by omega)) rfl (fun i τ d hI hd => ⟨_, tname, ?_⟩) fun τ hI => zret (vr hI) ?_
  · obtain ⟨hi, rfl⟩ := rangeD_get hd
    have hi' : i < n := by simpa using hi
    have h1 : At (τ.set "k" (.dat (.int (0 + (i : Int))))) "orders" (.lst ((ords i).map ordD)) := (lookup_set_ne (by decide)).trans hI
    rw [Int.zero_add] at *
    refine znest [("k", .int i)] [] (fun _ => rangeD 0 (i + 1)) (fun d e => match d, e with | .lst o, .int j => .lst (o.take j.toNat ++ [.int i] ++ o.drop j.toNat) | _, _ => d) (ilistn (vr h1)) ⟨lookup_set_self, trivial⟩ (fun d hd τ hx hcap => ?_) (fun d hd e he τ hx hy hcap => ?_) ?_ (znil ?_) (fun env he => by cases env; cases he.sc; rfl)
    · have e : ((i : Int) + 1).toNat = i + 1 := by omega
      rw [← e]
      exact irange1 (br _ rfl) (vadd (vr hcap.1) vint) (by omega) (by omega)
    · obtain ⟨o, ho, rfl⟩ := List.mem_map.mp hd
      obtain ⟨j, hj⟩ := List.mem_iff_getElem?.mp he
      obtain ⟨hj1, rfl⟩ := rangeD_get hj
      have hlo := ords_len i o ho
      exact (lcat (lcat (lupto (vr hx).e (vr hy) (by omega) (by simp; omega)).e (llist (s1 (vr hcap.1))).e (by simp; omega)).e (lfrom (vr hx).e (vr hy) (by omega) (by simp; omega)).e (by simp; omega)).v
    · have e := ords_step i
      have h4 : (ords (i + 1)).length ≤ 24 := by
        have : i = 0 ∨ i = 1 ∨ i = 2 ∨ i = 3 := by omega
        rcases this with rfl | rfl | rfl | rfl <;> decide
      rw [e, List.length_map]
      omega
    · show At _ "orders" _
      rw [← ords_step i]
      exact lookup_set_self
  · rw [rangeD_len]; rfl
end Mine
namespace Mine
open PySem PySem.W PyProof.Rows PySem.Calls PySem.Spec
/-! zip over two tuples: the road of zip over two lists, turned to tuples -/
section
variable {prog : Program} {w : World} {A : Around} {E : Value → Shared → Prop} {s : Shared}
theorem nextOf_tup_item {it l : Addr} {i : Nat} {items} {x : Value} {Q : Value → Shared → Prop} (hit : s.heap.IsTupleIter it l i)
    (hl : s.heap.IsTuple l items) (hx : items[i]? = some x)
    (hQ : ∀ h', h'.IsTupleIter it l (i + 1) → Heap.SameBut it s.heap h' → Q x { s with heap := h' }) :
    wpAny (model prog w) A (Builtin.SmallTypes.nextOf (.ref it)) Q E s := by
  obtain ⟨o, ho, hc, hd⟩ := id hit
  obtain ⟨ol, hol, _, nl, hdl⟩ := hl
  unfold Builtin.SmallTypes.nextOf
  refine wpAny_bind (wpAny_callSpecial?_slot (name := Str.ofString "__next__") hit.typeIs PySem.F.slot_tuple_iterator_next
    (wpAny_call_entry PySem.F.slot_tuple_iterator_next hit.typeIs PySem.F.entry_tuple_iterator_next ?_ (PySem.F.args_tuple_iterator_next_1 _)))
  show wpAny _ _ (field (.ref it) 0 >>= _) _ _ s
  refine wpAny_bind (wpAny_field ho hd (x := .ref l) rfl ?_)
  show wpAny _ _ (if (Value.ref l == Value.none) = true then _ else _) _ _ s
  rw [if_neg (show ¬ ((Value.ref l == Value.none) = true) from Bool.false_ne_true)]
  show wpAny _ _ (field (.ref it) 1 >>= _) _ _ s
  refine wpAny_bind (wpAny_field ho hd (x := .int i 0) rfl ?_)
  show wpAny _ _ (seqItems? (.ref l) >>= _) _ _ s
  refine wpAny_bind (wpAny_seqItems hol hdl ?_)
  simp only [Int.toNat_natCast, hx]
  refine wpAny_bind (wpAny_setField ho hd (by simp) (wpAny_pure ⟨x, rfl, wpAny_pure (hQ _ ?_ (Heap.SameBut.update ..))⟩))
  exact ⟨_, Heap.get?_update_self _ ho (Obj.isFreed_of_fields (Obj.data_mapFields hd _)), (Obj.cls_mapFields ..).trans hc, by
    rw [Obj.data_mapFields hd]; simp [rawInt]⟩

theorem nextOf_tup_end {it l : Addr} {i : Nat} {items} {Q : Value → Shared → Prop} (hh : A.handled = none)
    (hit : s.heap.IsTupleIter it l i) (hl : s.heap.IsTuple l items) (hx : items[i]? = none)
    (hE : ∀ h' e, Heap.ExtBut it s.heap h' → (∃ o, h'.get? e = some o ∧ o.cls = .type "StopIteration") → E (.ref e) { s with heap := h' }) :
    wpAny (model prog w) A (Builtin.SmallTypes.nextOf (.ref it)) Q E s := by
  obtain ⟨o, ho, hc, hd⟩ := id hit
  obtain ⟨ol, hol, _, nl, hdl⟩ := hl
  unfold Builtin.SmallTypes.nextOf
  refine wpAny_bind (wpAny_callSpecial?_slot (name := Str.ofString "__next__") hit.typeIs PySem.F.slot_tuple_iterator_next
    (wpAny_call_entry PySem.F.slot_tuple_iterator_next hit.typeIs PySem.F.entry_tuple_iterator_next ?_ (PySem.F.args_tuple_iterator_next_1 _)))
  show wpAny _ _ (field (.ref it) 0 >>= _) _ _ s
  refine wpAny_bind (wpAny_field ho hd (x := .ref l) rfl ?_)
  show wpAny _ _ (if (Value.ref l == Value.none) = true then _ else _) _ _ s
  rw [if_neg (show ¬ ((Value.ref l == Value.none) = true) from Bool.false_ne_true)]
  show wpAny _ _ (field (.ref it) 1 >>= _) _ _ s
  refine wpAny_bind (wpAny_field ho hd (x := .int i 0) rfl ?_)
  show wpAny _ _ (seqItems? (.ref l) >>= _) _ _ s
  refine wpAny_bind (wpAny_seqItems hol hdl ?_)
  simp only [Int.toNat_natCast, hx]
  refine wpAny_bind (wpAny_rule (wpAny_bind (wpAny_setField ho hd (by simp) ?_)))
  show wpAny _ _ (newExc (.type "StopIteration") [] >>= _) _ _ _
  refine wpAny_bind ?_
  simp only [newExc, newTuple]
  refine wpAny_bind (wpAny_newObj_type ?_ (by size_fits))
  refine wpAny_bind (m := firstArgMember _ _) (wpAny_of_eq (a := Value.none) (by first | rfl | (simp only [firstArgMember]; rfl)) ?_)
  refine wpAny_newObj_type ?_ (by size_fits)
  simp only [raiseNew]
  refine wpAny_bind (wpAny_handled ?_)
  first | rw [show A.in1.handled = none from hh] | rw [hh]
  refine wpAny_bind (wpAny_pure (wpAny_throw ?_))
  exact hE _ _ (((Heap.SameBut.update ..).extBut.push _).push _) ⟨_, Heap.get?_push_size _ rfl, rfl⟩

theorem zt_item {z TI TO i1 i2 l1 l2 : Addr} {k1 k2 : Nat} {xs ys : Array Value} {x y a b : Value} {Q : Value → Shared → Prop} (D : ZipApart z TI TO i1 i2 l1 l2)
    (hz : IsZip s.heap z TI TO .none) (hTI : IsPair s.heap TI (.ref i1) (.ref i2)) (hTO : IsPair s.heap TO a b)
    (h1 : s.heap.IsTupleIter i1 l1 k1) (h2 : s.heap.IsTupleIter i2 l2 k2) (hl1 : s.heap.IsTuple l1 xs) (hl2 : s.heap.IsTuple l2 ys) (hx : xs[k1]? = some x) (hy : ys[k2]? = some y)
    (hQ : ∀ h', IsZip h' z TI TO (rawInt s.heap.objs.size) → IsPair h' TO x y → h'.IsTupleIter i1 l1 (k1 + 1) → h'.IsTupleIter i2 l2 (k2 + 1) → IsPair h' s.heap.objs.size x y → h'.objs.size = s.heap.objs.size + 1 →
      (∀ c o, c ≠ z → c ≠ TO → c ≠ i1 → c ≠ i2 → s.heap.get? c = some o → h'.get? c = some o) → Q (.ref s.heap.objs.size) { s with heap := h' }) :
    wpAny (model prog w) A (Builtin.«zip.__next__» ⟨[.ref z], []⟩) (fun fin s' => ∃ v, fin = .done (.ret v) ∧ Q v s') E s := by
  show wpAny _ _ (field (.ref z) 2 >>= _) _ _ _
  refine wpAny_bind (wpAny_field hz rfl (x := .bool false) rfl ?_)
  show wpAny _ _ (field (.ref z) 3 >>= _) _ _ _
  refine wpAny_bind (wpAny_field hz rfl (x := .ref TI) rfl ?_)
  refine wpAny_bind (wpAny_seqItems hTI rfl ?_)
  show wpAny _ _ (Builtin.SmallTypes.ownedTupleIsFree (.ref z) >>= _) _ _ _
  refine wpAny_bind ?_
  unfold Builtin.SmallTypes.ownedTupleIsFree
  refine wpAny_bind (wpAny_field hz rfl (x := .none) rfl (wpAny_pure ?_))
  simp only [if_true]
  refine wpAny_bind (wpAny_rule ?_)
  refine wpAny_bind (wpAny_field hz rfl (x := .ref TO) rfl ?_)
  refine wpAny_bind (wpAny_setField_rec hz (by simp) fun h₁ hz₁ hs₁ => ?_)
  replace hz₁ : IsZip h₁ z TI TO .ellipsis := hz₁
  refine wpAny_bind ?_
  simp only [List.zipIdx_cons, List.zipIdx_nil, List.forIn_cons, List.forIn_nil]

  refine wpAny_bind (wpAny_bind (wpAny_onRaise ?_))
  show wpAny _ _ (Builtin.SmallTypes.nextOf (.ref i1) >>= _) _ _ _
  refine wpAny_bind (nextOf_tup_item (h1.extBut hs₁.extBut D.i1z) (hl1.extBut hs₁.extBut D.l1z) hx fun h₂ h1₂ hs₂ => wpAny_pure ?_)
  have hTO₂ : IsPair h₂ TO a b := hs₂.extBut _ _ D.TOi1 (hs₁.extBut _ _ D.TOz hTO)
  refine wpAny_bind (wpAny_seqItems hTO₂ rfl ?_)
  refine wpAny_bind (wpAny_updateSeq_pair hTO₂ fun h₃ hTO₃ hs₃ => ?_)
  replace hTO₃ : IsPair h₃ TO x b := hTO₃
  refine wpAny_bind (wpAny_letGo (wpAny_pure ?_))

  refine wpAny_bind (wpAny_bind (wpAny_onRaise ?_))
  show wpAny _ _ (Builtin.SmallTypes.nextOf (.ref i2) >>= _) _ _ _
  refine wpAny_bind (nextOf_tup_item (((h2.extBut hs₁.extBut D.i2z).extBut hs₂.extBut D.i12.symm).extBut hs₃.extBut D.TOi2.symm)
    (((hl2.extBut hs₁.extBut D.l2z).extBut hs₂.extBut D.l2i1).extBut hs₃.extBut D.l2TO) hy fun h₄ h2₄ hs₄ => wpAny_pure ?_)
  have hTO₄ : IsPair h₄ TO x b := hs₄.extBut _ _ D.TOi2 hTO₃
  refine wpAny_bind (wpAny_seqItems hTO₄ rfl ?_)
  refine wpAny_bind (wpAny_updateSeq_pair hTO₄ fun h₅ hTO₅ hs₅ => ?_)
  replace hTO₅ : IsPair h₅ TO x y := hTO₅
  refine wpAny_bind (wpAny_letGo (wpAny_pure (wpAny_pure ?_)))

  refine wpAny_bind (wpAny_seqItems hTO₅ rfl ?_)
  refine wpAny_bind (wpAny_newTuple ?_)
  have hsz : h₅.objs.size = s.heap.objs.size := by rw [hs₅.1, hs₄.1, hs₃.1, hs₂.1, hs₁.1]
  have hz₅ : IsZip h₅ z TI TO .ellipsis := hs₅.extBut _ _ D.TOz.symm (hs₄.extBut _ _ D.i2z.symm (hs₃.extBut _ _ D.TOz.symm (hs₂.extBut _ _ D.i1z.symm hz₁)))
  have hk₅ : ∀ c o, c ≠ z → c ≠ TO → c ≠ i1 → c ≠ i2 → s.heap.get? c = some o → h₅.get? c = some o := fun c o c1 c2 c3 c4 e =>
    hs₅.extBut _ _ c2 (hs₄.extBut _ _ c4 (hs₃.extBut _ _ c2 (hs₂.extBut _ _ c3 (hs₁.extBut _ _ c1 e))))
  have h1₅ : h₅.IsTupleIter i1 l1 (k1 + 1) := ((h1₂.extBut hs₃.extBut D.TOi1.symm).extBut hs₄.extBut D.i12).extBut hs₅.extBut D.TOi1.symm
  have h2₅ : h₅.IsTupleIter i2 l2 (k2 + 1) := h2₄.extBut hs₅.extBut D.TOi2.symm
  have hzlt : z < h₅.objs.size := Heap.lt_size hz₅
  have hTOlt : TO < h₅.objs.size := Heap.lt_size hTO₅
  have hi1lt : i1 < h₅.objs.size := by obtain ⟨_, e, _⟩ := h1₅; exact Heap.lt_size e
  have hi2lt : i2 < h₅.objs.size := by obtain ⟨_, e, _⟩ := h2₅; exact Heap.lt_size e
  show wpAny _ _ (Builtin.SmallTypes.ownedTupleHandOut (.ref z) (.ref h₅.objs.size) >>= _) _ _ _
  refine wpAny_bind ?_
  unfold Builtin.SmallTypes.ownedTupleHandOut
  have hz₆ : IsZip (h₅.push { cls := .type "tuple", data := .seq #[x, y] }) z TI TO .ellipsis := Heap.get?_push_of_some _ hz₅
  refine wpAny_bind (wpAny_setField_rec hz₆ (by simp) fun h₇ hz₇ hs₇ => ?_)
  replace hz₇ : IsZip h₇ z TI TO (rawInt h₅.objs.size) := hz₇
  refine wpAny_setField_rec hz₇ (by simp) fun h₈ hz₈ hs₈ => ?_
  replace hz₈ : IsZip h₈ z TI TO (rawInt h₅.objs.size) := hz₈
  have up : ∀ c o, c ≠ z → h₅.get? c = some o → h₈.get? c = some o := fun c o c1 e => hs₈.extBut _ _ c1 (hs₇.extBut _ _ c1 (Heap.get?_push_of_some _ e))
  have hT₈ : IsPair h₈ h₅.objs.size x y := hs₈.extBut _ _ (Nat.ne_of_gt hzlt) (hs₇.extBut _ _ (Nat.ne_of_gt hzlt) (Heap.get?_push_size _ rfl))
  have hz8 : h₈.objs.size = h₅.objs.size + 1 := by rw [hs₈.1, hs₇.1, Heap.size_push]
  rw [hsz] at hz₈ hT₈ hz8
  refine wpAny_pure ⟨_, rfl, ?_⟩
  show Q (.ref h₅.objs.size) _
  rw [hsz]
  exact hQ h₈ hz₈ (up _ _ D.TOz hTO₅) (h1₅.at fun o e => up _ o D.i1z e) (h2₅.at fun o e => up _ o D.i2z e) hT₈ hz8 fun c o c1 c2 c3 c4 e => up c o c1 (hk₅ c o c1 c2 c3 c4 e)

theorem zt_end {z TI TO i1 i2 l1 l2 : Addr} {k1 k2 : Nat} {xs ys : Array Value} {a b : Value} {Q : Fin → Shared → Prop} (hh : A.handled = none) (D : ZipApart z TI TO i1 i2 l1 l2)
    (hz : IsZip s.heap z TI TO .none) (hTI : IsPair s.heap TI (.ref i1) (.ref i2)) (hTO : IsPair s.heap TO a b)
    (h1 : s.heap.IsTupleIter i1 l1 k1) (h2 : s.heap.IsTupleIter i2 l2 k2) (hl1 : s.heap.IsTuple l1 xs) (hl2 : s.heap.IsTuple l2 ys) (hend : xs[k1]? = none ∨ ys[k2]? = none)
    (hE : ∀ h' e, (∀ c o, c ≠ z → c ≠ TO → c ≠ i1 → c ≠ i2 → s.heap.get? c = some o → h'.get? c = some o) → (∃ o, h'.get? e = some o ∧ o.cls = .type "StopIteration") → E (.ref e) { s with heap := h' }) :
    wpAny (model prog w) A (Builtin.«zip.__next__» ⟨[.ref z], []⟩) Q E s := by
  show wpAny _ _ (field (.ref z) 2 >>= _) _ _ _
  refine wpAny_bind (wpAny_field hz rfl (x := .bool false) rfl ?_)
  show wpAny _ _ (field (.ref z) 3 >>= _) _ _ _
  refine wpAny_bind (wpAny_field hz rfl (x := .ref TI) rfl ?_)
  refine wpAny_bind (wpAny_seqItems hTI rfl ?_)
  show wpAny _ _ (Builtin.SmallTypes.ownedTupleIsFree (.ref z) >>= _) _ _ _
  refine wpAny_bind ?_
  unfold Builtin.SmallTypes.ownedTupleIsFree
  refine wpAny_bind (wpAny_field hz rfl (x := .none) rfl (wpAny_pure ?_))
  simp only [if_true]
  refine wpAny_bind (wpAny_rule ?_)
  refine wpAny_bind (wpAny_field hz rfl (x := .ref TO) rfl ?_)
  refine wpAny_bind (wpAny_setField_rec hz (by simp) fun h₁ hz₁ hs₁ => ?_)
  replace hz₁ : IsZip h₁ z TI TO .ellipsis := hz₁
  refine wpAny_bind ?_
  simp only [List.zipIdx_cons, List.zipIdx_nil, List.forIn_cons, List.forIn_nil]
  refine wpAny_bind (wpAny_bind (wpAny_onRaise ?_))
  show wpAny _ _ (Builtin.SmallTypes.nextOf (.ref i1) >>= _) _ _ _
  cases hx : xs[k1]? with
  | none =>
    refine wpAny_bind (nextOf_tup_end hh (h1.extBut hs₁.extBut D.i1z) (hl1.extBut hs₁.extBut D.l1z) hx fun h₂ e hs₂ he => ?_)
    obtain ⟨oe, hoe, hce⟩ := he
    have hz₂ : IsZip h₂ z TI TO .ellipsis := hs₂ _ _ D.i1z.symm hz₁
    have hez : e ≠ z := fun x => by subst x; rw [hz₂] at hoe; cases hoe; simp at hce
    refine wpAny_setField_rec hz₂ (by simp) fun h₃ _ hs₃ => hE h₃ e (fun c o c1 _ c3 _ x => hs₃.extBut _ _ c1 (hs₂ _ _ c3 (hs₁.extBut _ _ c1 x))) ⟨oe, hs₃.extBut _ _ hez hoe, hce⟩
  | some x =>
    have hy : ys[k2]? = none := by rcases hend with h | h; rw [hx] at h; cases h; exact h
    refine wpAny_bind (nextOf_tup_item (h1.extBut hs₁.extBut D.i1z) (hl1.extBut hs₁.extBut D.l1z) hx fun h₂ h1₂ hs₂ => wpAny_pure ?_)
    have hTO₂ : IsPair h₂ TO a b := hs₂.extBut _ _ D.TOi1 (hs₁.extBut _ _ D.TOz hTO)
    refine wpAny_bind (wpAny_seqItems hTO₂ rfl ?_)
    refine wpAny_bind (wpAny_updateSeq_pair hTO₂ fun h₃ hTO₃ hs₃ => ?_)
    refine wpAny_bind (wpAny_letGo (wpAny_pure ?_))
    refine wpAny_bind (wpAny_bind (wpAny_onRaise ?_))
    show wpAny _ _ (Builtin.SmallTypes.nextOf (.ref i2) >>= _) _ _ _
    refine wpAny_bind (nextOf_tup_end hh (((h2.extBut hs₁.extBut D.i2z).extBut hs₂.extBut D.i12.symm).extBut hs₃.extBut D.TOi2.symm)
      (((hl2.extBut hs₁.extBut D.l2z).extBut hs₂.extBut D.l2i1).extBut hs₃.extBut D.l2TO) hy fun h₄ e hs₄ he => ?_)
    obtain ⟨oe, hoe, hce⟩ := he
    have hz₄ : IsZip h₄ z TI TO .ellipsis := hs₄ _ _ D.i2z.symm (hs₃.extBut _ _ D.TOz.symm (hs₂.extBut _ _ D.i1z.symm hz₁))
    have hez : e ≠ z := fun x => by subst x; rw [hz₄] at hoe; cases hoe; simp at hce
    refine wpAny_setField_rec hz₄ (by simp) fun h₅ _ hs₅ => hE h₅ e (fun c o c1 c2 c3 c4 x => hs₅.extBut _ _ c1 (hs₄ _ _ c4 (hs₃.extBut _ _ c2 (hs₂.extBut _ _ c3 (hs₁.extBut _ _ c1 x))))) ⟨oe, hs₅.extBut _ _ hez hoe, hce⟩

theorem zt_pyNext_item {z TI TO i1 i2 l1 l2 : Addr} {k1 k2 : Nat} {xs ys : Array Value} {x y a b : Value} {Q : Option Value → Shared → Prop} (D : ZipApart z TI TO i1 i2 l1 l2)
    (hz : IsZip s.heap z TI TO .none) (hTI : IsPair s.heap TI (.ref i1) (.ref i2)) (hTO : IsPair s.heap TO a b)
    (h1 : s.heap.IsTupleIter i1 l1 k1) (h2 : s.heap.IsTupleIter i2 l2 k2) (hl1 : s.heap.IsTuple l1 xs) (hl2 : s.heap.IsTuple l2 ys) (hx : xs[k1]? = some x) (hy : ys[k2]? = some y)
    (hQ : ∀ h', IsZip h' z TI TO (rawInt s.heap.objs.size) → IsPair h' TO x y → h'.IsTupleIter i1 l1 (k1 + 1) → h'.IsTupleIter i2 l2 (k2 + 1) → IsPair h' s.heap.objs.size x y → h'.objs.size = s.heap.objs.size + 1 →
      (∀ c o, c ≠ z → c ≠ TO → c ≠ i1 → c ≠ i2 → s.heap.get? c = some o → h'.get? c = some o) → Q (some (.ref s.heap.objs.size)) { s with heap := h' }) :
    wpAny (model prog w) A (pyNext (.ref z)) Q E s := by
  have hT : s.TypeIs (.ref z) "zip" := ⟨_, hz, rfl⟩
  unfold pyNext
  exact wpAny_bind (wpAny_attempt (wpAny_callSpecial?_slot (name := Str.ofString "__next__") hT PySem.F.slot_zip_next
    (wpAny_call_entry PySem.F.slot_zip_next hT PySem.F.entry_zip_next
      (zt_item D hz hTI hTO h1 h2 hl1 hl2 hx hy fun h' a1 a2 a3 a4 a5 a6 a7 => wpAny_pure (hQ h' a1 a2 a3 a4 a5 a6 a7)) (PySem.F.args_zip_next_1 _))))

theorem zt_pyNext_end {z TI TO i1 i2 l1 l2 : Addr} {k1 k2 : Nat} {xs ys : Array Value} {a b : Value} {Q : Option Value → Shared → Prop} (hh : A.handled = none) (D : ZipApart z TI TO i1 i2 l1 l2)
    (hz : IsZip s.heap z TI TO .none) (hTI : IsPair s.heap TI (.ref i1) (.ref i2)) (hTO : IsPair s.heap TO a b)
    (h1 : s.heap.IsTupleIter i1 l1 k1) (h2 : s.heap.IsTupleIter i2 l2 k2) (hl1 : s.heap.IsTuple l1 xs) (hl2 : s.heap.IsTuple l2 ys) (hend : xs[k1]? = none ∨ ys[k2]? = none)
    (hQ : ∀ h', (∀ c o, c ≠ z → c ≠ TO → c ≠ i1 → c ≠ i2 → s.heap.get? c = some o → h'.get? c = some o) → Q none { s with heap := h' }) : wpAny (model prog w) A (pyNext (.ref z)) Q E s := by
  have hT : s.TypeIs (.ref z) "zip" := ⟨_, hz, rfl⟩
  unfold pyNext
  refine wpAny_bind (wpAny_attempt (wpAny_callSpecial?_slot (name := Str.ofString "__next__") hT PySem.F.slot_zip_next
    (wpAny_call_entry PySem.F.slot_zip_next hT PySem.F.entry_zip_next (zt_end hh D hz hTI hTO h1 h2 hl1 hl2 hend fun h' e hk he => ?_) (PySem.F.args_zip_next_1 _))))
  obtain ⟨o, ho, hc⟩ := he
  refine wpAny_bind (wpAny_isInstance (T := "StopIteration") (b := true) ⟨o, ho, hc⟩ isSubtype_stop ?_)
  exact wpAny_pure (hQ _ hk)

end
abbrev ztH1 (h : Heap) (l1 : Addr) : Heap := h.push { cls := .type "tuple_iterator", data := .fields #[.ref l1, .int 0 0] }
abbrev ztH2 (h : Heap) (l1 l2 : Addr) : Heap := (ztH1 h l1).push { cls := .type "tuple_iterator", data := .fields #[.ref l2, .int 0 0] }
abbrev ztH3 (h : Heap) (l1 l2 : Addr) : Heap := (ztH2 h l1 l2).push { cls := .type "tuple", data := .seq #[.ref h.objs.size, .ref (ztH1 h l1).objs.size] }
abbrev ztH4 (h : Heap) (l1 l2 : Addr) : Heap := (ztH3 h l1 l2).push { cls := .type "tuple", data := .seq #[.none, .none] }
abbrev ztH5 (h : Heap) (l1 l2 : Addr) : Heap := (ztH4 h l1 l2).push { cls := .type "zip", data := .fields #[.none, .bool false, .bool false, .ref (ztH2 h l1 l2).objs.size, .ref (ztH3 h l1 l2).objs.size] }

theorem meets_zt_new (l1 l2 : Addr) (xs ys : Array Value) :
    Meets (Builtin.«zip.__new__» ⟨[.type "zip", .ref l1, .ref l2], []⟩) (fun _ R s => s.heap.IsTuple l1 xs ∧ s.heap.IsTuple l2 ys ∧
      R (.ok (.ret (.ref (ztH4 s.heap l1 l2).objs.size))) { s with heap := ztH5 s.heap l1 l2 }) :=
  .of_wp fun prog w A R s h => by
    obtain ⟨hp, g, d, tk, os⟩ := s; obtain ⟨hl1, hl2, h⟩ := h
    have hsub := sub_zip
    have hL1 : Heap.IsTuple (Shared.heap ⟨hp, g, d, tk, os⟩) l1 xs := hl1
    have hL2 : Heap.IsTuple (Shared.heap ⟨hp.push { cls := .type "tuple_iterator", data := .fields #[.ref l1, .int 0 0] }, g, d, tk, os⟩) l2 ys := Heap.IsTuple.push hl2 _
    wp_walk using wpAny_pyIter_tuple hL1, wpAny_pyIter_tuple hL2
    exact ⟨_, rfl, h⟩

section
variable {prog : Program} {w : World} {A : Around} {E : Value → Shared → Prop} {s : Shared}
theorem call_zt {l1 l2 : Addr} {xs ys : Array Value} {Q : Value → Shared → Prop} (hl1 : s.heap.IsTuple l1 xs) (hl2 : s.heap.IsTuple l2 ys)
    (h : ∀ h', IsZip h' (s.heap.objs.size + 4) (s.heap.objs.size + 2) (s.heap.objs.size + 3) .none → IsPair h' (s.heap.objs.size + 2) (.ref s.heap.objs.size) (.ref (s.heap.objs.size + 1)) →
      IsPair h' (s.heap.objs.size + 3) .none .none → h'.IsTupleIter s.heap.objs.size l1 0 → h'.IsTupleIter (s.heap.objs.size + 1) l2 0 → h'.objs.size = s.heap.objs.size + 5 →
      (∀ c o, s.heap.get? c = some o → h'.get? c = some o) → Q (.ref (s.heap.objs.size + 4)) { s with heap := h' }) :
    wpAny (model prog w) A (call (.type "zip") [.ref l1, .ref l2]) Q E s := by
  refine callType_new PySem.F.called_zip (by decide) (PySem.F.typeCall_zip_2 _ _) (PySem.F.newCall_zip_2 _ _) (fun obj => PySem.F.args_object_init_3 obj _ _) PySem.F.entry_zip_new
    (meets_zt_new l1 l2 xs ys) ⟨hl1, hl2, ?_⟩
  have z1 : (ztH1 s.heap l1).objs.size = s.heap.objs.size + 1 := Heap.size_push ..
  have z2 : (ztH2 s.heap l1 l2).objs.size = s.heap.objs.size + 2 := by rw [Heap.size_push, z1]
  have z3 : (ztH3 s.heap l1 l2).objs.size = s.heap.objs.size + 3 := by rw [Heap.size_push, z2]
  have z4 : (ztH4 s.heap l1 l2).objs.size = s.heap.objs.size + 4 := by rw [Heap.size_push, z3]
  have z5 : (ztH5 s.heap l1 l2).objs.size = s.heap.objs.size + 5 := by rw [Heap.size_push, z4]
  have g5 : (ztH5 s.heap l1 l2).get? (ztH4 s.heap l1 l2).objs.size = some _ := Heap.get?_push_size _ rfl
  have g4 : (ztH5 s.heap l1 l2).get? (ztH3 s.heap l1 l2).objs.size = some _ := Heap.get?_push_of_some _ (Heap.get?_push_size _ rfl)
  have g3 : (ztH5 s.heap l1 l2).get? (ztH2 s.heap l1 l2).objs.size = some _ := Heap.get?_push_of_some _ (Heap.get?_push_of_some _ (Heap.get?_push_size _ rfl))
  have g2 : (ztH5 s.heap l1 l2).get? (ztH1 s.heap l1).objs.size = some _ := Heap.get?_push_of_some _ (Heap.get?_push_of_some _ (Heap.get?_push_of_some _ (Heap.get?_push_size _ rfl)))
  have g1 : (ztH5 s.heap l1 l2).get? s.heap.objs.size = some _ := Heap.get?_push_of_some _ (Heap.get?_push_of_some _ (Heap.get?_push_of_some _ (Heap.get?_push_of_some _ (Heap.get?_push_size _ rfl))))
  show _ ∧ _
  rw [z2, z3, z4] at g5
  rw [z1, z2] at g3
  rw [z3] at g4
  rw [z1] at g2
  rw [z4]
  exact ⟨⟨_, g5, rfl⟩, h _ g5 g3 g4 ⟨_, g1, rfl, rfl⟩ ⟨_, g2, rfl, rfl⟩ z5 fun c o x =>
    Heap.get?_push_of_some _ (Heap.get?_push_of_some _ (Heap.get?_push_of_some _ (Heap.get?_push_of_some _ (Heap.get?_push_of_some _ x))))⟩

theorem walks_zt (hh : A.handled = none) (z TI TO i1 i2 l1 l2 : Addr) (D : ZipApart z TI TO i1 i2 l1 l2) (xs ys : Array Value) :
    WalksT prog w A z [z, TI, TO, i1, i2, l1, l2] [z, TO, i1, i2] (min xs.size ys.size)
      (fun i vals => ∃ x y, xs[i]? = some x ∧ ys[i]? = some y ∧ vals = #[x, y])
      (fun i h => IsZip h z TI TO .none ∧ IsPair h TI (.ref i1) (.ref i2) ∧ (∃ a b, IsPair h TO a b) ∧ h.IsTupleIter i1 l1 i ∧ h.IsTupleIter i2 l2 i ∧ h.IsTuple l1 xs ∧ h.IsTuple l2 ys)
      (fun i T h => IsZip h z TI TO (rawInt T) ∧ IsPair h TI (.ref i1) (.ref i2) ∧ (∃ a b, IsPair h TO a b) ∧ h.IsTupleIter i1 l1 (i + 1) ∧ h.IsTupleIter i2 l2 (i + 1) ∧ h.IsTuple l1 xs ∧ h.IsTuple l2 ys ∧
        T ≠ z ∧ T ≠ TO ∧ T ≠ i1 ∧ T ≠ i2) where
  sub := fun c hc => by simp at hc ⊢; rcases hc with rfl | rfl | rfl | rfl <;> simp
  frame := fun i h h' hst hk => by
    obtain ⟨hz, hTI, ⟨a, b, hTO⟩, h1, h2, hl1, hl2⟩ := hst
    exact ⟨hk z (by simp) _ hz, hk TI (by simp) _ hTI, ⟨a, b, hk TO (by simp) _ hTO⟩, h1.at fun o e => hk i1 (by simp) o e, h2.at fun o e => hk i2 (by simp) o e,
      hl1.at fun o e => hk l1 (by simp) o e, hl2.at fun o e => hk l2 (by simp) o e⟩
  item := fun i s Q E hi hst hQ => by
    obtain ⟨hz, hTI, ⟨a, b, hTO⟩, h1, h2, hl1, hl2⟩ := hst
    have hix : i < xs.size := Nat.lt_of_lt_of_le hi (Nat.min_le_left ..)
    have hiy : i < ys.size := Nat.lt_of_lt_of_le hi (Nat.min_le_right ..)
    refine zt_pyNext_item D hz hTI hTO h1 h2 hl1 hl2 (Array.getElem?_eq_getElem hix) (Array.getElem?_eq_getElem hiy) fun h' a1 a2 a3 a4 a5 a6 hk => ?_
    have lt : ∀ {c o}, s.heap.get? c = some o → s.heap.objs.size ≠ c := fun e => Nat.ne_of_gt (Heap.lt_size e)
    exact hQ s.heap.objs.size #[xs[i], ys[i]] h' s.toks ⟨_, _, Array.getElem?_eq_getElem hix, Array.getElem?_eq_getElem hiy, rfl⟩ (Nat.le_refl _) ⟨_, a5, rfl, _, rfl⟩
      ⟨a1, hk _ _ D.TIz D.TITO D.TIi1 D.TIi2 hTI, ⟨_, _, a2⟩, a3, a4, hl1.at fun o e => hk _ o D.l1z D.l1TO D.l1i1 D.l1i2 e, hl2.at fun o e => hk _ o D.l2z D.l2TO D.l2i1 D.l2i2 e,
        lt hz, lt hTO, (by obtain ⟨_, e, _⟩ := h1; exact lt e), (by obtain ⟨_, e, _⟩ := h2; exact lt e)⟩
      fun c o hc e => hk c o (fun x => hc (by simp [x])) (fun x => hc (by simp [x])) (fun x => hc (by simp [x])) (fun x => hc (by simp [x])) e
  go := fun elts k pos i T s Q E hm hQ => by
    obtain ⟨hz, hTI, ⟨a, b, hTO⟩, h1, h2, hl1, hl2, _⟩ := hm
    refine wpAny_letOwnedTupleGo_zip hz fun h' hz' hs' => hQ h' ⟨hz', hs'.extBut _ _ D.TIz hTI, ⟨a, b, hs'.extBut _ _ D.TOz hTO⟩, h1.extBut hs'.extBut D.i1z, h2.extBut hs'.extBut D.i2z,
      hl1.extBut hs'.extBut D.l1z, hl2.extBut hs'.extBut D.l2z⟩ fun c o hc e => hs'.extBut _ _ (fun x => hc (by simp [x])) e
  apart := fun i T h hm hT => by
    obtain ⟨_, _, _, _, _, _, _, t1, t2, t3, t4⟩ := hm
    simp at hT
    rcases hT with rfl | rfl | rfl | rfl
    · exact t1 rfl
    · exact t2 rfl
    · exact t3 rfl
    · exact t4 rfl
  done := fun s Q E hst hQ => by
    obtain ⟨hz, hTI, ⟨a, b, hTO⟩, h1, h2, hl1, hl2⟩ := hst
    have hend : xs[min xs.size ys.size]? = none ∨ ys[min xs.size ys.size]? = none := by
      rcases Nat.le_total xs.size ys.size with h | h
      · exact .inl (by rw [Nat.min_eq_left h]; exact Array.getElem?_eq_none (Nat.le_refl _))
      · exact .inr (by rw [Nat.min_eq_right h]; exact Array.getElem?_eq_none (Nat.le_refl _))
    exact zt_pyNext_end hh D hz hTI hTO h1 h2 hl1 hl2 hend fun h' hk => hQ h' s.toks fun c o hc e =>
      hk c o (fun x => hc (by simp [x])) (fun x => hc (by simp [x])) (fun x => hc (by simp [x])) (fun x => hc (by simp [x])) e
  self := fun i s Q E hst hQ => wpAny_pyIter_zip hst.1 hQ

end
end Mine
namespace Mine
open PySem PySem.W PyProof.Rows PySem.Calls PySem.Spec
variable {C : Cfg} {k : Nat} {ec : EC} {σ : Sto} {W W' : List Str}

theorem isCode_of {h : Heap} {ps : Array Value} (hd : CodeHd h C.cA C.P) (hp : h.get? C.P = some (tabObj ps)) (ht : TriplesOk ps.toList) : h.IsCode C.cA C.P ps ∧ h.TableAt C.cA C.P ps := by
  obtain ⟨o, vs, file, tf, flags, tg, inF, text, tt, e1, e2, e3, e4, f3, f4, f5, f6, f7, f11⟩ := hd
  exact ⟨⟨o, vs, file, tf, flags, tg, inF, text, tt, _, e1, e3, f3, f4, f5, f6, f7, hp, rfl, ht, f11⟩, ⟨⟨o, vs, e1, e2, e3, e4⟩, hp⟩⟩

/-- the code of the generator expression, made or found -/
theorem genCode_wp {A : Around} {env : Env} {h₀ : Heap} {ex : List Addr} {s : Shared} {E : Value → Shared → Prop} {pos : Pos} {qual : Str} {scope : Scope} (S : Sta C ec W env h₀ ex σ s.heap) (hcode : env.code = .ref C.cA) (hln : C.ln = pos.line) (hcl : C.cl = pos.col)
    (R : Value → Shared → Prop) (hR : ∀ c' s6, Go C s s6 → s.heap.objs.size ≤ s6.heap.objs.size → R (.ref c') s6) : wpAny (model C.prog C.w) A (genexprCode env pos qual scope) R E s := by
  obtain ⟨ps, hps, hform⟩ := S.tab
  rcases hform with rfl | ⟨c', rfl⟩
  · obtain ⟨i1, i2⟩ := isCode_of S.g.hd hps trivial
    refine wpAny_genexprCodeX hcode i1 i2 rfl fun c' h' tk hx hge hlt _ _ ht _ => hR c' _ ⟨hx, fun _ => ⟨_, ht.2, .inr ⟨c', ?_⟩⟩, rfl, id⟩ (Nat.le_trans hge (Nat.le_of_lt hlt))
    rw [hln, hcl]; rfl
  · obtain ⟨i1, i2⟩ := isCode_of S.g.hd hps trivial
    refine wpAny_genexprCode_hit (c' := .ref c') hcode i1 ?_ (hR c' s (.refl s) (Nat.le_refl _))
    show codeAmong pos [rawInt C.ln, rawInt C.cl, .ref c'] = _
    have := codeAmong_snoc (pos := pos) (c := .ref c') [] trivial rfl
    rw [hln, hcl]; exact this

structure GenOK (scope : Scope) (xa xb : Str) : Prop where
  co : scope.isCoroutine = false
  free : ∀ x ∈ scope.names, x.2 ≠ .free
  cell : ∀ y ∈ scope.names, y.2 ≠ .cell
  it : scope.names.lookup (".0" : Str) = some .local
  a : scope.names.lookup xa = some .local
  b : scope.names.lookup xb = some .local
  ne : xa ≠ xb
  kind : scope.kind = .function
def addZ (xs ys : List Int) : List Int := (xs.zip ys).map fun p => p.1 + p.2

theorem elt_wp {prog : Program} {w : World} {A : Around} {E : Value → Shared → Prop} {s : Shared} {cenv : Env} {xa xb : Str} {q1 q2 q3 : Pos} {m : Str → Option Value} {x y : Int} {t u : Tok} (hk : cenv.scope.kind = .function) (ha : cenv.kindOf xa = some .local) (hb : cenv.kindOf xb = some .local) (hn : s.heap.Ns cenv.locals m) (h1 : m xa = some (.int x t)) (h2 : m xb = some (.int y u))
    (d1 : (xa == ("__debug__" : Str)) = false) (d2 : (xb == ("__debug__" : Str)) = false) {R : Value → Shared → Prop} (hR : ∀ v s', (∃ t', v = .int (x + y) t') → Keeps s s' → R v s') : wpAny (model prog w) A (eval (.BinOp (.Name xa q1) .Add (.Name xb q2) q3) cenv) R E s := by
  refine wpAny_BinOp (wpAny_Name (wpAny_loadName_local hk ha hn h1 ?_) d1)
  refine wpAny_Name (wpAny_loadName_local hk hb hn h2 ?_) d2
  refine add_int (hR _ _ ⟨_, rfl⟩ ?_)
  exact ⟨_, _, rfl, fun _ _ e => e⟩

theorem near5 {n m : Nat} (h : n + 5 ≤ m) : n + 4 < m ∧ n + 2 < m ∧ n + 3 < m ∧ n < m ∧ n + 1 < m := by omega
theorem far5 {n m b : Nat} (hb : b < n) (hm : n + 5 ≤ m) (h : b = m ∨ b = n + 4 ∨ b = n + 3 ∨ b = n ∨ b = n + 1) : False := by omega
theorem far4 {n b : Nat} (hb : b < n) (h : b = n + 4 ∨ b = n + 3 ∨ b = n ∨ b = n + 1) : False := by omega
theorem ev_tupgen {a b : Expr} {xa xb : Str} {pa pb pt q1 q2 q3 p zp zpos gpos pos : Pos} {kt : Nat} {scope : Scope} {xs ys : List Int} (h1 : Ev C k ec σ a (.tup (xs.map .int))) (h2 : Ev C k ec σ b (.tup (ys.map .int))) (hl : xs.length = ys.length) (hl4 : xs.length ≤ 100)
    (bt : BN C ec "tuple" (.type "tuple")) (bz : BN C ec "zip" (.type "zip")) (hcode : ec.code = .ref C.cA) (hln : C.ln = gpos.line) (hcl : C.cl = gpos.col) (O : GenOK scope xa xb) (d1 : (xa == ("__debug__" : Str)) = false) (d2 : (xb == ("__debug__" : Str)) = false)
    (hse1 : ∀ env, backTo pos (starEach [.GeneratorExp (.BinOp (.Name xa q1) .Add (.Name xb q2) q3) [⟨.Tuple [.Name xa pa, .Name xb pb] kt pt, .Call (.Name "zip" zp) [a, b] [] zpos, [], 0⟩] scope gpos] env) = [(false, eval (.GeneratorExp (.BinOp (.Name xa q1) .Add (.Name xb q2) q3) [⟨.Tuple [.Name xa pa, .Name xb pb] kt pt, .Call (.Name "zip" zp) [a, b] [] zpos, [], 0⟩] scope gpos) env)])
    (hse2 : ∀ env, backTo zpos (starEach [a, b] env) = [(false, eval a env), (false, eval b env)]) (hs : ∀ env x, genFold (.Call (.Name "zip" zp) [a, b] [] zpos) env x = pure x) :
    Ev C k ec σ (.Call (.Name "tuple" p) [.GeneratorExp (.BinOp (.Name xa q1) .Add (.Name xb q2) q3) [⟨.Tuple [.Name xa pa, .Name xb pb] kt pt, .Call (.Name "zip" zp) [a, b] [] zpos, [], 0⟩] scope gpos] [] pos) (.tup ((addZ xs ys).map .int)) := by
  intro A W env h₀ ex s Q E hr he S hQ
  refine call_b1 (id := "tuple") (.inr rfl) bt hse1 hr he S fun s1 g1 => ?_
  refine wpAny_GeneratorExp_walksQT hr.handled O.co (closureFor_none O.free) O.cell O.it O.a O.b O.ne O.kind (by have := hr.depth; omega) ?_ (hs env)
  refine call_b2 (id := "zip") (.inr rfl) bz hse2 hr he (S.go g1) fun s2 g2 => ?_
  refine h1 _ _ _ _ _ _ _ _ hr he ((S.go g1).go g2) fun v s3 g3 r3 => ?_
  refine h2 _ _ _ _ _ _ _ _ hr he (((S.go g1).go g2).go g3) fun u s4 g4 r4 => ?_
  have g04 : Go C s s4 := ((g1.trans g2).trans g3).trans g4
  have S4 := S.go g04
  have r3' := r3.go g4 (((S.go g1).go g2).go g3).tab
  simp only [Rep] at r3' r4
  obtain ⟨l1, vs, n1, rfl, hx1, ha, ra⟩ := r3'
  obtain ⟨l2, us, n2, rfl, hx2, hb, rb⟩ := r4
  have hl1 : l1 < s4.heap.objs.size := Heap.lt_size ha
  have hl2 : l2 < s4.heap.objs.size := Heap.lt_size hb
  refine call_zt (tup_at ha) (tup_at hb) fun h5 hz hTI hTO hi1 hi2 hsz5 hk5 => ?_
  refine wpAny_pyIter_zip hz ?_
  have g45 : Go C s4 { s4 with heap := h5 } := .keep hk5
  have g05 : Go C s { s4 with heap := h5 } := g04.trans g45
  have S5 := S.go g05
  refine ⟨S5.g.nolimit, ?_⟩
  refine genCode_wp S5 (by rw [he.code, hcode]) hln hcl _ fun c' s6 g6 hsz6 => ?_
  have g06 := g05.trans g6
  have S6 := S.go g06
  obtain ⟨bm, ob, b1, b2, b3, b4, b5, b6, b7, b8⟩ := S6.g.bi
  rw [he.gl, he.bi]
  refine wpAny_builtinsFor S6.g.g b1 b2 b5 b6 b7 b8 ?_
  have D := zipApart_new hl1 hl2
  have hlv : vs.length = xs.length := by rw [ra.length, List.length_map]
  have hlu : us.length = ys.length := by rw [rb.length, List.length_map]
  -- the walk's own objects, kept while the code is made
  have k6 : ∀ c o, o.cls ≠ .none → h5.get? c = some o → s6.heap.get? c = some o := fun c o hc e => g6.ext _ _ (S5.tab.ne e hc) e
  have st6 : IsZip s6.heap (s4.heap.objs.size + 4) (s4.heap.objs.size + 2) (s4.heap.objs.size + 3) .none ∧ IsPair s6.heap (s4.heap.objs.size + 2) (.ref s4.heap.objs.size) (.ref (s4.heap.objs.size + 1)) ∧ (∃ a b, IsPair s6.heap (s4.heap.objs.size + 3) a b) ∧ s6.heap.IsTupleIter s4.heap.objs.size l1 0 ∧ s6.heap.IsTupleIter (s4.heap.objs.size + 1) l2 0 ∧ s6.heap.IsTuple l1 vs.toArray ∧ s6.heap.IsTuple l2 us.toArray :=
    ⟨k6 _ _ nofun hz, k6 _ _ nofun hTI, ⟨_, _, k6 _ _ nofun hTO⟩, (let ⟨o, e, c, d⟩ := hi1; ⟨o, k6 _ _ (by rw [c]; nofun) e, c, d⟩), (let ⟨o, e, c, d⟩ := hi2; ⟨o, k6 _ _ (by rw [c]; nofun) e, c, d⟩),
      tup_at (k6 _ _ nofun (hk5 _ _ ha)), tup_at (k6 _ _ nofun (hk5 _ _ hb))⟩
  have hn6 : s4.heap.objs.size + 5 ≤ s6.heap.objs.size := by rw [← hsz5]; exact hsz6
  have hget : ∀ (i : Nat) (va vb : Value), (∃ x y, vs.toArray[i]? = some x ∧ us.toArray[i]? = some y ∧ (#[va, vb] : Array Value) = #[x, y]) → ∃ x y t t', xs[i]? = some x ∧ ys[i]? = some y ∧ va = .int x t ∧ vb = .int y t' := by
    rintro i va vb ⟨x, y, hx, hy, e⟩
    obtain ⟨e1, e2⟩ : va = x ∧ vb = y := by simpa using congrArg Array.toList e
    subst e1 e2
    obtain ⟨d, hd, rd⟩ := ra.get' i va (by simpa using hx)
    obtain ⟨d', hd', rd'⟩ := rb.get' i vb (by simpa using hy)
    rw [List.getElem?_map, Option.map_eq_some_iff] at hd hd'
    obtain ⟨x, hx', rfl⟩ := hd
    obtain ⟨y, hy', rfl⟩ := hd'
    simp only [Rep] at rd rd'
    obtain ⟨t, rfl⟩ := rd
    obtain ⟨t', rfl⟩ := rd'
    exact ⟨x, y, t, t', hx', hy', rfl, rfl⟩
  refine ⟨_, _, _, _, _, _, _, fun _ => true, fun (i : Nat) v => ∃ x y t, xs[i]? = some x ∧ ys[i]? = some y ∧ v = .int (x + y) t, rfl, fun A' hA => (walks_zt hA _ _ _ _ _ l1 l2 D vs.toArray us.toArray).toU, (fun i vals hv => by obtain ⟨x, y, _, _, e⟩ := hv; exact ⟨x, y, e⟩), st6, fun b hb => ?_, S6.g.nolimit, ?_, fun href hhref => ?_, fun a7 h7 tk gs hbare hlt hsz7 hk7 Wk hat => ?_⟩
  · simp only [List.mem_cons, List.not_mem_nil, or_false] at hb
    obtain ⟨n4, n2, n3, n0, n1⟩ := near5 hn6
    rcases hb with rfl | rfl | rfl | rfl | rfl | rfl | rfl
    · exact n4
    · exact n2
    · exact n3
    · exact n0
    · exact n1
    · exact Nat.lt_trans hl1 n0
    · exact Nat.lt_trans hl2 n0
  · have hc : cStatics < s4.heap.objs.size := by obtain ⟨_, hn, _⟩ := S4.g.nolimit; exact hn.lt
    intro hm
    simp only [List.mem_cons, List.not_mem_nil, or_false] at hm
    exact far4 hc hm
  · exact {
      tests := fun A' E' i va vb s₂ m₂ hA hp hn ha hb hk => wpAny_pure ⟨rfl, _, _, rfl, fun _ _ e => e⟩
      elt := fun A' E' i va vb s₂ m₂ hA hp _ hn ha hb hk => by
        obtain ⟨x, y, t, t', hx, hy, rfl, rfl⟩ := hget i va vb hp
        exact elt_wp (cenv := genEnv scope [] s6.heap.objs.size (.ref c') builtinsNs env) O.kind O.a O.b hn ha hb d1 d2 fun v s' ⟨t'', e⟩ hk => ⟨⟨x, y, t'', hx, hy, e⟩, hk⟩ }
  · have hpass : passing (fun _ => true) (min vs.toArray.size us.toArray.size) 0 = List.range xs.length := by
      unfold passing
      simp only [List.drop_zero, List.size_toArray, hlv, hlu, ← hl, Nat.min_self]
      exact List.filter_eq_self.mpr fun _ _ => rfl
    have hwr : ∀ b, s4.heap.get? b ≠ none → b ∉ s6.heap.objs.size :: [s4.heap.objs.size + 4, s4.heap.objs.size + 3, s4.heap.objs.size, s4.heap.objs.size + 1] := fun b hb hm => by
      have hlt : b < s4.heap.objs.size := by
        cases q : s4.heap.get? b with
        | none => exact absurd q hb
        | some o => exact Heap.lt_size q
      simp only [List.mem_cons, List.not_mem_nil, or_false] at hm
      exact far5 hlt hn6 hm
    refine call_tuple_gen (A := A) Wk.of_in1 (fun i s' st => st.1.typeIs) hat (fun b hb => ?_) (List.mem_cons_self) (fun s8 acc hm hi => ?_) (by rw [hpass, List.length_range, sizeLine_eq]; omega)
    · show b < h7.objs.size
      rw [hsz7]
      rcases List.mem_cons.mp hb with rfl | hb
      · exact Nat.lt_succ_self _
      · rcases List.mem_cons.mp hb with rfl | hb
        · exact Nat.lt_succ_of_lt hlt
        · exact Nat.lt_succ_of_lt (Nat.lt_trans (List.mem_range.mp hb) hlt)
    · have hP4 : s4.heap.get? C.P ≠ none := by obtain ⟨ps, hp, _⟩ := S4.tab; rw [hp]; nofun
      have gfin : Go C s { s8 with heap := s8.heap.push { cls := .type "tuple", data := .seq acc } } := {
        ext := fun b o hbP e => by
          have e4 := g04.ext b o hbP e
          have e6 := g06.ext b o hbP e
          exact Heap.get?_push_of_some _ (hm.heap b o (hwr b (by rw [e4]; nofun)) (hk7 _ _ e6))
        tab := fun T => (S6.tab).keeps fun o e => Heap.get?_push_of_some _ (hm.heap _ o (hwr _ hP4) (hk7 _ _ e))
        os := by rw [show s8.os = s6.os from hm.os, g06.os]
        bare := fun hb => ((g06.bare hb).push hbare).moved hm.gens }
      obtain ⟨hsz, hat'⟩ := hi
      rw [hpass, List.length_range] at hsz
      rw [hpass] at hat'
      refine hQ _ _ gfin ?_
      simp only [Rep]
      refine ⟨_, acc.toList, 0, rfl, (Sta.pre (S.go (s' := s8) ⟨fun b o hbP e => hm.heap b o (hwr b (by rw [g04.ext b o hbP e]; nofun)) (hk7 _ _ (g06.ext b o hbP e)), fun T => (S6.tab).keeps fun o e => hm.heap _ o (hwr _ hP4) (hk7 _ _ e), by rw [show s8.os = s6.os from hm.os, g06.os], fun hb => ((g06.bare hb).push hbare).moved hm.gens⟩) hr).alive.fresh, ?_, ?_⟩
      · have := Heap.get?_push_size s8.heap (o := { cls := .type "tuple", data := .seq acc }) rfl
        simpa [tupObj] using this
      · refine repInts (by rw [Array.length_toList, hsz]; simp [addZ, hl]) fun i v hv => ?_
        obtain ⟨j, hj, x, y, t, hx, hy, rfl⟩ := hat' i v (by simpa using hv)
        have hij : j = i := by
          have hil : i < xs.length := by
            rcases Nat.lt_or_ge i xs.length with q | q
            · exact q
            · rw [List.getElem?_eq_none (by simpa using q)] at hj; cases hj
          rw [List.getElem?_eq_getElem (by simpa using hil)] at hj
          simpa using hj.symm
        subst hij
        exact ⟨t, x + y, by
          have hz : (xs.zip ys)[j]? = some (x, y) := List.getElem?_zip_eq_some.mpr ⟨hx, hy⟩
          simp only [addZ, List.getElem?_map, hz, Option.map_some], rfl⟩
where
  repInts {h : Heap} {ex : List Addr} : ∀ {zs : List Int} {vs : List Value}, vs.length = zs.length → (∀ (i : Nat) v, vs[i]? = some v → ∃ t z, zs[i]? = some z ∧ v = .int z t) → RepL C h ex (zs.map .int) vs
    | [], [], _, _ => .nil
    | z :: zs, v :: vs, hl, hv => by
      obtain ⟨t, z', hz, rfl⟩ := hv 0 v rfl
      cases hz
      exact .cons rep_int (repInts (by simpa using hl) fun i u hu => hv (i + 1) u (by simpa using hu))
end Mine
namespace Mine
open PySem PySem.W PyProof.Rows PySem.Calls PySem.Spec
variable {C : Cfg} {k : Nat} {ec : EC} {σ : Sto} {W W' : List Str}

theorem zdoc {x : Str} {n : Nat} {p pos : Pos} {rest : List Stmt} {Φ : Out → Prop} (hr : St C k ec W σ rest Φ) (hk : ec.sc.kind = .function := by rfl) : St C k ec W σ (.Expr (.Constant (.str x) n p) pos :: rest) Φ := by
  refine ⟨fun A env h₀ ex s Q E hr' he S hQ => ?_⟩
  refine xs_cons (st := .Expr (.Constant (.str x) n p) pos) (Φ := Φ) (fun A env h₀ ex s Q E hr' he S hQ => ?_) A env h₀ ex s Q E hr' he S hQ
  refine wpAny_Expr (ev_str (σ := σ) _ _ _ _ _ _ _ _ hr' he S fun v s1 g1 r1 => ?_) (by unfold interactive; rw [he.sc, hk]; simp) (by rfl)
  simp only [Rep] at r1
  obtain ⟨t, rfl⟩ := r1
  exact hQ .next s1 (.next σ) hr.run ⟨rfl, S.go g1⟩ g1.gx

theorem zitems {x y z : Str} {xp apos ipos yp zp tp pos : Pos} {n : Nat} {body rest : List Stmt} {d : D} {keys : List Str} {es : List D} {Φ : Out → Prop} (I : Nat → Sto → Prop) (hx : σ.lookup x = some (.dat d)) (hd : (d = .d0 ∧ keys = [] ∧ es = []) ∨ ∃ f g, d = .d2 f g ∧ keys = [Str.ofString "f", Str.ofString "g"] ∧ es = [f, g])
    (h0 : I 0 σ) (turn : ∀ i τ key e, I i τ → keys[i]? = some key → es[i]? = some e → St C k ec W ((τ.set y (.dat (.str key))).set z (.dat e)) body (LoopO I i (Th C k ec W rest Φ))) (hend : ∀ τ, I keys.length τ → St C k ec W τ rest Φ)
    (hy : okName ec W y = true := by rfl) (hz : okName ec W z = true := by rfl)
    (h1 : (x == ("__debug__" : Str)) = false := by rfl) (h2 : (x == ("__classdict__" : Str)) = false := by rfl) (hb : ∀ env, attributeBase (.Name x xp) "items" env (eval (.Name x xp) env) = eval (.Name x xp) env := by intro _; rfl) (hl : (apos.endLine == ipos.line) = true := by rfl)
    (hf2 : ∀ env v, foldedSetIterable (.Call (.Attribute (.Name x xp) "items" apos) [] [] ipos) env v = pure v := by intros; rfl) :
    St C k ec W σ (.For (.Tuple [.Name y yp, .Name z zp] n tp) (.Call (.Attribute (.Name x xp) "items" apos) [] [] ipos) body [] pos :: rest) Φ := by
  have hlen : (pairD keys es).length = keys.length := by
    rcases hd with ⟨_, rfl, rfl⟩ | ⟨f, g, _, rfl, rfl⟩ <;> rfl
  refine ⟨xs_cons (x1_for I (isrc_items hx hd h1 h2 hb hl) h0 (fun i τ d hI hdd => ?_) (fun τ hI => (hend τ (by rwa [hlen] at hI)).run) hf2)⟩
  unfold pairD at hdd
  rw [List.getElem?_map, Option.map_eq_some_iff] at hdd
  obtain ⟨⟨key, e⟩, hz', rfl⟩ := hdd
  obtain ⟨hk1, hk2⟩ := List.getElem?_zip_eq_some.mp hz'
  refine ⟨_, tg_seq [(y, yp), (z, zp)] (.inl rfl) rfl (fun q hq => ?_) rfl, (turn i τ key e hI hk1 hk2).run.mono fun o ho => ?_⟩
  · simp only [List.mem_cons, List.not_mem_nil, or_false] at hq
    rcases hq with rfl | rfl
    · exact okName.of hy
    · exact okName.of hz
  · cases o with
    | next τ => exact ho
    | cont τ => exact ho
    | brk τ => exact then_of (.next τ) ho
    | ret d => exact ho

theorem vtupgen {a b : Expr} {xa xb : Str} {pa pb pt q1 q2 q3 p zp zpos gpos pos : Pos} {kt : Nat} {scope : Scope} {xs ys : List Int} (h1 : V C k ec σ a (.tup (xs.map .int))) (h2 : V C k ec σ b (.tup (ys.map .int))) (hl : xs.length = ys.length) (hl4 : xs.length ≤ 100)
    (bt : BN C ec "tuple" (.type "tuple")) (bz : BN C ec "zip" (.type "zip")) (hcode : ec.code = .ref C.cA) (hln : C.ln = gpos.line) (hcl : C.cl = gpos.col) (O : GenOK scope xa xb) (d1 : (xa == ("__debug__" : Str)) = false := by rfl) (d2 : (xb == ("__debug__" : Str)) = false := by rfl)
    (hse1 : ∀ env, backTo pos (starEach [.GeneratorExp (.BinOp (.Name xa q1) .Add (.Name xb q2) q3) [⟨.Tuple [.Name xa pa, .Name xb pb] kt pt, .Call (.Name "zip" zp) [a, b] [] zpos, [], 0⟩] scope gpos] env) = [(false, eval (.GeneratorExp (.BinOp (.Name xa q1) .Add (.Name xb q2) q3) [⟨.Tuple [.Name xa pa, .Name xb pb] kt pt, .Call (.Name "zip" zp) [a, b] [] zpos, [], 0⟩] scope gpos) env)] := by intro _; rfl)
    (hse2 : ∀ env, backTo zpos (starEach [a, b] env) = [(false, eval a env), (false, eval b env)] := by intro _; rfl) (hs : ∀ env x, genFold (.Call (.Name "zip" zp) [a, b] [] zpos) env x = pure x := by intros; rfl) :
    V C k ec σ (.Call (.Name "tuple" p) [.GeneratorExp (.BinOp (.Name xa q1) .Add (.Name xb q2) q3) [⟨.Tuple [.Name xa pa, .Name xb pb] kt pt, .Call (.Name "zip" zp) [a, b] [] zpos, [], 0⟩] scope gpos] [] pos) (.tup ((addZ xs ys).map .int)) :=
  ⟨ev_tupgen h1.run h2.run hl hl4 bt bz hcode hln hcl O d1 d2 hse1 hse2 hs⟩

/-- the place of the generator expression of add_callers -/
def genPosOf : List Stmt → Pos
  | _ :: _ :: _ :: .For _ _ [.If _ [.If _ [.Assign _ (.Call _ [.GeneratorExp _ _ _ p] _ _) _] _ _] _ _] _ _ :: _ => p
  | _ => ⟨0, 0, 0, 0⟩
/-- an amount of a caller: an int, or four ints -/
inductive Am where
  | n (i : Int)
  | w (l : List Int)
def Am.d : Am → D
  | .n i => .int i
  | .w l => .tup (l.map .int)
def Am.like : Am → Am → Bool
  | .n _, .n _ => true
  | .w a, .w b => a.length == b.length && decide (a.length ≤ 100)
  | _, _ => false
def Am.add : Am → Am → Am
  | .n a, .n b => .n (a + b)
  | .w a, .w b => .w (addZ b a)
  | a, _ => a
def Am.plus : Option Am → Am → Am
  | none, e => e
  | some x, e => x.add e
structure B1 (C : Cfg) (f : Str) (v : Value) : Prop where
  mg : C.mg f = none
  mb : C.mb f = some v
theorem B1.bn {f : Str} {v : Value} (B : B1 C f v) (hk : ec.kind f = some .globalImplicit := by rfl) (hd : (f == ("__debug__" : Str)) = false := by rfl) : BN C ec f v := ⟨hk, B.mg, B.mb, hd⟩
structure Bns (C : Cfg) : Prop where
  blen : B1 C "len" (.builtin "len")
  bsum : B1 C "sum" (.builtin "sum")
  bmin : B1 C "min" (.builtin "min")
  babs : B1 C "abs" (.builtin "abs")
  bisinstance : B1 C "isinstance" (.builtin "isinstance")
  blist : B1 C "list" (.type "list")
  brange : B1 C "range" (.type "range")
  btuple : B1 C "tuple" (.type "tuple")
  bzip : B1 C "zip" (.type "zip")
  benumerate : B1 C "enumerate" (.type "enumerate")
  bobject : B1 C "object" (.type "object")
  bint : B1 C "int" (.type "int")
  bbool : B1 C "bool" (.type "bool")

abbrev callersLoop2 : List Stmt := match callers_body with
  | _ :: _ :: _ :: .For _ _ b _ _ :: _ => b
  | _ => []
abbrev nC : Str := Str.ofString "new_callers"
theorem z_turn {qual : Str} {τ : Sto} {a : Addr} {kvs : List (Str × D)} {key : Str} {e : Am} {b : Option Am} {Φ : Out → Prop} (B : Bns C) (hln : C.ln = (genPosOf callers_body).line) (hcl : C.cl = (genPosOf callers_body).col) (hnc : τ.lookup nC = some (.ownd a kvs)) (hf : At τ "func" (.str key)) (hc : At τ "caller" e.d) (hb : dGet kvs key = b.map Am.d) (hlike : ∀ x, b = some x → e.like x = true) (hl : kvs.length ≤ 1000)
    (hΦ : Φ (.next (τ.set nC (.ownd a (dSet kvs key (Am.plus b e).d))))) : St C k ⟨callers_scope, .ref C.cA, qual⟩ W τ callersLoop2 Φ := by
  refine zife (tinown hnc (vr hf)) (fun h => ?_) (fun h => ?_)
  · cases b with
    | none => rw [hb] at h; cases h
    | some x =>
      have hlk := hlike x rfl
      cases e with
      | n m =>
        cases x with
        | w l => cases hlk
        | n m' =>
          refine zife (c := false) (tv (visi B.bisinstance.bn (vr hc) B.btuple.bn rfl)) nofun fun _ => ?_
          exact zdaug (m := m') hnc hb (vr hc) (vr hf) hl (znil (znil (znil hΦ)))
      | w l =>
        cases x with
        | n m' => cases hlk
        | w l' =>
          refine zife (c := true) (tv (visi B.bisinstance.bn (vr hc) B.btuple.bn rfl)) (fun _ => ?_) nofun
          simp only [Am.like, Bool.and_eq_true, beq_iff_eq, decide_eq_true_eq] at hlk
          refine zdset hnc (vtupgen (xs := l) (ys := l') (vr hc) (vditem hnc (vr hf) hb) hlk.1 hlk.2 B.btuple.bn B.bzip.bn rfl hln hcl ⟨rfl, by decide, by decide, rfl, rfl, rfl, by decide, rfl⟩) (vr hf) hl (znil (znil (znil hΦ)))
  · cases b with
    | some x => rw [hb] at h; cases h
    | none => exact zdset hnc (vr hc) (vr hf) hl (znil (znil hΦ))
/-- add_callers: the amounts of two callers' tables together -/
theorem z_callers {qual : Str} {t : Option (Am × Am)} {f g : Am} (B : Bns C) (hln : C.ln = (genPosOf callers_body).line) (hcl : C.cl = (genPosOf callers_body).col) (hl : ∀ p, t = some p → f.like p.1 = true ∧ g.like p.2 = true) :
    St C k ⟨callers_scope, .ref C.cA, qual⟩ W (argSto ["target", "source"] [(match t with | none => .d0 | some p => .d2 p.1.d p.2.d), .d2 f.d g.d]) callers_body fun o => o = .ret (match t with | none => .d2 f.d g.d | some p => .d2 (p.1.add f).d (p.2.add g).d) := by
  refine zdoc (zdict fun a => ?_)
  cases t with
  | none =>
    refine zitems (d := .d0) (keys := []) (es := []) (fun i τ => τ.lookup nC = some (.ownd a []) ∧ At τ "source" (.d2 f.d g.d)) rfl (.inl ⟨rfl, rfl, rfl⟩) ⟨rfl, rfl⟩ (fun i τ key e hI hk he => by simp at hk) fun τ hI => ?_
    refine zitems (d := .d2 f.d g.d) (keys := [kF, kG]) (es := [f.d, g.d]) (fun i τ => τ.lookup nC = some (.ownd a (([(kF, f.d), (kG, g.d)] : List (Str × D)).take i))) hI.2 (.inr ⟨_, _, rfl, rfl, rfl⟩) hI.1 (fun i τ key e hI hk he => ?_) fun τ hI => ?_
    · have hnc : ((τ.set "func" (.dat (.str key))).set "caller" (.dat e)).lookup nC = some (.ownd a (([(kF, f.d), (kG, g.d)] : List (Str × D)).take i)) := (lookup_set_ne (by decide)).trans ((lookup_set_ne (by decide)).trans hI)
      have hf : At ((τ.set "func" (.dat (.str key))).set "caller" (.dat e)) "func" (.str key) := (lookup_set_ne (by decide)).trans lookup_set_self
      have hi : i = 0 ∨ i = 1 := by
        have : i < 2 := by
          rcases Nat.lt_or_ge i 2 with q | q
          · exact q
          · rw [List.getElem?_eq_none (by simpa using q)] at hk; cases hk
        omega
      rcases hi with rfl | rfl
      · cases hk; cases he
        exact z_turn (e := f) (b := none) B hln hcl hnc hf lookup_set_self rfl nofun (by simp) lookup_set_self
      · cases hk; cases he
        exact z_turn (e := g) (b := none) B hln hcl hnc hf lookup_set_self rfl nofun (by simp) lookup_set_self
    · exact zfreezeD (d := .d2 f.d g.d) hI (.inr ⟨_, _, rfl, rfl⟩) (zret (vr lookup_set_self) rfl)
  | some p =>
    obtain ⟨p, q⟩ := p
    obtain ⟨l1, l2⟩ := hl (p, q) rfl
    refine zitems (d := .d2 p.d q.d) (keys := [kF, kG]) (es := [p.d, q.d]) (fun i τ => τ.lookup nC = some (.ownd a (([(kF, p.d), (kG, q.d)] : List (Str × D)).take i)) ∧ At τ "source" (.d2 f.d g.d)) rfl (.inr ⟨_, _, rfl, rfl, rfl⟩) ⟨rfl, rfl⟩ (fun i τ key e hI hk he => ?_) fun τ hI => ?_
    · have hnc : ((τ.set "func" (.dat (.str key))).set "caller" (.dat e)).lookup nC = some (.ownd a (([(kF, p.d), (kG, q.d)] : List (Str × D)).take i)) := (lookup_set_ne (by decide)).trans ((lookup_set_ne (by decide)).trans hI.1)
      have hs : At ((τ.set "func" (.dat (.str key))).set "caller" (.dat e)) "source" (.d2 f.d g.d) := (lookup_set_ne (by decide)).trans ((lookup_set_ne (by decide)).trans hI.2)
      have hf : At ((τ.set "func" (.dat (.str key))).set "caller" (.dat e)) "func" (.str key) := (lookup_set_ne (by decide)).trans lookup_set_self
      refine zdset hnc (vr lookup_set_self) (vr hf) (by simp; omega) (znil ⟨?_, (lookup_set_ne (by decide)).trans hs⟩)
      have hi : i = 0 ∨ i = 1 := by
        have : i < 2 := by
          rcases Nat.lt_or_ge i 2 with q | q
          · exact q
          · rw [List.getElem?_eq_none (by simpa using q)] at hk; cases hk
        omega
      rcases hi with rfl | rfl
      · cases hk; cases he; exact lookup_set_self
      · cases hk; cases he; exact lookup_set_self
    · refine zitems (d := .d2 f.d g.d) (keys := [kF, kG]) (es := [f.d, g.d]) (fun i τ => τ.lookup nC = some (.ownd a [(kF, if i = 0 then p.d else (p.add f).d), (kG, if i ≤ 1 then q.d else (q.add g).d)])) hI.2 (.inr ⟨_, _, rfl, rfl, rfl⟩) hI.1 (fun i τ key e hI hk he => ?_) fun τ hI => ?_
      · have hnc : ((τ.set "func" (.dat (.str key))).set "caller" (.dat e)).lookup nC = some (.ownd a [(kF, if i = 0 then p.d else (p.add f).d), (kG, if i ≤ 1 then q.d else (q.add g).d)]) := (lookup_set_ne (by decide)).trans ((lookup_set_ne (by decide)).trans hI)
        have hf : At ((τ.set "func" (.dat (.str key))).set "caller" (.dat e)) "func" (.str key) := (lookup_set_ne (by decide)).trans lookup_set_self
        have hi : i = 0 ∨ i = 1 := by
          have : i < 2 := by
            rcases Nat.lt_or_ge i 2 with q | q
            · exact q
            · rw [List.getElem?_eq_none (by simpa using q)] at hk; cases hk
          omega
        rcases hi with rfl | rfl
        · cases hk; cases he
          exact z_turn (e := f) (b := some p) B hln hcl hnc hf lookup_set_self rfl (fun x e => by cases e; exact l1) (by simp) lookup_set_self
        · cases hk; cases he
          exact z_turn (e := g) (b := some q) B hln hcl hnc hf lookup_set_self rfl (fun x e => by cases e; exact l2) (by simp) lookup_set_self
      · exact zfreezeD (d := .d2 (p.add f).d (q.add g).d) hI (.inr ⟨_, _, rfl, rfl⟩) (zret (vr lookup_set_self) rfl)
end Mine
namespace Mine
open PySem PySem.W PyProof.Rows PySem.Calls PySem.Spec
variable {C : Cfg} {k : Nat} {ec : EC} {σ : Sto} {W W' : List Str}

theorem fv_atc {name : Str} {body : List Stmt} {scope : Scope} {params : List Str} {ds : List D} {d : D} {cv : Value} (F : DefAt C name body scope params) (hcv : F.fd.code = cv) (hl : params.length = ds.length)
    (h : ∀ qual, St C k ⟨scope, cv, qual⟩ W (argSto params ds) body fun o => o = .ret d)
    (hW : ∀ x ∈ W, scope.names.lookup x = some .cell ∧ ∀ n, ((cellsFrom n scope.names []).lookup x).isSome = true) : Fv C (k + 1) (.ref F.fa) ds d := by
  obtain ⟨fa, o, fd, ok, sc, mg⟩ := F
  subst sc
  subst hcv
  exact ⟨fn_def ok hl hW (h _).run⟩

def cal (w : Bool) (v : V3) : Am × Am := if w then (.w [v.x, v.y, v.z, v.x - v.y], .w [v.z, v.x - v.z, v.y, v.y + v.z]) else (.n (v.x - v.y), .n (v.y + 2 * v.z))
def calD (w : Bool) : Option V3 → D
  | none => .d0
  | some v => .d2 (cal w v).1.d (cal w v).2.d
def sumD (w : Bool) : Option V3 → D
  | none => .tup [.int 0, .int 0, .int 0, .int 0, .d0]
  | some v => entD w v.x v.y v.z
def four : Option V3 → Int × Int × Int × Int
  | none => (0, 0, 0, 0)
  | some v => (v.x, v.y, v.z, v.x + 2 * v.y - v.z)
theorem sumD_eq (w : Bool) (t : Option V3) : sumD w t = .tup [.int (four t).1, .int (four t).2.1, .int (four t).2.2.1, .int (four t).2.2.2, calD w t] := by
  cases t with
  | none => rfl
  | some v => cases w <;> rfl
def V3.add (u v : V3) : V3 := ⟨v.x + u.x, v.y + u.y, v.z + u.z⟩
def addO : Option V3 → V3 → V3
  | none, v => v
  | some u, v => u.add v
theorem cal_like (w : Bool) (u v : V3) : (cal w v).1.like (cal w u).1 = true ∧ (cal w v).2.like (cal w u).2 = true := by
  cases w <;> exact ⟨rfl, rfl⟩
theorem cal_add (w : Bool) (u v : V3) : (cal w u).1.add (cal w v).1 = (cal w (u.add v)).1 ∧ (cal w u).2.add (cal w v).2 = (cal w (u.add v)).2 := by
  cases w
  · refine ⟨congrArg Am.n ?_, congrArg Am.n ?_⟩
    · show u.x - u.y + (v.x - v.y) = v.x + u.x - (v.y + u.y); omega
    · show u.y + 2 * u.z + (v.y + 2 * v.z) = v.y + u.y + 2 * (v.z + u.z); omega
  · refine ⟨congrArg Am.w ?_, congrArg Am.w ?_⟩
    · show [v.x + u.x, v.y + u.y, v.z + u.z, v.x - v.y + (u.x - u.y)] = [v.x + u.x, v.y + u.y, v.z + u.z, v.x + u.x - (v.y + u.y)]
      rw [show v.x - v.y + (u.x - u.y) = v.x + u.x - (v.y + u.y) by omega]
    · show [v.z + u.z, v.x - v.z + (u.x - u.z), v.y + u.y, v.y + v.z + (u.y + u.z)] = [v.z + u.z, v.x + u.x - (v.z + u.z), v.y + u.y, v.y + u.y + (v.z + u.z)]
      rw [show v.x - v.z + (u.x - u.z) = v.x + u.x - (v.z + u.z) by omega, show v.y + v.z + (u.y + u.z) = v.y + u.y + (v.z + u.z) by omega]
theorem four_add (t : Option V3) (v : V3) : (four (some v)).1 + (four t).1 = (four (some (addO t v))).1 ∧ (four (some v)).2.1 + (four t).2.1 = (four (some (addO t v))).2.1 ∧ (four (some v)).2.2.1 + (four t).2.2.1 = (four (some (addO t v))).2.2.1 ∧ (four (some v)).2.2.2 + (four t).2.2.2 = (four (some (addO t v))).2.2.2 := by
  cases t with
  | none => exact ⟨Int.add_zero _, Int.add_zero _, Int.add_zero _, Int.add_zero _⟩
  | some u =>
    refine ⟨rfl, rfl, rfl, ?_⟩
    show v.x + 2 * v.y - v.z + (u.x + 2 * u.y - u.z) = v.x + u.x + 2 * (v.y + u.y) - (v.z + u.z)
    omega

structure CallersOK (C : Cfg) where
  F : DefAt C "add_callers" callers_body callers_scope ["target", "source"]
  code : F.fd.code = .ref C.cA
  ln : C.ln = (genPosOf callers_body).line
  cl : C.cl = (genPosOf callers_body).col
theorem fv_callers (B : Bns C) (X : CallersOK C) (w : Bool) (t : Option V3) (v : V3) : Fv C (k + 1) (.ref X.F.fa) [calD w t, calD w (some v)] (calD w (some (addO t v))) := by
  cases t with
  | none => exact fv_atc (W := []) X.F X.code rfl (fun qual => z_callers (t := none) (f := (cal w v).1) (g := (cal w v).2) B X.ln X.cl nofun) nofun
  | some u =>
    refine fv_atc (W := []) X.F X.code rfl (fun qual => ?_) nofun
    have h := z_callers (C := C) (k := k) (W := []) (qual := qual) (t := some (cal w u)) (f := (cal w v).1) (g := (cal w v).2) B X.ln X.cl (fun p hp => by cases hp; exact cal_like w u v)
    have e : calD w (some (addO (some u) v)) = .d2 ((cal w u).1.add (cal w v).1).d ((cal w u).2.add (cal w v).2).d := by
      rw [(cal_add w u v).1, (cal_add w u v).2]; rfl
    rw [e]
    exact h

theorem z_stats {code : Value} {qual : Str} (B : Bns C) (X : CallersOK C) (w : Bool) (t : Option V3) (v : V3) :
    St C (k + 1) ⟨stats_scope, code, qual⟩ W (argSto ["target", "source"] [sumD w t, sumD w (some v)]) stats_body fun o => o = .ret (sumD w (some (addO t v))) := by
  rw [sumD_eq w t, sumD_eq w (some v), sumD_eq w (some (addO t v)), ← (four_add t v).1, ← (four_add t v).2.1, ← (four_add t v).2.2.1, ← (four_add t v).2.2.2]
  generalize four t = a
  generalize four (some v) = b
  have hc := fv_callers (k := k) B X w t v
  refine zdoc (zseq [("cc", _), ("nc", _), ("tt", _), ("ct", _), ("callers", _)] vr (.inl rfl) ?_)
  refine zseq [("t_cc", _), ("t_nc", _), ("t_tt", _), ("t_ct", _), ("t_callers", _)] vr (.inl rfl) ?_
  refine znorm [("t_callers", .dat (calD w t)), ("t_ct", .dat (.int a.2.2.2)), ("t_tt", .dat (.int a.2.2.1)), ("t_nc", .dat (.int a.2.1)), ("t_cc", .dat (.int a.1)), ("callers", .dat (calD w (some v))), ("ct", .dat (.int b.2.2.2)), ("tt", .dat (.int b.2.2.1)), ("nc", .dat (.int b.2.1)), ("cc", .dat (.int b.1)),
    ("target", .dat (.tup [.int a.1, .int a.2.1, .int a.2.2.1, .int a.2.2.2, calD w t])), ("source", .dat (.tup [.int b.1, .int b.2.1, .int b.2.2.1, .int b.2.2.2, calD w (some v)]))] ?_
  exact zret (vtup (sc (vadd vr vr) (sc (vadd vr vr) (sc (vadd vr vr) (sc (vadd vr vr) (s1 (vcall X.F hc (sc vr (s1 vr))))))))) rfl

structure Defs (C : Cfg) where
  B : Bns C
  X : CallersOK C
  stats : DefAt C "add_func_stats" stats_body stats_scope ["target", "source"]
  vector : DefAt C "_law_vector" vector_body vector_scope ["x"]
  entry : DefAt C "_law_entry" entry_body entry_scope ["vector", "wide"]
  together : DefAt C "_law_together" together_body together_scope ["vectors"]
  orders : DefAt C "_law_orders" orders_body orders_scope ["n"]
  along : DefAt C "_law_along" along_body along_scope ["entries"]
  greatest : DefAt C "_law_greatest" greatest_body greatest_scope ["sums", "comp"]
  rings : DefAt C "_law_rings" rings_body rings_scope ["order"]
  above : DefAt C "_law_above" above_body above_scope ["entries", "order", "comp"]
  sign : DefAt C "_law_sign" sign_body sign_scope ["one", "other", "picks"]
  whole : DefAt C "_law_whole" whole_body whole_scope ["x"]
  rows : DefAt C "_law_rows" rows_body rows_scope ["one", "other"]
  diff : DefAt C "_count_diff_all_purpose" diff_body diff_scope ["actual", "expected"]

theorem fv_stats (X : Defs C) (w : Bool) (t : Option V3) (v : V3) : Fv C (k + 2) (.ref X.stats.fa) [sumD w t, sumD w (some v)] (sumD w (some (addO t v))) :=
  fv_at (W := []) X.stats rfl (fun _ _ => z_stats X.B X.X w t v) nofun
theorem fv_vector (X : Defs C) (x : Int) : Fv C (k + 1) (.ref X.vector.fa) [.int x] (vecD (Int.fmod (x + 1) 3 - 1) (Int.fmod (Int.fdiv x 3 + 1) 3 - 1) (Int.fdiv x 9)) :=
  fv_at (W := []) X.vector rfl (fun _ _ => z_vector) nofun
theorem fv_entry (X : Defs C) (w : Bool) (v : V3) : Fv C (k + 1) (.ref X.entry.fa) [v.d, .bool w] (sumD w (some v)) :=
  fv_at (W := []) X.entry rfl (fun _ _ => z_entry) nofun
theorem fv_together (X : Defs C) (vs : List V3) (hl : vs.length ≤ 100) : Fv C (k + 1) (.ref X.together.fa) [.lst (vs.map V3.d)] (V3.sum vs).d :=
  fv_at (W := []) X.together rfl (fun _ _ => z_together hl X.B.brange.bn fun ec h => X.B.bsum.bn h) nofun
theorem fv_orders (X : Defs C) (n : Nat) (hn : n ≤ 4) : Fv C (k + 1) (.ref X.orders.fa) [.int n] (.lst ((ords n).map ordD)) :=
  fv_at (W := ["k"]) X.orders rfl (fun _ _ => z_orders hn fun ec h => X.B.brange.bn h) (fun x hx => by
    rw [List.mem_singleton] at hx; subst hx; exact ⟨rfl, fun n => rfl⟩)

/-- the running sums -/
def alongV : Option V3 → List V3 → List (Option V3)
  | t, [] => [t]
  | t, v :: vs => t :: alongV (some (addO t v)) vs
theorem along_take (t : Option V3) (vs : List V3) : ∀ i, i < vs.length → ∀ v, vs[i]? = some v → (alongV t (vs.take (i + 1))) = alongV t (vs.take i) ++ [some (addO ((alongV t (vs.take i)).getLast?.getD none) v)] := by
  induction vs generalizing t with
  | nil => intro i hi; simp at hi
  | cons u us ih =>
    intro i hi v hv
    cases i with
    | zero => simp at hv; subst hv; simp [alongV]
    | succ i =>
      have := ih (some (addO t u)) i (by simpa using hi) v (by simpa using hv)
      simp only [List.take_succ_cons, alongV, this, List.cons_append]
      have hne : alongV (some (addO t u)) (us.take i) ≠ [] := by cases us.take i <;> simp [alongV]
      rw [List.getLast?_cons_of_ne_nil hne]
theorem along_len (t : Option V3) (vs : List V3) : (alongV t vs).length = vs.length + 1 := by
  induction vs generalizing t with
  | nil => rfl
  | cons u us ih => simp [alongV, ih]
theorem z_along {code : Value} {qual : Str} (X : Defs C) (w : Bool) (vs : List V3) (hl : vs.length ≤ 100) :
    St C (k + 2) ⟨along_scope, code, qual⟩ W (argSto ["entries"] [.lst (vs.map fun v => sumD w (some v))]) along_body fun o => o = .ret (.lst ((alongV none vs).map (sumD w))) := by
  refine zown (ds := [sumD w none]) (llist (s1 (vtup (sc vint (sc vint (sc vint (sc vint (s1 vd0)))))))) fun a => ?_
  refine zfor (fun i τ => τ.lookup (Str.ofString "sums") = some (.own a ((alongV none (vs.take i)).map (sumD w)))) (ilistn vr) rfl (fun i τ d hI hd => ⟨_, tname, ?_⟩) fun τ hI => ?_
  · rw [List.getElem?_map, Option.map_eq_some_iff] at hd
    obtain ⟨v, hv, rfl⟩ := hd
    have hi : i < vs.length := by
      rcases Nat.lt_or_ge i vs.length with q | q
      · exact q
      · rw [List.getElem?_eq_none q] at hv; cases hv
    have h1 : (τ.set (Str.ofString "entry") (.dat (sumD w (some v)))).lookup (Str.ofString "sums") = some (.own a ((alongV none (vs.take i)).map (sumD w))) := (lookup_set_ne (by decide)).trans hI
    have hlen : (alongV none (vs.take i)).length = i + 1 := by rw [along_len, List.length_take]; omega
    obtain ⟨t, ht⟩ : ∃ t, (alongV none (vs.take i)).getLast? = some t := by
      cases q : (alongV none (vs.take i)).getLast? with
      | none => rw [List.getLast?_eq_none_iff] at q; rw [q] at hlen; simp at hlen
      | some t => exact ⟨t, rfl⟩
    refine zapp h1 (vcall X.stats (fv_stats X w t v) (sc (vlast (eown h1) (vneg vint) (by rw [List.getLast?_map, ht]; rfl) (by simp [hlen]; omega)) (s1 (vr lookup_set_self)))) (by simp [hlen]; omega) (znil ?_)
    show List.lookup (Str.ofString "sums") (Sto.set _ _ _) = some (.own a ((alongV none (vs.take (i + 1))).map (sumD w)))
    rw [along_take none vs i hi v hv, ht, List.map_append]
    exact lookup_set_self
  · rw [List.length_map, List.take_length] at hI
    exact zfreeze hI (zret (vr lookup_set_self) rfl)
end Mine
namespace Mine
open PySem PySem.W PyProof.Rows PySem.Calls PySem.Spec
variable {C : Cfg} {k : Nat} {ec : EC} {σ : Sto} {W W' : List Str}

abbrev cSel : Str := Str.ofString "comp_select_list"
abbrev cCmp : Str := Str.ofString "compare"
structure FnAt (C : Cfg) (body : List Stmt) (scope : Scope) (params : List Str) where
  fa : Addr
  o : Obj
  fd : FuncData
  ok : DefOK C fa o fd body params
  sc : fd.scope = scope
structure CmpOK (C : Cfg) where
  cf : FnAt C compare_body compare_scope ["self", "left", "right"]
  init : FnAt C init_body init_scope ["self", "comp_select_list"]
  mgT : C.mg "TupleComp" = some (.ref C.TC)
  plainC : plainGet C.K C.TC cCmp = true
  plainS : plainGet C.K C.TC cSel = true
  hasD : hasDictIn C.K C.TC = true
  makes : makesIn C.K C.TC = true
  findC : findIn C.K (.ref C.TC) cCmp = some (some (.ref cf.fa))
  findS : findIn C.K (.ref C.TC) cSel = some none
  findI : findIn C.K (.ref C.TC) "__init__" = some (some (.ref init.fa))
  isC : isFn C.K (.ref cf.fa) = true
  isI : typeIn C.K (.ref init.fa) = some (.type "function")
  keepC : keepIn C.K (.ref cf.fa) = true
  keepT : keepIn C.K (.ref C.TC) = true
  setA : findIn C.K (.ref C.TC) "__setattr__" = some (some (.builtin "object.__setattr__"))
  over : plainOver C.K C.TC = true
  taker : takerIn C.K C.TC cSel = some none

theorem fv_fn {body : List Stmt} {scope : Scope} {params : List Str} {ds : List D} {d : D} (F : FnAt C body scope params) (hl : params.length = ds.length)
    (h : ∀ code qual, St C k ⟨scope, code, qual⟩ W (argSto params ds) body fun o => o = .ret d)
    (hW : ∀ x ∈ W, scope.names.lookup x = some .cell ∧ ∀ n, ((cellsFrom n scope.names []).lookup x).isSome = true) : Fv C (k + 1) (.ref F.fa) ds d := by
  obtain ⟨fa, o, fd, ok, sc⟩ := F
  subst sc
  exact ⟨fn_def ok hl hW (h _ _).run⟩

/-- self.comp_select_list -/
theorem ev_sel {x : Str} {xp pos : Pos} {ds : List D} (X : CmpOK C) (hx : σ.lookup x = some (.dat (.cmp (.lst ds)))) (h1 : (x == ("__debug__" : Str)) = false) (h2 : (x == ("__classdict__" : Str)) = false)
    (he2 : ∀ env, eval (.Attribute (.Name x xp) cSel pos) env = (do
      let o ← eval (.Name x xp) env
      standAt pos.atName
      let r ← holding [o] (getAttr o cSel true)
      letTemporaryGo (.Name x xp) o r
      pure r)) : Ev C k ec σ (.Attribute (.Name x xp) cSel pos) (.lst ds) := by
  intro A W env h₀ ex s Q E hr he S hQ
  refine Attribute_Name_ (ev_var hx h1 h2 _ _ _ _ _ _ _ _ hr he S fun v s1 g1 r1 => ?_) (he2 env)
  rw [Rep] at r1
  obtain ⟨a, dx, es, n, u, rfl, _, _, ha, hd, hs, _, ru⟩ := r1
  have I : InstAt s1.heap a (instObj C.TC dx) C.TC (some (dictOf es n)) := ⟨ha, rfl, rfl, hd⟩
  have hu : handedIn u = true := by simp only [Rep] at ru; obtain ⟨b, _, _, rfl, _⟩ := ru; rfl
  refine get_value (S.go g1).g.kin I (plainGet_of X.plainS).1 (findObj_own X.hasD X.findS rfl ?_) hu (hQ _ _ (g1.trans (.keep fun _ _ e => e)) (by
    exact ru))
  rw [lookIn_dict]; exact hs

/-- comp.compare(a, b) -/
theorem ev_compare {x : Str} {xp apos pos : Pos} {e f : Expr} {ds : List D} {d1 d2 d : D} (X : CmpOK C) (hf : Fn C k (.ref X.cf.fa) [.cmp (.lst ds), d1, d2] d) (hx : σ.lookup x = some (.dat (.cmp (.lst ds)))) (ha : Evs C k ec σ [e, f] [d1, d2]) (h1 : (x == ("__debug__" : Str)) = false) (h2 : (x == ("__classdict__" : Str)) = false)
    (hse : ∀ env, ∃ x rest, backTo pos (starEach [e, f] env) = (false, x) :: rest ∧ ((false, x) :: rest).any (·.1) = false)
    (he2 : ∀ env, ∃ pl, eval (.Call (.Attribute (.Name x xp) cCmp apos) [e, f] [] pos) env = (do
      let ov ← eval (.Name x xp) env
      standAt apos.atName
      let (f', first) ← holding [ov] (getMethod ov cCmp pl)
      callWith pos f' first (backTo pos (starEach [e, f] env)) [])) : Ev C k ec σ (.Call (.Attribute (.Name x xp) cCmp apos) [e, f] [] pos) d := by
  intro A W env h₀ ex s Q E hr he S hQ
  obtain ⟨pl, he2⟩ := he2 env
  refine MethodCall_ (pl := pl) (ev_var hx h1 h2 _ _ _ _ _ _ _ _ hr he S fun v s1 g1 r1 => ?_) he2
  have r0 := r1
  rw [Rep] at r1
  obtain ⟨a, dx, es, n, u, rfl, _, _, hav, hd, _, hc, ru⟩ := r1
  have I : InstAt s1.heap a (instObj C.TC dx) C.TC (some (dictOf es n)) := ⟨hav, rfl, rfl, hd⟩
  have S1 := S.go g1
  refine method_fn S1.g.kin I (plainGet_of X.plainC).1 (plainGet_of X.plainC).2 X.findC (beq_iff_eq.mp X.isC) (by show (lookIn cCmp (dictOf es n)).map _ = _; rw [lookIn_dict, hc]; rfl) ?_
  have hsp := ha A W env h₀ ex s1 pos (fun vs s2 => C.K.In s2.heap ∧ wpAny (model C.prog C.w) A (call (.ref X.cf.fa) (.ref a :: vs)) Q E s2) E hr he S1 fun vs s2 g2 r2 => ?_
  · obtain ⟨y, rest, e1, e2⟩ := hse env
    rw [e1] at hsp ⊢
    refine callWith_of (P := C.K.In) (by rw [e2]; rfl) (keeps_K X.keepC) (evalArgs_plain (wpAny_mono hsp (fun vs s2 h2 => h2) fun _ _ e => e))
  · have S2 := S1.go g2
    exact ⟨S2.g.kin, hf _ _ _ _ _ _ (S2.pre hr) S2.nodup (.cons (r0.go g2 S1.tab) r2) fun r s3 g3 r3 => hQ _ _ ((g1.trans g2).trans g3) r3⟩
end Mine
namespace Mine
open PySem PySem.W PyProof.Rows PySem.Calls PySem.Spec
variable {C : Cfg} {k : Nat} {ec : EC} {σ : Sto} {W W' : List Str}

theorem make_wp {A : Around} {ex : List Addr} {s : Shared} {u : Value} {d : D} {Q : Value → Shared → Prop} {E : Value → Shared → Prop} (X : CmpOK C) (p : Pre C (k + 2) A ex s) (r : Rep C s.heap ex d u)
    (hQ : ∀ v s', Go C s s' → Rep C s'.heap ex (.cmp d) v → Q v s') : wpAny (model C.prog C.w) A (call (.ref C.TC) [u]) Q E s := by
  obtain ⟨fa, o, fd, ok, sc⟩ := id X.init
  have X0 := p.g.kin
  obtain ⟨h, g, dr, t, os⟩ := s
  refine wpAny_call (make_core (makes_of X0 X.makes) (looks_findIn X0 X.findI) (fun self => bind_fn X0 self X.isI) (.inl rfl) ?_)
  have k2 : ∀ b o, h.get? b = some o → ((h.push emptyDict).push (instObj C.TC h.objs.size)).get? b = some o := fun b o e => Heap.get?_push_of_some _ (Heap.get?_push_of_some _ e)
  have X2 : C.K.In ((h.push emptyDict).push (instObj C.TC h.objs.size)) := fun a o e => k2 _ _ (X0 a o e)
  have hsz : ((h.push emptyDict).push (instObj C.TC h.objs.size)).objs.size = h.objs.size + 2 := by rw [Heap.size_push, Heap.size_push]
  have hx2 : ((h.push emptyDict).push (instObj C.TC h.objs.size)).get? (h.objs.size + 1) = some (instObj C.TC h.objs.size) := by
    have := Heap.get?_push_size (h.push emptyDict) (o := instObj C.TC h.objs.size) rfl
    rwa [Heap.size_push] at this
  have hd2 : ((h.push emptyDict).push (instObj C.TC h.objs.size)).get? h.objs.size = some emptyDict := Heap.get?_push_of_some _ (Heap.get?_push_size _ rfl)
  have okI := X.init.ok
  refine codeAny_call_function (by rw [depth_under_make]; have := p.room.depth; omega) (X2 _ _ okI.at_) okI.data okI.co okI.gen okI.stmts (codeRec_of X2 okI.code) (okI.bind ⟨_, g, dr, t, os⟩ [.ref (h.objs.size + 1), u] X2 rfl _ _ _ _ ?_)
  rw [okI.gl, okI.bi, okI.clo]
  refine wpAny_newFunctionEnv (by rw [X.init.sc]; decide) (by rw [X.init.sc]; intro y hy; simp at hy; rcases hy with rfl | rfl <;> rfl) (fun h' hns hsb => ?_) okI.kind
  have hlt : ∀ b o, ((h.push emptyDict).push (instObj C.TC h.objs.size)).get? b = some o → h'.get? b = some o := fun b o e => hsb.extBut b o (Nat.ne_of_lt (Heap.lt_size e)) (Heap.get?_push_of_some _ e)
  refine ⟨p.g.nolimit.keeps fun b o e => hlt _ _ (k2 _ _ e), codeAny_func ?_⟩
  refine wpAny_execs_cons (plainObj_wpAny_Assign_Attribute ?_)
  obtain ⟨L, hL⟩ : ∃ L, ((h.push emptyDict).push (instObj C.TC h.objs.size)).objs.size = L := ⟨_, rfl⟩
  have hkind : X.init.fd.scope.kind = .function := okI.kind
  refine wpAny_Name (wpAny_loadName_local (m := fun y => List.lookup y (([Str.ofString "self", Str.ofString "comp_select_list"] : List Str).zip [Value.ref (h.objs.size + 1), u]).reverse) hkind (by show X.init.fd.scope.names.lookup _ = _; rw [X.init.sc]; rfl) hns rfl ?_) rfl
  refine wpAny_Name (wpAny_loadName_local (m := fun y => List.lookup y (([Str.ofString "self", Str.ofString "comp_select_list"] : List Str).zip [Value.ref (h.objs.size + 1), u]).reverse) hkind (by show X.init.fd.scope.names.lookup _ = _; rw [X.init.sc]; rfl) hns rfl ?_) rfl
  have X3 : C.K.In h' := fun a o e => hlt _ _ (X2 a o e)
  have hLn : L = h.objs.size + 2 := by rw [← hL]; exact hsz
  have F3 : Fr h L h' (fun y => List.lookup y (([Str.ofString "self", Str.ofString "comp_select_list"] : List Str).zip [Value.ref (h.objs.size + 1), u]).reverse) := ⟨(show h'.Ns L _ by rw [← hL]; exact hns), fun b o e => hlt _ _ (k2 _ _ e), by rw [hLn]; exact Nat.le_add_right _ 2⟩
  have hnone : ∀ n, h.objs.size ≤ n → h.get? n = none := fun n hn => by
    cases q : h.get? n with
    | none => rfl
    | some o => exact absurd (Heap.lt_size q) (Nat.not_lt.mpr hn)
  have N3 : News h L h' ([] ++ (h.objs.size, dictOf [] 0) :: [(h.objs.size + 1, instObj C.TC h.objs.size)]) := fun q hq => by
    simp only [List.nil_append, List.mem_cons, List.not_mem_nil, or_false] at hq
    rcases hq with rfl | rfl
    · exact ⟨hlt _ _ hd2, by rw [hLn]; exact Nat.ne_of_lt (Nat.lt_add_of_pos_right (by decide)), hnone _ (Nat.le_refl _)⟩
    · exact ⟨hlt _ _ hx2, by rw [hLn]; exact Nat.ne_of_lt (Nat.lt_succ_self _), hnone _ (Nat.le_add_right _ 1)⟩
  have I3 : InstAt h' (h.objs.size + 1) (instObj C.TC h.objs.size) C.TC (some (dictOf [] 0)) := ⟨hlt _ _ hx2, rfl, rfl, hlt _ _ hd2⟩
  refine set_plain X3 I3 X.setA (osa_dict (pre := []) (post := [(h.objs.size + 1, instObj C.TC h.objs.size)]) F3 N3 X3 I3 rfl X.over X.taker X.hasD (by rfl) (fun _ hp => nomatch hp) (fun q hq => by rw [List.mem_singleton] at hq; subst hq; exact Nat.succ_ne_self _) (putName_dict _ _ _ _ _ _) rfl (by simp [putL]) fun h4 F4 N4 => ?_)
  refine wpAny_execs_nil ⟨rfl, ?_⟩
  have a1 := (N4 (h.objs.size, _) (.head _)).1
  have a2 := (N4 (h.objs.size + 1, instObj C.TC h.objs.size) (.tail _ (.head _))).1
  refine hQ _ _ (.keep F4.keep) ?_
  simp only [Rep]
  refine ⟨_, _, _, _, u, rfl, fun m => p.alive _ m (hnone _ (Nat.le_add_right _ 1)), fun m => p.alive _ m (hnone _ (Nat.le_refl _)), a2, a1, by rfl, by rfl, r.keep F4.keep⟩
end Mine
namespace Mine
open PySem PySem.W PyProof.Rows PySem.Calls PySem.Spec
variable {C : Cfg} {k : Nat} {ec : EC} {σ : Sto} {W W' : List Str}

theorem ev_make {p pos : Pos} {e : Expr} {d : D} (X : CmpOK C) (h : Ev C (k + 2) ec σ e d) (hk : ec.kind "TupleComp" = some .globalImplicit) (hse : ∀ env, backTo pos (starEach [e] env) = [(false, eval e env)]) : Ev C (k + 2) ec σ (.Call (.Name "TupleComp" p) [e] [] pos) (.cmp d) := by
  intro A W env h₀ ex s Q E hr he S hQ
  refine wpAny_Call_NameR (ev_glob hk X.mgT rfl _ _ _ _ _ _ _ _ hr he S fun v s1 g1 r1 => ?_)
  simp only [Rep] at r1
  subst r1
  rw [hse env]
  refine callWith_of (P := C.K.In) rfl (keeps_K X.keepT) (evalArgs_plain (spliced_cons (h _ _ _ _ _ _ _ _ hr he (S.go g1) fun u s2 g2 r2 => spliced_nil ?_)))
  have S2 := (S.go g1).go g2
  exact ⟨S2.g.kin, make_wp X (S2.pre hr) r2 fun v s3 g3 r3 => hQ _ _ ((g1.trans g2).trans g3) r3⟩
theorem vmake {p pos : Pos} {e : Expr} {d : D} (X : CmpOK C) (h : V C (k + 2) ec σ e d) (hk : ec.kind "TupleComp" = some .globalImplicit := by rfl) (hse : ∀ env, backTo pos (starEach [e] env) = [(false, eval e env)] := by intro _; rfl) : V C (k + 2) ec σ (.Call (.Name "TupleComp" p) [e] [] pos) (.cmp d) := ⟨ev_make X h.run hk hse⟩
theorem vsel {x : Str} {xp pos : Pos} {ds : List D} (X : CmpOK C) (hx : σ.lookup x = some (.dat (.cmp (.lst ds))) := by rfl) (h1 : (x == ("__debug__" : Str)) = false := by rfl) (h2 : (x == ("__classdict__" : Str)) = false := by rfl)
    (he2 : ∀ env, eval (.Attribute (.Name x xp) cSel pos) env = (do
      let o ← eval (.Name x xp) env
      standAt pos.atName
      let r ← holding [o] (getAttr o cSel true)
      letTemporaryGo (.Name x xp) o r
      pure r) := by intro _; with_unfolding_all rfl) : V C k ec σ (.Attribute (.Name x xp) cSel pos) (.lst ds) := ⟨ev_sel X hx h1 h2 he2⟩
theorem vcompare {x : Str} {xp apos pos : Pos} {e f : Expr} {ds : List D} {d1 d2 d : D} (X : CmpOK C) (hf : Fv C k (.ref X.cf.fa) [.cmp (.lst ds), d1, d2] d) (hx : σ.lookup x = some (.dat (.cmp (.lst ds)))) (ha : Vs C k ec σ [e, f] [d1, d2]) (h1 : (x == ("__debug__" : Str)) = false := by rfl) (h2 : (x == ("__classdict__" : Str)) = false := by rfl)
    (hse : ∀ env, ∃ x rest, backTo pos (starEach [e, f] env) = (false, x) :: rest ∧ ((false, x) :: rest).any (·.1) = false := by intro _; exact ⟨_, _, rfl, rfl⟩)
    (he2 : ∀ env, ∃ pl, eval (.Call (.Attribute (.Name x xp) cCmp apos) [e, f] [] pos) env = (do
      let ov ← eval (.Name x xp) env
      standAt apos.atName
      let (f', first) ← holding [ov] (getMethod ov cCmp pl)
      callWith pos f' first (backTo pos (starEach [e, f] env)) []) := by intro _; exact ⟨_, rfl⟩) : V C k ec σ (.Call (.Attribute (.Name x xp) cCmp apos) [e, f] [] pos) d := ⟨ev_compare X hf.run hx ha.run h1 h2 hse he2⟩

def pickD (p : Int × Int) : D := .tup [.int p.1, .int p.2]
def cmpV (a b : Int → Int) : List (Int × Int) → Int
  | [] => 0
  | p :: r => if a p.1 < b p.1 then -p.2 else if b p.1 < a p.1 then p.2 else cmpV a b r
def okPick (p : Int × Int) : Prop := 0 ≤ p.1 ∧ p.1 ≤ 2
theorem z_compare {code : Value} {qual : Str} (X : CmpOK C) (ps : List (Int × Int)) (hp : ∀ p ∈ ps, okPick p) (ds es : List D) (a b : Int → Int) (hl : ds.length = 5) (hl2 : es.length = 5) (ha : ∀ c : Int, 0 ≤ c → c ≤ 2 → ds[c.toNat]? = some (.int (a c))) (hb : ∀ c : Int, 0 ≤ c → c ≤ 2 → es[c.toNat]? = some (.int (b c))) :
    St C k ⟨compare_scope, code, qual⟩ W (argSto ["self", "left", "right"] [.cmp (.lst (ps.map pickD)), .tup ds, .tup es]) compare_body fun o => o = .ret (.int (cmpV a b ps)) := by
  refine zfor (fun i τ => (At τ "left" (.tup ds) ∧ At τ "right" (.tup es)) ∧ cmpV a b ps = cmpV a b (ps.drop i)) (ilist (vsel X) (.inr ⟨_, _, _, rfl, fun d hd => by obtain ⟨p, _, rfl⟩ := List.mem_map.mp hd; exact ⟨_, rfl⟩⟩)) ⟨⟨rfl, rfl⟩, rfl⟩ (fun i τ d hI hd => ?_) fun τ hI => ?_
  · rw [List.getElem?_map, Option.map_eq_some_iff] at hd
    obtain ⟨p, hpi, rfl⟩ := hd
    obtain ⟨q1, q2⟩ := hp p (List.mem_of_getElem? hpi)
    have hi : i < ps.length := by
      rcases Nat.lt_or_ge i ps.length with q | q
      · exact q
      · rw [List.getElem?_eq_none q] at hpi; cases hpi
    have hdr : ps.drop i = p :: ps.drop (i + 1) := by
      rw [List.drop_eq_getElem_cons hi]
      rw [List.getElem?_eq_getElem hi] at hpi
      rw [Option.some.inj hpi]
    obtain ⟨⟨hL, hR⟩, hc⟩ := hI
    rw [hdr] at hc
    refine ⟨_, tseq [("index", _), ("direction", _)] (.inl rfl), ?_⟩
    have e1 : At (τ.sets ["index", "direction"] [.int p.1, .int p.2]) "left" (.tup ds) := (lookup_set_ne (by decide)).trans ((lookup_set_ne (by decide)).trans hL)
    have e2 : At (τ.sets ["index", "direction"] [.int p.1, .int p.2]) "right" (.tup es) := (lookup_set_ne (by decide)).trans ((lookup_set_ne (by decide)).trans hR)
    have e3 : At (τ.sets ["index", "direction"] [.int p.1, .int p.2]) "index" (.int p.1) := (lookup_set_ne (by decide)).trans lookup_set_self
    have e4 : At (τ.sets ["index", "direction"] [.int p.1, .int p.2]) "direction" (.int p.2) := lookup_set_self
    show St C k _ W (τ.sets ["index", "direction"] [.int p.1, .int p.2]) _ _
    generalize τ.sets ["index", "direction"] [.int p.1, .int p.2] = τ1 at e1 e2 e3 e4
    refine zset (vtitem (vr e1) (vr e3) q1 (ha _ q1 q2) (by omega)) ?_
    have f1 : At (τ1.set "l" (.dat (.int (a p.1)))) "right" (.tup es) := (lookup_set_ne (by decide)).trans e2
    have f2 : At (τ1.set "l" (.dat (.int (a p.1)))) "index" (.int p.1) := (lookup_set_ne (by decide)).trans e3
    refine zset (vtitem (vr f1) (vr f2) q1 (hb _ q1 q2) (by omega)) ?_
    have g1 : At ((τ1.set "l" (.dat (.int (a p.1)))).set "r" (.dat (.int (b p.1)))) "l" (.int (a p.1)) := (lookup_set_ne (by decide)).trans lookup_set_self
    have g2 : At ((τ1.set "l" (.dat (.int (a p.1)))).set "r" (.dat (.int (b p.1)))) "r" (.int (b p.1)) := lookup_set_self
    have g3 : At ((τ1.set "l" (.dat (.int (a p.1)))).set "r" (.dat (.int (b p.1)))) "direction" (.int p.2) := (lookup_set_ne (by decide)).trans ((lookup_set_ne (by decide)).trans e4)
    have g4 : At ((τ1.set "l" (.dat (.int (a p.1)))).set "r" (.dat (.int (b p.1)))) "left" (.tup ds) := (lookup_set_ne (by decide)).trans ((lookup_set_ne (by decide)).trans e1)
    have g5 : At ((τ1.set "l" (.dat (.int (a p.1)))).set "r" (.dat (.int (b p.1)))) "right" (.tup es) := (lookup_set_ne (by decide)).trans ((lookup_set_ne (by decide)).trans e2)
    generalize (τ1.set "l" (.dat (.int (a p.1)))).set "r" (.dat (.int (b p.1))) = τ2 at g1 g2 g3 g4 g5
    refine zif (tcmp (vr g1) (vr g2) clt) (fun h => ?_) fun h => zif (tcmp (vr g1) (vr g2) cgt) (fun h' => ?_) fun h' => znil ?_
    · refine zret (vneg (vr g3)) ?_
      show Out.ret _ = Out.ret _
      rw [hc]; simp only [cmpV]; rw [if_pos (by simpa using h)]
    · refine zret (vr g3) ?_
      show Out.ret _ = Out.ret _
      rw [hc]; simp only [cmpV]; rw [if_neg (by simpa using h), if_pos (by simpa using h')]
    · refine ⟨⟨g4, g5⟩, ?_⟩
      rw [hc]; simp only [cmpV]; rw [if_neg (by simpa using h), if_neg (by simpa using h')]
  · refine zret vint ?_
    rw [List.length_map, List.drop_length] at hI
    show Out.ret _ = Out.ret _
    rw [hI.2]; rfl

def crd (t : Option V3) (c : Int) : Int := (t.getD ⟨0, 0, 0⟩).at c
def cmpO (ps : List (Int × Int)) (s t : Option V3) : Int := cmpV (crd s) (crd t) ps
theorem sumD_items (w : Bool) (t : Option V3) : ∃ ds : List D, sumD w t = .tup ds ∧ ds.length = 5 ∧ ∀ c : Int, 0 ≤ c → c ≤ 2 → ds[c.toNat]? = some (.int (crd t c)) := by
  refine ⟨_, sumD_eq w t, rfl, fun c h0 h2 => ?_⟩
  have : c = 0 ∨ c = 1 ∨ c = 2 := by omega
  cases t <;> rcases this with rfl | rfl | rfl <;> rfl
theorem fv_compare (X : CmpOK C) (ps : List (Int × Int)) (hp : ∀ p ∈ ps, okPick p) (w : Bool) (s t : Option V3) : Fv C (k + 1) (.ref X.cf.fa) [.cmp (.lst (ps.map pickD)), sumD w s, sumD w t] (.int (cmpO ps s t)) := by
  obtain ⟨ds, e1, hl1, h1⟩ := sumD_items w s
  obtain ⟨es, e2, hl2, h2⟩ := sumD_items w t
  rw [e1, e2]
  exact fv_fn (W := []) X.cf rfl (fun _ _ => z_compare X ps hp ds es _ _ hl1 hl2 h1 h2) nofun

/-- the greatest, the first of equal ones -/
def topV (ps : List (Int × Int)) : Option V3 → List (Option V3) → Option V3
  | t, [] => t
  | t, o :: r => topV ps (if cmpO ps o t = 1 then o else t) r
theorem topV_snoc (ps : List (Int × Int)) : ∀ (l : List (Option V3)) (t o : Option V3), topV ps t (l ++ [o]) = if cmpO ps o (topV ps t l) = 1 then o else topV ps t l
  | [], t, o => rfl
  | x :: l, t, o => by simp only [List.cons_append, topV]; exact topV_snoc ps l _ o
theorem z_greatest {code : Value} {qual : Str} (X : CmpOK C) (ps : List (Int × Int)) (hp : ∀ p ∈ ps, okPick p) (w : Bool) (l : List (Option V3)) (t0 : Option V3) (h0 : l[0]? = some t0) (hl : l.length ≤ 100) :
    St C (k + 1) ⟨greatest_scope, code, qual⟩ W (argSto ["sums", "comp"] [.lst (l.map (sumD w)), .cmp (.lst (ps.map pickD))]) greatest_body fun o => o = .ret (sumD w (topV ps t0 l)) := by
  refine zset (vitem (V.e (ds := l.map (sumD w)) vr) vint (by decide) (by rw [List.getElem?_map]; show Option.map _ l[0]? = _; rw [h0]; rfl) (by simp; omega)) ?_
  refine zfor (fun i τ => At τ "comp" (.cmp (.lst (ps.map pickD))) ∧ At τ "top" (sumD w (topV ps t0 (l.take i)))) (ilistn (ds := l.map (sumD w)) (vr (by rfl))) ⟨rfl, rfl⟩ (fun i τ d hI hd => ⟨_, tname, ?_⟩) fun τ hI => ?_
  · rw [List.getElem?_map, Option.map_eq_some_iff] at hd
    obtain ⟨o, ho, rfl⟩ := hd
    have e1 : At (τ.set "one" (.dat (sumD w o))) "comp" (.cmp (.lst (ps.map pickD))) := (lookup_set_ne (by decide)).trans hI.1
    have e2 : At (τ.set "one" (.dat (sumD w o))) "top" (sumD w (topV ps t0 (l.take i))) := (lookup_set_ne (by decide)).trans hI.2
    have e3 : At (τ.set "one" (.dat (sumD w o))) "one" (sumD w o) := lookup_set_self
    have hstep : topV ps t0 (l.take (i + 1)) = if cmpO ps o (topV ps t0 (l.take i)) = 1 then o else topV ps t0 (l.take i) := by
      rw [List.take_add_one, ho]; exact topV_snoc ps _ _ _
    refine zif (tcmp (vcompare X (fv_compare X ps hp w o _) e1 (sc (vr e3) (s1 (vr e2)))) vint ceq) (fun h => ?_) fun h => znil ⟨e1, ?_⟩
    · refine zset (vr e3) (znil (znil ⟨(lookup_set_ne (by decide)).trans e1, ?_⟩))
      rw [hstep, if_pos (by simpa using h)]; exact lookup_set_self
    · rw [hstep, if_neg (by simpa using h)]; exact e2
  · rw [List.length_map, List.take_length] at hI
    exact zret (vr hI.2) rfl
end Mine
namespace Mine
open PySem PySem.W PyProof.Rows PySem.Calls PySem.Spec
variable {C : Cfg} {k : Nat} {ec : EC} {σ : Sto} {W W' : List Str}

theorem ev_not {x : Expr} {pos : Pos} {b : Bool} (h : Ev C k ec σ x (.bool b)) : Ev C k ec σ (.UnaryOp .Not x pos) (.bool (!b)) := by
  intro A W env h₀ ex s Q E hr he S hQ
  refine wpAny_UnaryOp (h _ _ _ _ _ _ _ _ hr he S fun v s1 g1 r1 => ?_)
  simp only [Rep] at r1
  subst r1
  show wpAny _ _ (truthy (.bool b) >>= fun t => pure (.bool (!t))) Q E s1
  exact wpAny_bind (wpAny_truthy_bool (wpAny_pure (hQ _ _ g1 rep_bool)))
theorem vnotv {x : Expr} {pos : Pos} {b : Bool} (h : V C k ec σ x (.bool b)) : V C k ec σ (.UnaryOp .Not x pos) (.bool (!b)) := ⟨ev_not h.run⟩

theorem fv_along (X : Defs C) (w : Bool) (vs : List V3) (hl : vs.length ≤ 100) : Fv C (k + 3) (.ref X.along.fa) [.lst (vs.map fun v => sumD w (some v))] (.lst ((alongV none vs).map (sumD w))) :=
  fv_at (W := []) X.along rfl (fun _ _ => z_along X w vs hl) nofun
theorem fv_greatest (X : Defs C) (Y : CmpOK C) (ps : List (Int × Int)) (hp : ∀ p ∈ ps, okPick p) (w : Bool) (l : List (Option V3)) (t0 : Option V3) (h0 : l[0]? = some t0) (hl : l.length ≤ 100) : Fv C (k + 2) (.ref X.greatest.fa) [.lst (l.map (sumD w)), .cmp (.lst (ps.map pickD))] (sumD w (topV ps t0 l)) :=
  fv_at (W := []) X.greatest rfl (fun _ _ => z_greatest Y ps hp w l t0 h0 hl) nofun

/-- an int that is no bool -/
theorem z_whole {code : Value} {qual : Str} (B : Bns C) (i : Int) : St C k ⟨whole_scope, code, qual⟩ W (argSto ["x"] [.int i]) whole_body fun o => o = .ret (.bool true) :=
  zret (vand (a := true) (b := true) (visi B.bisinstance.bn vr B.bint.bn rfl) fun _ => vnotv (b := false) (visi B.bisinstance.bn vr B.bbool.bn rfl)) rfl
theorem fv_whole (X : Defs C) (i : Int) : Fv C (k + 1) (.ref X.whole.fa) [.int i] (.bool true) := fv_at (W := []) X.whole rfl (fun _ _ => z_whole X.B i) nofun

/-- x = [.. for a, b in .. if ..] -/
theorem zfiltT {t elt iter : Expr} {scope : Scope} {cpos tp : Pos} {n : Nat} {α : Type} {ps : List α} {own : Bool} {x y z : Str} {px py zp pos : Pos} {rest : List Stmt} {Φ : Out → Prop} (cs : List (Str × D)) (d1 d2 : α → D) (q : α → Bool) (f : α → D) (hsrc : Vi C k ec σ (.Tuple [.Name x px, .Name y py] n tp) iter (ps.map fun p => .tup [d1 p, d2 p]) own) (ho : capsIn cs σ)
    (hinj : ∀ a b, D.tup [d1 a, d2 a] = .tup [d1 b, d2 b] → a = b)
    (h : ∀ p ∈ ps, ∀ τ : Sto, At τ x (d1 p) → At τ y (d2 p) → capsIn cs τ → Tt C k (ec.comp scope) τ t (q p) ∧ (q p = true → V C k (ec.comp scope) τ elt (f p))) (hl : ps.length ≤ 1000)
    (hr : St C k ec W (σ.set z (.dat (.lst ((ps.filter q).map f)))) rest Φ) (hsw : ∀ env, EnvOK ec env → swapsWith (.ListComp elt [⟨.Tuple [.Name x px, .Name y py] n tp, iter, [t], 0⟩] scope cpos) (some (.Name z zp)) pos.line env = pure true)
    (hc : capB ec scope (cs.map (·.1)) [] = true := by rfl) (hx : okName (ec.comp scope) [] x = true := by rfl) (hxn : (accN :: cs.map (·.1)).contains x = false := by rfl) (hy : okName (ec.comp scope) [] y = true := by rfl) (hyn : (accN :: cs.map (·.1)).contains y = false := by rfl) (hxy : (x == y) = false := by rfl) (hz : okName ec W z = true := by rfl)
    (hf : ∀ env v, foldedSetIterable iter env v = pure v := by intros; rfl) : St C k ec W σ (.Assign [.Name z zp] (.ListComp elt [⟨.Tuple [.Name x px, .Name y py] n tp, iter, [t], 0⟩] scope cpos) pos :: rest) Φ := by
  have hout : ∃ out : D → List D, ∀ p, out (.tup [d1 p, d2 p]) = if q p then [f p] else [] := by
    classical
    refine ⟨fun d => if e : ∃ p, d = .tup [d1 p, d2 p] then (if q e.choose then [f e.choose] else []) else [], fun p => ?_⟩
    have e : ∃ p', D.tup [d1 p, d2 p] = .tup [d1 p', d2 p'] := ⟨p, rfl⟩
    show (if e : _ then _ else _) = _
    rw [dif_pos e]
    have : e.choose = p := (hinj _ _ e.choose_spec).symm
    rw [this]
  obtain ⟨out, hout⟩ := hout
  have hfm : ∀ l : List α, ((l.map fun p => D.tup [d1 p, d2 p]).flatMap out) = (l.filter q).map f := fun l => by
    rw [List.flatMap_map]
    rw [← fm_filt]
    congr 1
    funext p
    exact hout p
  rw [← hfm] at hr
  refine ⟨xs_cons (x1_assign_comp (out := out) (B := restIf t elt) (ip := iter.pos) (CapOK.of hc ho) hsrc.run hf (fun _ _ _ => rfl) (fun D₁ as σ' d hca hd hle => ?_) (okName.of hz) hsw hr.run)⟩
  obtain ⟨p, hp, rfl⟩ := List.mem_map.mp hd
  have hxy' : x ≠ y := by simpa using hxy
  have h1 : CA cs D₁ as ((σ'.set x (.dat (d1 p))).set y (.dat (d2 p))) := (hca.set (nmem hxn)).set (nmem hyn)
  obtain ⟨ht, hv⟩ := h p hp ((σ'.set x (.dat (d1 p))).set y (.dat (d2 p))) ((lookup_set_ne hxy').trans lookup_set_self) lookup_set_self (capsIn_iff.mpr h1.cap)
  refine ⟨_, tg_seq [(x, px), (y, py)] (.inl rfl) rfl (fun r hr => ?_) rfl, bk_if (d := f p) ht.run (fun e => (hv e).run) h1.acc ?_ (fun e => ?_) fun e => ?_⟩
  · simp only [List.mem_cons, List.not_mem_nil, or_false] at hr
    rcases hr with rfl | rfl
    · exact okName.of hx
    · exact okName.of hy
  · rw [hfm] at hle
    have := List.length_filter_le q ps
    rw [List.length_append, List.length_map] at hle
    omega
  · rw [hout, if_pos e]; exact h1.put (nodup_of (by
      have h8 := hc
      unfold capB at h8
      simp only [Bool.and_eq_true] at h8
      simpa using h8.2.2.2.2.2.2.2))
  · rw [hout, if_neg (by rw [e]; decide), List.append_nil]; exact h1

/-- the sign by the picks -/
def partsV (a b : Int → Int) (ps : List (Int × Int)) : List Int := (ps.filter fun p => a p.1 != b p.1).map fun p => p.2 * (a p.1 - b p.1)
def absI (a : Int) : Int := if a < 0 then -a else a
def signV (a b : Int → Int) (ps : List (Int × Int)) : Int := match partsV a b ps with
  | [] => 0
  | x :: _ => Int.fdiv x (absI x)
def okWay (p : Int × Int) : Prop := p.2 = 1 ∨ p.2 = -1
theorem parts_ne {a b : Int → Int} {ps : List (Int × Int)} (hw : ∀ p ∈ ps, okWay p) : ∀ x ∈ partsV a b ps, x ≠ 0 := by
  intro x hx
  obtain ⟨p, hp, rfl⟩ := List.mem_map.mp hx
  obtain ⟨h1, h2⟩ := List.mem_filter.mp hp
  have h3 : a p.1 - b p.1 ≠ 0 := by
    have : a p.1 ≠ b p.1 := by simpa using h2
    omega
  rcases hw p h1 with e | e <;> rw [e] <;> omega
theorem z_sign {code : Value} {qual : Str} (B : Bns C) (ps : List (Int × Int)) (hp : ∀ p ∈ ps, okPick p) (hw : ∀ p ∈ ps, okWay p) (hl : ps.length ≤ 100) (ds es : List D) (a b : Int → Int) (hl1 : ds.length = 5) (hl2 : es.length = 5) (ha : ∀ c : Int, 0 ≤ c → c ≤ 2 → ds[c.toNat]? = some (.int (a c))) (hb : ∀ c : Int, 0 ≤ c → c ≤ 2 → es[c.toNat]? = some (.int (b c))) :
    St C k ⟨sign_scope, code, qual⟩ W (argSto ["one", "other", "picks"] [.tup ds, .tup es, .lst (ps.map pickD)]) sign_body fun o => o = .ret (.int (signV a b ps)) := by
  refine zfiltT (α := Int × Int) [("one", .tup ds), ("other", .tup es)] (fun p => .int p.1) (fun p => .int p.2) (fun p => a p.1 != b p.1) (fun p => .int (p.2 * (a p.1 - b p.1))) (ilist vr (.inr ⟨_, _, _, rfl, fun d hd => by obtain ⟨p, _, rfl⟩ := List.mem_map.mp hd; exact ⟨_, rfl⟩⟩)) ⟨rfl, rfl, trivial⟩ (fun p q e => ?_) (fun p hps τ h1 h2 hcap => ?_) (by omega) ?_ (fun env he => by cases env; cases he.sc; rfl)
  · obtain ⟨p1, p2⟩ := p
    obtain ⟨q1, q2⟩ := q
    simp only [D.tup.injEq, List.cons.injEq, D.int.injEq, and_true] at e
    rw [e.1, e.2]
  · obtain ⟨q1, q2⟩ := hp p hps
    obtain ⟨c1, c2, _⟩ := hcap
    refine ⟨tcmp (vtitem (vr c1) (vr h1) q1 (ha _ q1 q2) (by omega)) (vtitem (vr c2) (vr h1) q1 (hb _ q1 q2) (by omega)) cne, fun _ => ?_⟩
    exact vmul (vr h2) (vsub (vtitem (vr c1) (vr h1) q1 (ha _ q1 q2) (by omega)) (vtitem (vr c2) (vr h1) q1 (hb _ q1 q2) (by omega))) (.of_left (by rcases hw p hps with e | e <;> rw [e] <;> decide))
  · have hparts : (ps.filter fun p => a p.1 != b p.1).map (fun p => D.int (p.2 * (a p.1 - b p.1))) = (partsV a b ps).map D.int := by rw [partsV, List.map_map]; rfl
    rw [hparts]
    have hpl : (partsV a b ps).length ≤ 100 := by
      unfold partsV
      rw [List.length_map]
      exact Nat.le_trans (List.length_filter_le _ _) hl
    have hne := parts_ne (a := a) (b := b) hw
    refine zret (d := .int (signV a b ps)) (vifexp (tcmp (vr lookup_set_self) (llist s0).v ceq0) (fun h => ?_) fun h => ?_) rfl
    · have : partsV a b ps = [] := by simpa using h
      unfold signV; rw [this]; exact vint
    · cases hq : partsV a b ps with
      | nil => rw [hq] at h; cases h
      | cons x r =>
        have hx : x ≠ 0 := hne x (by rw [hq]; exact .head _)
        have e : signV a b ps = Int.fdiv x (absI x) := by unfold signV; rw [hq]
        rw [e]
        rw [hq] at hpl
        refine vdivS (b := absI x) (vitem (V.e (ds := (x :: r).map D.int) (vr lookup_set_self)) vint (by decide) rfl (by rw [List.length_map]; omega)) (vabs B.babs.bn (vitem (V.e (ds := (x :: r).map D.int) (vr lookup_set_self)) vint (by decide) rfl (by rw [List.length_map]; omega))) ?_ ?_
        · unfold absI; split <;> omega
        · unfold absI; split <;> omega
end Mine
namespace Mine
open PySem PySem.W PyProof.Rows PySem.Calls PySem.Spec
variable {C : Cfg} {k : Nat} {ec : EC} {σ : Sto} {W W' : List Str}

/-- one ring, walked from its first place -/
def chase (ord : List Int) (k0 : Int) : Nat → List Int → Option (List Int)
  | 0, _ => none
  | m + 1, r => match r.getLast? with
    | none => none
    | some x => if 0 ≤ x then (match ord[x.toNat]? with
      | none => none
      | some y => if y = k0 then some r else chase ord k0 m (r ++ [y])) else none
def hasK (k0 : Int) (r : List Int) : Bool := r.contains k0
def ringsF (ord : List Int) : Nat → Option (List (List Int))
  | 0 => some []
  | i + 1 => (ringsF ord i).bind fun rs => if (rs.filter (hasK i)).isEmpty then (chase ord i 6 [(i : Int)]).map fun r => rs ++ [r] else some rs
theorem ringsF_pre {ord : List Int} : ∀ {n : Nat} {rs : List (List Int)}, ringsF ord n = some rs → ∀ i ≤ n, ∃ rs', ringsF ord i = some rs' ∧ rs'.length ≤ i
  | 0, rs, h, i, hi => by
    obtain rfl : i = 0 := by omega
    exact ⟨[], rfl, by simp⟩
  | n + 1, rs, h, i, hi => by
    have h0 := h
    simp only [ringsF] at h
    cases q : ringsF ord n with
    | none => rw [q] at h; cases h
    | some rs' =>
      by_cases e : i = n + 1
      · subst e
        refine ⟨rs, h0, ?_⟩
        obtain ⟨rs2, h2, hl⟩ := ringsF_pre q n (Nat.le_refl _)
        rw [q] at h2; cases h2
        rw [q, Option.bind_some] at h
        split at h
        · obtain ⟨r, _, rfl⟩ := Option.map_eq_some_iff.mp h
          simp; omega
        · cases h; omega
      · exact ringsF_pre q i (by omega)
open Classical in
theorem mem_int {k0 : Int} {r : List Int} : decide (D.int k0 ∈ r.map D.int) = hasK k0 r := by
  unfold hasK
  rw [Bool.eq_iff_iff]
  simp
theorem xcell {x : Str} {W : List Str} (h : x ∈ W) : W.contains x = true := by simpa using h

theorem vlenn {e : Expr} {ds : List D} {n : Nat} {p pos : Pos} (b : BN C ec "len" (.builtin "len")) (h : Ve C k ec σ e ds) (hn : ds.length = n) (hl : n ≤ 2 ^ 40) (hse : ∀ env, backTo pos (starEach [e] env) = [(false, eval e env)] := by intro _; rfl) : V C k ec σ (.Call (.Name "len" p) [e] [] pos) (.int n) := by
  subst hn; exact vlen b h hl hse

theorem tcongr {e : Expr} {b b' : Bool} (h : Tt C k ec σ e b) (hb : b = b') : Tt C k ec σ e b' := hb ▸ h
theorem z_rings {code : Value} {qual : Str} (B : Bns C) (ord : List Int) (rs : List (List Int)) (h : ringsF ord ord.length = some rs) (hl : ord.length ≤ 100) :
    St C k ⟨rings_scope, code, qual⟩ ["k"] (argSto ["order"] [ordD ord]) rings_body fun o => o = .ret (.lst (rs.map ordD)) := by
  have pre := ringsF_pre h
  refine zown (ds := []) (llist s0) fun a => ?_
  refine zfor (fun i τ => At τ "order" (ordD ord) ∧ ∃ rs', ringsF ord i = some rs' ∧ τ.lookup (Str.ofString "rings") = some (.own a (rs'.map ordD))) (irange1 (N := ord.length) B.brange.bn (vlenn B.blen.bn (V.e (ds := ord.map .int) (vr (by rfl))) (by simp) (by omega)) (by omega) (by omega)) ⟨rfl, [], rfl, rfl⟩ (fun i τ d hI hd => ⟨_, tname, ?_⟩) fun τ hI => ?_
  · obtain ⟨hi, rfl⟩ := rangeD_get hd
    have hi' : i < ord.length := by simpa using hi
    obtain ⟨ho, rs', hrs, hr⟩ := hI
    have hlen : rs'.length ≤ i := by
      obtain ⟨r2, h2, h3⟩ := pre i (by omega)
      rw [hrs] at h2; cases h2; exact h3
    obtain ⟨rn, hrn, _⟩ := pre (i + 1) (by omega)
    rw [Int.zero_add] at *
    have e1 : At (τ.set "k" (.dat (.int i))) "order" (ordD ord) := (lookup_set_ne (by decide)).trans ho
    have e2 : (τ.set "k" (.dat (.int i))).lookup (Str.ofString "rings") = some (.own a (rs'.map ordD)) := (lookup_set_ne (by decide)).trans hr
    have e3 : At (τ.set "k" (.dat (.int i))) "k" (.int i) := lookup_set_self
    generalize τ.set "k" (.dat (.int i)) = τ1 at e1 e2 e3
    have hstep := hrn
    simp only [ringsF, hrs, Option.bind_some] at hstep
    have hfil : (((rs'.map ordD).filter fun d => match d with | .lst l => (by classical exact decide (D.int (i : Int) ∈ l)) | _ => false).map fun d => d) = (rs'.filter (hasK i)).map ordD := by
      rw [List.map_id', List.filter_map]
      congr 1
      refine List.filter_congr fun r _ => ?_
      exact mem_int
    refine zif (c := (rs'.filter (hasK i)).isEmpty) (tcongr (tcmp (lfilt [("k", .int i)] [] (fun d => match d with | .lst l => (by classical exact decide (D.int (i : Int) ∈ l)) | _ => false) (fun d => d) (iown e2) ⟨e3, trivial⟩ (fun d hd τ2 h1 h2 => by
        obtain ⟨r, _, rfl⟩ := List.mem_map.mp hd
        exact ⟨tcmp (vr h2.1) (vr h1) (cin (n := 0) (fun d' hd' => by obtain ⟨z, _, rfl⟩ := List.mem_map.mp hd'; rfl) (by decide)), fun _ => vr h1⟩) (by simp; omega)).v (llist s0).v ceq0) (by rw [hfil]; simp)) (fun he => ?_) fun he => ?_
    · rw [if_pos he] at hstep
      obtain ⟨rr, hch, rfl⟩ := Option.map_eq_some_iff.mp hstep
      refine zown (ds := [.int i]) (llist (s1 (vr e3))) fun c => ?_
      have w1 : At (τ1.set "ring" (.own c [.int i])) "order" (ordD ord) := (lookup_set_ne (by decide)).trans e1
      have w2 : (τ1.set "ring" (.own c [.int i])).lookup (Str.ofString "rings") = some (.own a (rs'.map ordD)) := (lookup_set_ne (by decide)).trans e2
      have w3 : At (τ1.set "ring" (.own c [.int i])) "k" (.int i) := (lookup_set_ne (by decide)).trans e3
      have w4 : (τ1.set "ring" (.own c [.int i])).lookup (Str.ofString "ring") = some (.own c ([(i : Int)].map .int)) := lookup_set_self
      generalize τ1.set "ring" (.own c [.int i]) = τ2 at w1 w2 w3 w4
      refine zwhile (fun m τ => At τ "order" (ordD ord) ∧ τ.lookup (Str.ofString "rings") = some (.own a (rs'.map ordD)) ∧ At τ "k" (.int i) ∧ ∃ r, chase ord i m r = some rr ∧ r.length + m ≤ 10 ∧ τ.lookup (Str.ofString "ring") = some (.own c (r.map .int))) 6 ⟨w1, w2, w3, [(i : Int)], hch, by simp, w4⟩ fun m τ hI => ?_
      obtain ⟨i1, i2, i3, r, hr1, hr2, i4⟩ := hI
      cases m with
      | zero => simp [chase] at hr1
      | succ m =>
        unfold chase at hr1
        split at hr1
        · cases hr1
        · rename_i x hx
          split at hr1
          · rename_i h0
            split at hr1
            · cases hr1
            · rename_i y hy
              refine ⟨y != (i : Int), tcmp (vitem (n := x) (V.e (ds := ord.map .int) (vr i1)) (vlast (eown i4) (vneg vint) (by rw [List.getLast?_map, hx]; rfl) (by simp; omega)) h0 (by rw [List.getElem?_map, hy]; rfl) (by simp; omega)) (vr i3) cne, fun hb => ?_, fun hb => ?_⟩
              · have hne : y ≠ (i : Int) := by simpa using hb
                rw [if_neg hne] at hr1
                refine zapp i4 (vitem (n := x) (V.e (ds := ord.map .int) (vr i1)) (vlast (eown i4) (vneg vint) (by rw [List.getLast?_map, hx]; rfl) (by simp; omega)) h0 (by rw [List.getElem?_map, hy]; rfl) (by simp; omega)) (by simp; omega) (znil ⟨m, Nat.lt_succ_self m, (lookup_set_ne (by decide)).trans i1, (lookup_set_ne (by decide)).trans i2, (lookup_set_ne (by decide)).trans i3, r ++ [y], hr1, by simp; omega, ?_⟩)
                rw [List.map_append]; exact lookup_set_self
              · have hyk : y = (i : Int) := by simpa using hb
                rw [if_pos hyk] at hr1
                cases hr1
                refine zfreeze i4 ?_
                refine zapp (d := ordD rr) ((lookup_set_ne (by decide)).trans i2) (vr lookup_set_self) (by simp; omega) (znil (znil ⟨(lookup_set_ne (by decide)).trans ((lookup_set_ne (by decide)).trans i1), rs' ++ [rr], hrn, ?_⟩))
                rw [List.map_append]; exact lookup_set_self
          · cases hr1
    · rw [if_neg (by rw [he]; decide)] at hstep
      exact znil ⟨e1, rs', by rw [hrn, ← hstep], e2⟩
  · rw [rangeD_len] at hI
    obtain ⟨_, rs', hrs, hr⟩ := hI
    have : rs' = rs := by
      have e : (ord.length : Int).toNat = ord.length := by omega
      rw [e, h] at hrs; exact (Option.some.inj hrs).symm
    subst this
    exact zfreeze hr (zret (vr lookup_set_self) rfl)
end Mine
namespace Mine
open PySem PySem.W PyProof.Rows PySem.Calls PySem.Spec
variable {C : Cfg} {k : Nat} {ec : EC} {σ : Sto} {W W' : List Str}

/-- a function on data from one on what they stand for -/
theorem lift {α β : Type} (g : α → D) (f : α → β) (b0 : β) (hinj : ∀ a b, g a = g b → a = b) : ∃ F : D → β, ∀ a, F (g a) = f a := by
  classical
  refine ⟨fun d => if e : ∃ a, d = g a then f e.choose else b0, fun a => ?_⟩
  have e : ∃ a', g a = g a' := ⟨a, rfl⟩
  show (if e : _ then _ else _) = _
  rw [dif_pos e]
  rw [(hinj _ _ e.choose_spec).symm]
theorem lmapA {α : Type} {elt iter : Expr} {scope : Scope} {cpos : Pos} {ps : List α} {own : Bool} {x : Str} {p : Pos} (cs : List (Str × D)) (W' : List Str) (g f : α → D) (hinj : ∀ a b, g a = g b → a = b) (hsrc : Vi C k ec σ (.Name x p) iter (ps.map g) own) (ho : capsIn cs σ)
    (h : ∀ a ∈ ps, ∀ τ : Sto, At τ x (g a) → capsIn cs τ → V C k (ec.comp scope) τ elt (f a)) (hl : ps.length ≤ 1000) (hc : capB ec scope (cs.map (·.1)) W' = true := by rfl) (hx : okName (ec.comp scope) W' x = true := by rfl) (hxn : (accN :: cs.map (·.1)).contains x = false := by rfl)
    (hf : ∀ env v, foldedSetIterable iter env v = pure v := by intros; rfl) : Vl C k ec σ (.ListComp elt [⟨.Name x p, iter, [], 0⟩] scope cpos) (ps.map f) := by
  obtain ⟨F, hF⟩ := lift g f .d0 hinj
  have e : (ps.map g).map F = ps.map f := by rw [List.map_map]; exact List.map_congr_left fun a _ => hF a
  rw [← e]
  refine lmap cs W' F hsrc ho (fun d hd τ h1 h2 => ?_) (by simpa using hl) hc hx hxn hf
  obtain ⟨a, ha, rfl⟩ := List.mem_map.mp hd
  rw [hF]; exact h a ha τ h1 h2
theorem zmapA {α : Type} {elt iter : Expr} {scope : Scope} {cpos : Pos} {ps : List α} {own : Bool} {x y : Str} {p yp pos : Pos} {rest : List Stmt} {Φ : Out → Prop} (cs : List (Str × D)) (W' : List Str) (g f : α → D) (hinj : ∀ a b, g a = g b → a = b) (hsrc : Vi C k ec σ (.Name x p) iter (ps.map g) own) (ho : capsIn cs σ)
    (h : ∀ a ∈ ps, ∀ τ : Sto, At τ x (g a) → capsIn cs τ → V C k (ec.comp scope) τ elt (f a)) (hl : ps.length ≤ 1000) (hr : St C k ec W (σ.set y (.dat (.lst (ps.map f)))) rest Φ) (hsw : ∀ env, EnvOK ec env → swapsWith (.ListComp elt [⟨.Name x p, iter, [], 0⟩] scope cpos) (some (.Name y yp)) pos.line env = pure true)
    (hc : capB ec scope (cs.map (·.1)) W' = true := by rfl) (hx : okName (ec.comp scope) W' x = true := by rfl) (hxn : (accN :: cs.map (·.1)).contains x = false := by rfl) (hy : okName ec W y = true := by rfl)
    (hf : ∀ env v, foldedSetIterable iter env v = pure v := by intros; rfl) : St C k ec W σ (.Assign [.Name y yp] (.ListComp elt [⟨.Name x p, iter, [], 0⟩] scope cpos) pos :: rest) Φ := by
  obtain ⟨F, hF⟩ := lift g f .d0 hinj
  have e : (ps.map g).map F = ps.map f := by rw [List.map_map]; exact List.map_congr_left fun a _ => hF a
  rw [← e] at hr
  refine zmap cs W' F hsrc ho (fun d hd τ h1 h2 => ?_) (by simpa using hl) hr hsw hc hx hxn hy hf
  obtain ⟨a, ha, rfl⟩ := List.mem_map.mp hd
  rw [hF]; exact h a ha τ h1 h2
theorem lfiltA {α : Type} {t elt iter : Expr} {scope : Scope} {cpos : Pos} {ps : List α} {own : Bool} {x : Str} {p : Pos} (cs : List (Str × D)) (W' : List Str) (g f : α → D) (q : α → Bool) (hinj : ∀ a b, g a = g b → a = b) (hsrc : Vi C k ec σ (.Name x p) iter (ps.map g) own) (ho : capsIn cs σ)
    (h : ∀ a ∈ ps, ∀ τ : Sto, At τ x (g a) → capsIn cs τ → Tt C k (ec.comp scope) τ t (q a) ∧ (q a = true → V C k (ec.comp scope) τ elt (f a))) (hl : ps.length ≤ 1000) (hc : capB ec scope (cs.map (·.1)) W' = true := by rfl) (hx : okName (ec.comp scope) W' x = true := by rfl) (hxn : (accN :: cs.map (·.1)).contains x = false := by rfl)
    (hf : ∀ env v, foldedSetIterable iter env v = pure v := by intros; rfl) : Vl C k ec σ (.ListComp elt [⟨.Name x p, iter, [t], 0⟩] scope cpos) ((ps.filter q).map f) := by
  obtain ⟨F, hF⟩ := lift g f .d0 hinj
  obtain ⟨G, hG⟩ := lift g q false hinj
  have e : ((ps.map g).filter G).map F = (ps.filter q).map f := by
    rw [List.filter_map, List.map_map]
    have e1 : ps.filter (G ∘ g) = ps.filter q := List.filter_congr fun a _ => hG a
    rw [e1]; exact List.map_congr_left fun a _ => hF a
  rw [← e]
  refine lfilt cs W' G F hsrc ho (fun d hd τ h1 h2 => ?_) (by simpa using hl) hc hx hxn hf
  obtain ⟨a, ha, rfl⟩ := List.mem_map.mp hd
  rw [hF, hG]; exact h a ha τ h1 h2

theorem int_inj : ∀ a b : Int, D.int a = .int b → a = b := fun a b e => D.int.inj e
theorem map_inj {α β : Type} {g : α → β} (h : ∀ a b, g a = g b → a = b) : ∀ l m : List α, l.map g = m.map g → l = m
  | [], [], _ => rfl
  | [], _ :: _, e => by simp at e
  | _ :: _, [], e => by simp at e
  | a :: l, b :: m, e => by
    simp only [List.map_cons, List.cons.injEq] at e
    rw [h a b e.1, map_inj h l m e.2]
theorem ordD_inj : ∀ a b : List Int, ordD a = ordD b → a = b := fun a b e => map_inj int_inj a b (D.lst.inj e)
theorem sumS_inj (w : Bool) : ∀ a b : V3, sumD w (some a) = sumD w (some b) → a = b := fun a b e => by
  rw [sumD_eq, sumD_eq] at e
  simp only [D.tup.injEq, List.cons.injEq, D.int.injEq] at e
  obtain ⟨a1, a2, a3⟩ := a
  obtain ⟨b1, b2, b3⟩ := b
  have h1 : a1 = b1 := e.1
  have h2 : a2 = b2 := e.2.1
  have h3 : a3 = b3 := e.2.2.1
  rw [h1, h2, h3]

/-- the vectors of a ring, and their sum -/
def gets (vs : List V3) (r : List Int) : List V3 := r.map fun i => vs[i.toNat]?.getD ⟨0, 0, 0⟩
def lastV (l : List V3) : Option V3 := (alongV none l).getLast?.getD none
def totV : List V3 → V3
  | [] => ⟨0, 0, 0⟩
  | v :: vs => vs.foldl V3.add v
theorem along_last (t : Option V3) (l : List V3) : ∃ z, (alongV t l).getLast? = some z := by
  cases q : (alongV t l).getLast? with
  | none => rw [List.getLast?_eq_none_iff] at q; have := along_len t l; rw [q] at this; simp at this
  | some z => exact ⟨z, rfl⟩
theorem along_some : ∀ (l : List V3) (u : V3), (alongV (some u) l).getLast? = some (some (l.foldl V3.add u))
  | [], u => rfl
  | v :: l, u => by
    have hne : alongV (some (addO (some u) v)) l ≠ [] := fun e => by have := along_len (some (addO (some u) v)) l; rw [e] at this; simp at this
    rw [alongV, List.getLast?_cons_of_ne_nil hne]
    exact along_some l _
theorem lastV_cons (v : V3) (l : List V3) : lastV (v :: l) = some (totV (v :: l)) := by
  unfold lastV
  have hne : alongV (some (addO none v)) l ≠ [] := fun e => by have := along_len (some (addO none v)) l; rw [e] at this; simp at this
  rw [alongV, List.getLast?_cons_of_ne_nil hne, along_some]; rfl
theorem lastV_ne {l : List V3} (h : l ≠ []) : lastV l = some (totV l) := by
  cases l with
  | nil => exact absurd rfl h
  | cons v l => exact lastV_cons v l
def okRing (n : Nat) (r : List Int) : Prop := r ≠ [] ∧ r.length ≤ 10 ∧ ∀ i ∈ r, 0 ≤ i ∧ i < n
def aboveV (ps : List (Int × Int)) (vs : List V3) (rs : List (List Int)) : Option V3 := lastV ((rs.map fun r => totV (gets vs r)).filter fun t => cmpO ps (some t) none == 1)
theorem z_above {code : Value} {qual : Str} (X : Defs C) (Y : CmpOK C) (w : Bool) (ps : List (Int × Int)) (hp : ∀ p ∈ ps, okPick p) (vs : List V3) (ord : List Int) (rs : List (List Int)) (hrs : ringsF ord ord.length = some rs) (hok : ∀ r ∈ rs, okRing vs.length r) (hlo : ord.length ≤ 100) (hlv : vs.length ≤ 100) (hlr : rs.length ≤ 100) :
    St C (k + 3) ⟨above_scope, code, qual⟩ W (argSto ["entries", "order", "comp"] [.lst (vs.map fun v => sumD w (some v)), ordD ord, .cmp (.lst (ps.map pickD))]) above_body fun o => o = .ret (sumD w (aboveV ps vs rs)) := by
  have fr : Fv C (k + 3) (.ref X.rings.fa) [ordD ord] (.lst (rs.map ordD)) := fv_at (W := ["k"]) X.rings rfl (fun _ _ => z_rings X.B ord rs hrs hlo) (fun x hx => by
    rw [List.mem_singleton] at hx; subst hx; exact ⟨rfl, fun n => rfl⟩)
  refine zmapA (ps := rs) [("entries", .lst (vs.map fun v => sumD w (some v)))] [] ordD (fun r => sumD w (some (totV (gets vs r)))) ordD_inj (ilistn (vcall X.rings fr (s1 (vr (by rfl))))) ⟨rfl, trivial⟩ (fun r hr τ h1 h2 => ?_) (by omega) ?_ (fun env he => by cases env; cases he.sc; rfl)
  · obtain ⟨hne, hlen, hin⟩ := hok r hr
    have hg : gets vs r ≠ [] := fun e => hne (List.map_eq_nil_iff.mp e)
    rw [← lastV_ne hg]
    have hL : (gets vs r).length ≤ 100 := by unfold gets; rw [List.length_map]; omega
    refine vlast (V.e (ds := (alongV none (gets vs r)).map (sumD w)) (vcall X.along (fv_along X w (gets vs r) hL) (s1 ?_))) (vneg vint) ?_ (by rw [List.length_map, along_len]; omega)
    · have e : (gets vs r).map (fun v => sumD w (some v)) = r.map fun i => sumD w (some (vs[i.toNat]?.getD ⟨0, 0, 0⟩)) := by unfold gets; rw [List.map_map]; rfl
      rw [e]
      refine (lmapA (ps := r) [("entries", .lst (vs.map fun v => sumD w (some v)))] [] D.int (fun i => sumD w (some (vs[i.toNat]?.getD ⟨0, 0, 0⟩))) int_inj (ilistn (vr h1)) ⟨h2.1, trivial⟩ (fun i hi τ h1 h2 => ?_) (by omega)).v
      obtain ⟨i0, i1⟩ := hin i hi
      have hlt : i.toNat < vs.length := by omega
      refine vitem (n := i) (V.e (vr h2.1)) (vr h1) i0 ?_ (by simp; omega)
      rw [List.getElem?_map, List.getElem?_eq_getElem hlt]; rfl
    · obtain ⟨z, hz⟩ := along_last none (gets vs r)
      rw [List.getLast?_map]
      unfold lastV
      rw [hz]; rfl
  · have hL : ((rs.map fun r => totV (gets vs r)).filter fun t => cmpO ps (some t) none == 1).length ≤ 100 := Nat.le_trans (List.length_filter_le _ _) (by rw [List.length_map]; omega)
    refine zret (vlast (V.e (ds := (alongV none ((rs.map fun r => totV (gets vs r)).filter fun t => cmpO ps (some t) none == 1)).map (sumD w)) (vcall X.along (fv_along X w _ hL) (s1 ?_))) (vneg vint) ?_ (by rw [List.length_map, along_len]; omega)) rfl
    · refine (lfiltA (ps := rs.map fun r => totV (gets vs r)) [("comp", .cmp (.lst (ps.map pickD)))] [] (fun v => sumD w (some v)) (fun v => sumD w (some v)) (fun t => cmpO ps (some t) none == 1) (sumS_inj w) (ilistn (vr (by rw [List.map_map]; exact lookup_set_self))) ⟨(lookup_set_ne (by decide)).trans rfl, trivial⟩ (fun t ht τ h1 h2 => ?_) (by rw [List.length_map]; omega)).v
      exact ⟨tcmp (vcompare Y (Fv.mono (fv_compare (k := 0) Y ps hp w (some t) none) (by omega)) h2.1 (sc (vr h1) (s1 (vtup (sc vint (sc vint (sc vint (sc vint (s1 vd0))))))))) vint ceq, fun _ => vr h1⟩
    · obtain ⟨z, hz⟩ := along_last none ((rs.map fun r => totV (gets vs r)).filter fun t => cmpO ps (some t) none == 1)
      rw [List.getLast?_map]
      unfold aboveV lastV
      rw [hz]; rfl
end Mine
namespace Mine
open PySem PySem.W PyProof.Rows PySem.Calls PySem.Spec
variable {C : Cfg} {k : Nat} {ec : EC} {σ : Sto} {W W' : List Str}

open Classical in
noncomputable def cnt (l : List D) (d : D) : Nat := l.countP fun d' => decide (d' = d)
open Classical in
noncomputable def rowD (l1 l2 : List D) (i : Nat) : List D := match (l1 ++ l2)[i]? with
  | none => []
  | some d => if (!decide (d ∈ (l1 ++ l2).take i) && ((cnt l1 d : Int) != (cnt l2 d : Int))) = true then [.tup [.int (cnt l1 d), .int (cnt l2 d), d]] else []
noncomputable def rowsN (l1 l2 : List D) (i : Nat) : List D := (List.range i).flatMap (rowD l1 l2)
theorem rowD_len (l1 l2 : List D) (i : Nat) : (rowD l1 l2 i).length ≤ 1 := by
  unfold rowD
  split
  · simp
  · split <;> simp
theorem rowsN_len (l1 l2 : List D) : ∀ i, (rowsN l1 l2 i).length ≤ i
  | 0 => by simp [rowsN]
  | i + 1 => by
    have := rowsN_len l1 l2 i
    have h1 := rowD_len l1 l2 i
    simp only [rowsN, List.range_succ, List.flatMap_append, List.length_append, List.flatMap_cons, List.flatMap_nil, List.append_nil] at *
    omega
theorem z_rows {code : Value} {qual : Str} (B : Bns C) (l1 l2 : List D) (hs : ∀ a ∈ l1 ++ l2, ∀ b ∈ l1 ++ l2, sim 5 a b = true) (h1 : l1.length ≤ 100) (h2 : l2.length ≤ 100) :
    St C k ⟨rows_scope, code, qual⟩ W (argSto ["one", "other"] [.lst l1, .lst l2]) rows_body fun o => o = .ret (.lst (rowsN l1 l2 (l1 ++ l2).length)) := by
  have hbl : (l1 ++ l2).length ≤ 200 := by rw [List.length_append]; omega
  refine zown (ds := []) (llist s0) fun a => ?_
  refine zset (lcat (V.e (ds := l1) (vr (by rfl))) (V.e (ds := l2) (vr (by rfl))) (by omega)).v ?_
  refine zfor (fun i τ => At τ "one" (.lst l1) ∧ At τ "other" (.lst l2) ∧ At τ "both" (.lst (l1 ++ l2)) ∧ τ.lookup (Str.ofString "rows") = some (.own a (rowsN l1 l2 i))) (irange1 (N := (l1 ++ l2).length) B.brange.bn (vlenn B.blen.bn (V.e (ds := l1 ++ l2) (vr lookup_set_self)) rfl (by omega)) (by omega) (by omega)) ⟨rfl, rfl, rfl, rfl⟩ (fun i τ d hI hd => ⟨_, tname, ?_⟩) fun τ hI => ?_
  · obtain ⟨hi, rfl⟩ := rangeD_get hd
    have hi' : i < (l1 ++ l2).length := by omega
    obtain ⟨i1, i2, i3, i4⟩ := hI
    rw [Int.zero_add] at *
    have e1 : At (τ.set "k" (.dat (.int i))) "one" (.lst l1) := (lookup_set_ne (by decide)).trans i1
    have e2 : At (τ.set "k" (.dat (.int i))) "other" (.lst l2) := (lookup_set_ne (by decide)).trans i2
    have e3 : At (τ.set "k" (.dat (.int i))) "both" (.lst (l1 ++ l2)) := (lookup_set_ne (by decide)).trans i3
    have e4 : (τ.set "k" (.dat (.int i))).lookup (Str.ofString "rows") = some (.own a (rowsN l1 l2 i)) := (lookup_set_ne (by decide)).trans i4
    have e5 : At (τ.set "k" (.dat (.int i))) "k" (.int i) := lookup_set_self
    generalize τ.set "k" (.dat (.int i)) = τ1 at e1 e2 e3 e4 e5
    obtain ⟨d, hdi⟩ : ∃ d, (l1 ++ l2)[i]? = some d := ⟨_, List.getElem?_eq_getElem hi'⟩
    have hdm := List.mem_of_getElem? hdi
    have hn : ((i : Int).toNat) = i := by omega
    refine zset (d := .lst [.int (cnt l1 d), .int (cnt l2 d)]) (llist (sc (vcount (n := 5) (V.e (ds := l1) (vr e1)) (vitem (n := (i : Int)) (V.e (vr e3)) (vr e5) (by omega) (by rw [hn]; exact hdi) (by omega)) (fun d' hd' => hs d' (List.mem_append_left _ hd') d hdm) (by decide)) (s1 (vcount (n := 5) (V.e (ds := l2) (vr e2)) (vitem (n := (i : Int)) (V.e (vr e3)) (vr e5) (by omega) (by rw [hn]; exact hdi) (by omega)) (fun d' hd' => hs d' (List.mem_append_right _ hd') d hdm) (by decide))))).v ?_
    have f1 : At (τ1.set "counts" (.dat (.lst [.int (cnt l1 d), .int (cnt l2 d)]))) "one" (.lst l1) := (lookup_set_ne (by decide)).trans e1
    have f2 : At (τ1.set "counts" (.dat (.lst [.int (cnt l1 d), .int (cnt l2 d)]))) "other" (.lst l2) := (lookup_set_ne (by decide)).trans e2
    have f3 : At (τ1.set "counts" (.dat (.lst [.int (cnt l1 d), .int (cnt l2 d)]))) "both" (.lst (l1 ++ l2)) := (lookup_set_ne (by decide)).trans e3
    have f4 : (τ1.set "counts" (.dat (.lst [.int (cnt l1 d), .int (cnt l2 d)]))).lookup (Str.ofString "rows") = some (.own a (rowsN l1 l2 i)) := (lookup_set_ne (by decide)).trans e4
    have f5 : At (τ1.set "counts" (.dat (.lst [.int (cnt l1 d), .int (cnt l2 d)]))) "k" (.int i) := (lookup_set_ne (by decide)).trans e5
    have f6 : At (τ1.set "counts" (.dat (.lst [.int (cnt l1 d), .int (cnt l2 d)]))) "counts" (.lst [.int (cnt l1 d), .int (cnt l2 d)]) := lookup_set_self
    generalize τ1.set "counts" (.dat (.lst [.int (cnt l1 d), .int (cnt l2 d)])) = τ2 at f1 f2 f3 f4 f5 f6
    have hnext : rowsN l1 l2 (i + 1) = rowsN l1 l2 i ++ rowD l1 l2 i := by
      simp only [rowsN, List.range_succ, List.flatMap_append, List.flatMap_cons, List.flatMap_nil, List.append_nil]
    have hrow : rowD l1 l2 i = (by classical exact if (!decide (d ∈ (l1 ++ l2).take i) && ((cnt l1 d : Int) != (cnt l2 d : Int))) = true then [.tup [.int (cnt l1 d), .int (cnt l2 d), d]] else []) := by
      unfold rowD; rw [hdi]
    have hrl := rowsN_len l1 l2 i
    refine zif (tand (tcmp (vitem (n := (i : Int)) (V.e (vr f3)) (vr f5) (by omega) (by rw [hn]; exact hdi) (by omega)) (lupto (n := (i : Int)) (V.e (vr f3)) (vr f5) (by omega) (by omega)).v (cnin (n := 5) (fun d' hd' => hs d' (List.mem_of_mem_take hd') d hdm) (by decide))) (fun _ => tcmp (vitem (V.e (vr f6)) vint (by decide) rfl (by simp)) (vitem (V.e (vr f6)) vint (by decide) rfl (by simp)) cne)) (fun h => ?_) fun h => ?_
    · refine zapp f4 (vtup (sc (vitem (V.e (vr f6)) vint (by decide) rfl (by simp)) (sc (vitem (V.e (vr f6)) vint (by decide) rfl (by simp)) (s1 (vitem (n := (i : Int)) (V.e (vr f3)) (vr f5) (by omega) (by rw [hn]; exact hdi) (by omega)))))) (by omega) (znil (znil ⟨(lookup_set_ne (by decide)).trans f1, (lookup_set_ne (by decide)).trans f2, (lookup_set_ne (by decide)).trans f3, ?_⟩))
      rw [hn] at h
      rw [hnext, hrow, if_pos h]; exact lookup_set_self
    · refine znil ⟨f1, f2, f3, ?_⟩
      rw [hn] at h
      rw [hnext, hrow, if_neg (by rw [h]; decide), List.append_nil]; exact f4
  · rw [rangeD_len] at hI
    have e : ((l1 ++ l2).length : Int).toNat = (l1 ++ l2).length := by omega
    rw [e] at hI
    exact zfreeze hI.2.2.2 (zret (vr lookup_set_self) rfl)
theorem fv_rows (X : Defs C) (l1 l2 : List D) (hs : ∀ a ∈ l1 ++ l2, ∀ b ∈ l1 ++ l2, sim 5 a b = true) (h1 : l1.length ≤ 100) (h2 : l2.length ≤ 100) : Fv C (k + 1) (.ref X.rows.fa) [.lst l1, .lst l2] (.lst (rowsN l1 l2 (l1 ++ l2).length)) :=
  fv_at (W := []) X.rows rfl (fun _ _ => z_rows X.B l1 l2 hs h1 h2) nofun
theorem fv_sign (X : Defs C) (ps : List (Int × Int)) (hp : ∀ p ∈ ps, okPick p) (hw : ∀ p ∈ ps, okWay p) (hl : ps.length ≤ 100) (w : Bool) (s t : Option V3) : Fv C (k + 1) (.ref X.sign.fa) [sumD w s, sumD w t, .lst (ps.map pickD)] (.int (signV (crd s) (crd t) ps)) := by
  obtain ⟨ds, e1, hl1, h1⟩ := sumD_items w s
  obtain ⟨es, e2, hl2, h2⟩ := sumD_items w t
  rw [e1, e2]
  exact fv_at (W := []) X.sign rfl (fun _ _ => z_sign X.B ps hp hw hl ds es _ _ hl1 hl2 h1 h2) nofun
theorem fv_above (X : Defs C) (Y : CmpOK C) (w : Bool) (ps : List (Int × Int)) (hp : ∀ p ∈ ps, okPick p) (vs : List V3) (ord : List Int) (rs : List (List Int)) (hrs : ringsF ord ord.length = some rs) (hok : ∀ r ∈ rs, okRing vs.length r) (hlo : ord.length ≤ 100) (hlv : vs.length ≤ 100) (hlr : rs.length ≤ 100) :
    Fv C (k + 4) (.ref X.above.fa) [.lst (vs.map fun v => sumD w (some v)), ordD ord, .cmp (.lst (ps.map pickD))] (sumD w (aboveV ps vs rs)) :=
  fv_at (W := []) X.above rfl (fun _ _ => z_above X Y w ps hp vs ord rs hrs hok hlo hlv hlr) nofun
end Mine
namespace Mine
open PySem PySem.W PyProof.Rows PySem.Calls PySem.Spec
variable {C : Cfg} {k : Nat} {ec : EC} {σ : Sto} {W W' : List Str}

theorem x1_for_enum {ni nx ns : Str} {pi px sp ep epos tp pos : Pos} {m : Nat} {body : List Stmt} {a : Addr} {as0 : List D} {n : Nat} {Φ : Out → Prop} (I : Nat → Sto → Prop) (b : BN C ec "enumerate" (.type "enumerate")) (hx : σ.lookup ns = some (.own a as0)) (hn : as0.length = n) (h0 : I 0 σ)
    (hown : ∀ j τ, I j τ → ∃ as, τ.lookup ns = some (.own a as) ∧ as.length = n)
    (turn : ∀ j τ as d, I j τ → τ.lookup ns = some (.own a as) → as[j]? = some d → Xs C k ec W ((τ.set ni (.dat (.int j))).set nx (.dat d)) body (LoopOut I j Φ))
    (hend : ∀ τ, I n τ → Φ (.next τ)) (hi : ec.kind ni = some .local ∨ ni ∈ W) (hv : ec.kind nx = some .local ∨ nx ∈ W)
    (h1 : (ns == ("__debug__" : Str)) = false) (h2 : (ns == ("__classdict__" : Str)) = false)
    (hse : ∀ env, backTo epos (starEach [.Name ns sp] env) = [(false, eval (.Name ns sp) env)]) (hf : ∀ env x, foldedSetIterable (.Call (.Name "enumerate" ep) [.Name ns sp] [] epos) env x = pure x) :
    X1 C k ec W σ (.For (.Tuple [.Name ni pi, .Name nx px] m tp) (.Call (.Name "enumerate" ep) [.Name ns sp] [] epos) body [] pos) Φ := by
  intro A env h₀ ex s Q E hr he S hQ
  refine wpAny_For ?_ (hf env)
  refine call_b1 (id := "enumerate") (.inr rfl) b hse hr he S fun s1 g1 => ?_
  have S1 := S.go g1
  obtain ⟨V, _, vs1, n1, ha1, _⟩ := S1.slots _ _ hx
  refine name_wp (W := W) (h₀ := h₀) (ex := ex) he V h1 h2 ?_
  refine call_enumerate_list (lst_at ha1) fun h2' he0 hit0 hsz0 hk0 => ?_
  refine wpAny_pyIter_enum he0 ?_
  generalize hsE : (s1.heap.objs.size + 1 : Nat) = e at he0
  generalize hsI : s1.heap.objs.size = it at he0 hit0
  have g2 : Go C s1 { s1 with heap := h2' } := .keep hk0
  have g12 : Go C s { s1 with heap := h2' } := g1.trans g2
  have hnew : ∀ c ∈ [e, it], s.heap.get? c = none := fun c hc => by
    simp only [List.mem_cons, List.not_mem_nil, or_false] at hc
    rcases hc with rfl | rfl
    · exact fresh_old S1.tab g1 (by rw [← hsE]; exact Nat.le_succ _)
    · exact fresh_old S1.tab g1 (by rw [hsI]; exact Nat.le_refl _)
  have hei : e ≠ it := by rw [← hsE, ← hsI]; exact Nat.succ_ne_self _
  have St_live : ∀ (j : Nat) (h : Heap), ((∃ old, IsEnum h e it (j : Int) old) ∧ h.IsListIter it a j) → ∀ c ∈ [e, it], h.get? c ≠ none := fun j h st c hc => by
    obtain ⟨⟨old, h1⟩, o, h2, _⟩ := st
    simp only [List.mem_cons, List.not_mem_nil, or_false] at hc
    rcases hc with rfl | rfl
    · rw [h1]; nofun
    · rw [h2]; nofun
  have st0 : (∃ old, IsEnum h2' e it (0 : Nat) old) ∧ h2'.IsListIter it a 0 := ⟨⟨_, he0⟩, hit0⟩
  have Sx : Sta C ec W env h₀ ([e, it] ++ ex) σ h2' := S.addEx (ws := [e, it]) (s' := { s1 with heap := h2' }) g12 hnew (St_live 0 _ st0) (by simp [hei])
  have hside : Side ec env h₀ ([e, it] ++ ex) [e, it] := walk_side S hnew
  refine codeAny_forLoop_any (fun q t => ∃ (j : Nat) (τ : Sto), q + j = n ∧ I j τ ∧ ((∃ old, IsEnum t.heap e it (j : Int) old) ∧ t.heap.IsListIter it a j) ∧ Sta C ec W env h₀ ([e, it] ++ ex) τ t.heap ∧ Gx s t) ?_ n ⟨0, σ, by omega, h0, st0, Sx, g12.gx⟩
  rintro q t ⟨j, τ, hq, hI, ⟨⟨old, hen⟩, hit⟩, S', g⟩
  obtain ⟨as, hxs, hlen⟩ := hown j τ hI
  obtain ⟨_, _, vs, nn, hav, rav⟩ := S'.slots _ _ hxs
  have hvl : vs.length = n := by rw [rav.length, hlen]
  cases q with
  | zero =>
    have hj : j = n := by omega
    subst hj
    refine wpAny_pyNext_enum_end hr.handled hen hit (lst_at hav) (by simp [hvl]) fun h' hs => ?_
    have S'' : Sta C ec W env h₀ ex τ h' := S'.endWalk hside fun c o hc e => hs c o (fun q => hc (by rw [q]; simp)) e
    exact wpAny_execs_nil (hQ _ _ _ (hend τ hI) ⟨rfl, S''⟩ (g.trans ⟨rfl, id⟩))
  | succ q =>
    have hjl : j < as.length := by omega
    obtain ⟨d, hd⟩ : ∃ d, as[j]? = some d := ⟨_, List.getElem?_eq_getElem hjl⟩
    obtain ⟨v, hv', rv⟩ := rav.get j d hd
    refine wpAny_pyNext_enum_item hen hit (lst_at hav) (x := v) (by simpa using hv') hei fun h3 hout hit3 htup hsz hk3 => ?_
    refine wpAny_letOwnedTupleGo_enum hout fun h4 hen4 hs4 => ?_
    have hT : t.heap.get? t.heap.objs.size = none := by
      cases qq : t.heap.get? t.heap.objs.size with
      | none => rfl
      | some o => exact absurd (Heap.lt_size qq) (Nat.lt_irrefl _)
    have hTe : t.heap.objs.size ≠ e := fun q => by rw [q, hen] at hT; cases hT
    have hTi : t.heap.objs.size ≠ it := fun q => by obtain ⟨o, ho, _⟩ := hit; rw [q, ho] at hT; cases hT
    have hk4 : ∀ c o, c ∉ [e, it] → t.heap.get? c = some o → h4.get? c = some o := fun c o hc e => by
      simp only [List.mem_cons, List.not_mem_nil, or_false, not_or] at hc
      exact (hs4.2 c hc.1).trans (hk3 c o hc.1 hc.2 e)
    have st4 : (∃ old, IsEnum h4 e it ((j + 1 : Nat) : Int) old) ∧ h4.IsListIter it a (j + 1) := ⟨⟨_, hen4⟩, (let ⟨o, ho, r⟩ := hit3; ⟨o, (hs4.2 _ (Ne.symm hei)).trans ho, r⟩)⟩
    have S4 : Sta C ec W env h₀ ([e, it] ++ ex) τ h4 := S'.side hside hk4 (St_live (j + 1) _ st4)
    have hexw : ∀ c, c ∉ exOf env τ ([e, it] ++ ex) → c ∉ [e, it] := fun c hc m => hc (List.mem_cons_of_mem _ (List.mem_append_right _ (List.mem_append_left _ m)))
    have rT : Rep C h4 (exOf env τ ([e, it] ++ ex)) (.tup [.int j, d]) (.ref t.heap.objs.size) := by
      simp only [Rep]
      refine ⟨_, [.int j t.toks, v], 0, rfl, fun m => S'.alive _ m hT, (hs4.2 _ hTe).trans htup, .cons rep_int (.one (Rep.move (fun c o hc e _ => ⟨hk4 _ _ (hexw c hc) e, hc⟩) d v rv))⟩
    refine tg_seq (W := W) [(ni, pi), (nx, px)] (d := .tup [.int j, d]) (.inl rfl) rfl (fun r hr => ?_) rfl A env _ ([e, it] ++ ex) { t with heap := h4, toks := t.toks + 1 } _ _ _ hr he S4.up rT fun t3 g3 S3 => ?_
    · simp only [List.mem_cons, List.not_mem_nil, or_false] at hr
      rcases hr with rfl | rfl
      · exact hi
      · exact hv
    · refine turn j τ as d hI hxs hd A env _ ([e, it] ++ ex) t3 _ _ hr he S3 fun f t4 o ho hf g4 => ?_
      have gg : Gx s t4 := (g.trans (s1 := t) (s2 := t3) ⟨g3.os, fun hb => g3.bare hb⟩).trans g4
      have again : ∀ τ', Sta C ec W env (hid env W τ h4) ([e, it] ++ ex) τ' t4.heap → I (j + 1) τ' → ∃ p, p < q + 1 ∧ (∃ (j : Nat) (τ : Sto), p + j = n ∧ I j τ ∧ ((∃ old, IsEnum t4.heap e it (j : Int) old) ∧ t4.heap.IsListIter it a j) ∧ Sta C ec W env h₀ ([e, it] ++ ex) τ t4.heap ∧ Gx s t4) := fun τ' S5 hτ => by
        have hkeep : ∀ c ∈ [e, it], ∀ o, Solid o → h4.get? c = some o → t4.heap.get? c = some o := fun c hc o hso e => by
          refine S4.keeps2 S5 (fun mm => ?_) e hso
          rcases List.mem_cons.mp mm with rfl | mm
          · exact hside.loc hc
          · exact (List.nodup_append.mp (List.nodup_cons.mp S4.nodup).2).2.2 c mm c (List.mem_append_left _ hc) rfl
        refine ⟨q, Nat.lt_succ_self q, j + 1, τ', by omega, hτ, ⟨⟨_, hkeep e (by simp) _ ⟨nofun, nofun⟩ hen4⟩, ?_⟩, S4.down S5, gg⟩
        obtain ⟨o, ho, hc, hd⟩ := st4.2
        exact ⟨o, hkeep it (by simp) o ⟨by rw [hc]; nofun, by rw [hd]; nofun⟩ ho, hc, hd⟩
      cases o with
      | next τ' => obtain ⟨rfl, S5⟩ := hf; exact again τ' S5 ho
      | cont τ' => obtain ⟨rfl, S5⟩ := hf; exact again τ' S5 ho
      | brk τ' => obtain ⟨rfl, S5⟩ := hf; exact hQ _ _ _ ho ⟨rfl, (S4.down S5).dropEx⟩ gg
      | ret d =>
        obtain ⟨u, rfl, hb, ht, r⟩ := hf
        exact hQ _ _ _ ho ⟨u, rfl, S4.hid_ext.trans hb, ht, r.sub fun b m => List.mem_append_right _ m⟩ gg
end Mine
namespace Mine
open PySem PySem.W PyProof.Rows PySem.Calls PySem.Spec Builtin Builtin.ObjectAttr Builtin.Getset_descriptor
variable {C : Cfg} {k : Nat} {ec : EC} {σ : Sto} {W W' : List Str}

def misIn (K : Frag) (C : Addr) : Bool := match K.lookup C with
  | some ⟨_, _, .cls cd, sl⟩ => !cd.abstract && !cd.hasDel && (sl.toList[4]?).join == some .none && cd.mro == [.ref C, .type "tuple", .type "object"] && cd.bases == [.type "tuple"] &&
      specialIn K (.ref C) "__call__" == some (some (.builtin "type.__call__")) && instIn K (.ref C) (.type "type") == some true && findIn K (.ref C) "__init__" == some (some (.builtin "object.__init__"))
  | _ => false
structure Mis (M : Model) (h : Heap) (C : Addr) : Prop where
  obj : ∃ oc od cd sl, h.get? C = some ⟨oc, od, .cls cd, sl⟩ ∧ cd.abstract = false ∧ cd.hasDel = false ∧ cd.mro = [.ref C, .type "tuple", .type "object"] ∧ cd.bases = [.type "tuple"]
  made : Looks M h (Bind.madeBy (.ref C)) none
  base : Looks M h (Bind.staticBase (.ref C)) (.type "tuple")
  self : Looks M h (isSubtype (.ref C) (.ref C)) true
  tup : Looks M h (isSubtype (.ref C) (.type "tuple")) true
  top : Looks M h (isSubtype (.ref C) (.type "object")) true
  call : Looks M h (specialOf (.ref C) "__call__") (some (.builtin "type.__call__"))
  typ : Looks M h (isInstance (.ref C) (.type "type")) true
  init : Looks M h (typeLookup (.ref C) "__init__") (some (.builtin "object.__init__"))
  isT : Looks M h (isType (.ref C)) true
theorem best_tuple : Builtin.Slots.bestBase [.type "tuple"] = pure (.type "tuple") := by kernel_rfl
theorem made_tuple : Bind.madeBy (.type "tuple") = pure (some "tuple.__new__") := F.called_tuple.made
theorem mis_of {K : Frag} {M : Model} {h : Heap} (X : K.In h) {C : Addr} (e : misIn K C = true) : Mis M h C := by
  unfold misIn at e
  split at e
  · rename_i oc od cd sl ho
    simp only [Bool.and_eq_true, Bool.not_eq_true', beq_iff_eq] at e
    obtain ⟨⟨⟨⟨⟨⟨⟨e1, e2⟩, e3⟩, e4⟩, e5⟩, e6⟩, e7⟩, e8⟩ := e
    have hc : clsIn K C = some cd := by unfold clsIn; rw [ho]
    have hm : Looks M h (mroOf (.ref C)) cd.mro := (looks_clsIn X hc).andThen .now
    have made : Looks M h (Bind.madeBy (.ref C)) none := by
      intro A Q E s k q
      unfold Bind.madeBy
      refine wpAny_bind (hm A _ E s k ?_)
      rw [e4, List.forIn_cons]
      refine wpAny_bind (wpAny_bind (wpAny_bind (wpAny_bind (wpAny_loadPart (k _ _ (X _ _ ho)) (wpAny_pure ?_)))))
      dsimp only
      rw [← Array.getElem?_toList, e3]
      exact wpAny_pure (wpAny_pure (wpAny_pure q))
    refine ⟨⟨oc, od, cd, sl, X _ _ ho, e1, e2, e4, e5⟩, made, ?_, looks_mroIn X ?_, looks_mroIn X ?_, looks_mroIn X ?_, looks_specialIn X e6, looks_instIn X e7, looks_findIn X e8, (Looks.ld (X _ _ ho)).andThen .now⟩
    · intro A Q E s k q
      unfold Bind.staticBase
      refine wpAny_bind (hm A _ E s k ?_)
      rw [e4, List.forIn_cons]
      refine wpAny_bind (wpAny_bind (wpAny_bind (made A _ E s k ?_)))
      dsimp only [Option.isSome]
      rw [if_neg (by decide)]
      refine wpAny_bind ((looks_clsIn X hc) A _ E s k ?_)
      rw [e5, best_tuple]
      refine wpAny_bind (wpAny_pure (wpAny_pure ?_))
      dsimp only
      rw [List.forIn_cons, made_tuple]
      exact wpAny_bind (wpAny_pure (wpAny_pure (wpAny_pure q)))
    all_goals
      unfold mroIn; rw [hc, Option.bind_some, e4]; simp
  · cases e
end Mine
namespace Mine
open PySem PySem.W PyProof.Rows PySem.Calls PySem.Spec Builtin Builtin.ObjectAttr Builtin.Getset_descriptor
variable {C : Cfg} {k : Nat} {ec : EC} {σ : Sto} {W W' : List Str}

theorem tn_split : splitId "tuple.__new__" = some ("tuple", "__new__") := by decide +kernel
theorem tn_kind : builtinKind "tuple.__new__" = some .builtinFn := by decide +kernel
theorem tn_quiet (as : Args) : (Code.builtin "tuple.__new__" as).quiet = true := Code.quiet_builtin _ (by decide +kernel)
theorem tn_row : (Manifest.signature? "tuple.__new__").isSome = true := by decide +kernel
theorem tn_args (a b : Value) : argsOk "tuple.__new__" ⟨[a, b], []⟩ := by unfold argsOk; kernel_rfl
theorem tn_canon : (Manifest.canonical "tuple.__new__" != Manifest.canonical "tuple.__new__") = false := bne_self_eq_false _
abbrev misObj (C dx : Addr) (vs : List Value) : Obj := { cls := .ref C, dict := some dx, data := .seq vs.toArray }
theorem args_end {M : Model} {A : Around} {E : Value → Shared → Prop} {s : Shared} {i : String} {as : Args} {Q : Unit → Shared → Prop} (ha : argsOk i as) (q : Q () s) :
    wpAny M A (match Manifest.signature? i with | some sig => Bind.checkArgs i sig as | none => pure ()) Q E s := by
  cases hsig : Manifest.signature? i with
  | none => exact wpAny_pure q
  | some sig =>
    simp only [argsOk, hsig] at ha
    have h2 : Bind.checkArgs i sig as = pure () := ha
    show wpAny M A (Bind.checkArgs i sig as) Q E s
    rw [h2]; exact wpAny_pure q

section
variable {prog : Program} {w : World} {A : Around} {R : Result → Shared → Prop} {h : Heap} {g : Array GenState} {d : Drawn} {t : Nat} {os : OsState}
theorem tuple_new {MM a : Addr} {vs : List Value} {n : Nat} (Y : Mis (model prog w) h MM) (ha : h.get? a = some (tupObj vs n)) (hsz : vs.length ≤ 100)
    (hq : ∀ h' : Heap, (∀ b o, h.get? b = some o → h'.get? b = some o) → R (.ok (.ret (.ref (h'.objs.size + 1)))) ⟨(h'.push emptyDict).push (misObj MM h'.objs.size vs), g, d, t, os⟩) :
    codeAny (model prog w) A (.call (.builtin "tuple.__new__") ⟨[.ref MM, .ref a], []⟩) R ⟨h, g, d, t, os⟩ := by
  obtain ⟨⟨oc, od, cd, sl, hC, e1, e2, e4, e5⟩, made, base, self, tup, top, call, typ, init, isT⟩ := Y
  refine codeAny_call_builtin_code (tn_quiet _) ?_
  simp only [checkBuiltinCall, tn_kind, tn_split]
  have mt : Looks (model prog w) h (Bind.madeBy (.type "tuple")) (some "tuple.__new__") := Looks.of_pure made_tuple
  have here : Looks (model prog w) h (Bind.madeHere "tuple.__new__" (.ref MM)) () := base.andThen (mt.andThen (Looks.of_pure (by simp only [Option.map_some, bne_self_eq_false, Bool.false_eq_true, if_false])))
  have hargs : ∀ {A : Around} {E : Value → Shared → Prop} {Q : Unit → Shared → Prop}, Q () ⟨h, g, d, t, os⟩ → wpAny (model prog w) A (match Manifest.signature? "tuple.__new__" with | some sig => Bind.checkArgs "tuple.__new__" sig ⟨[.ref MM, .ref a], []⟩ | none => pure ()) Q E ⟨h, g, d, t, os⟩ := fun q => args_end (tn_args _ _) q
  repeat (first | simp only [bne_self_eq_false, Bool.false_eq_true, if_false, Bool.not_true] | lk)
  refine codeAny_builtin F.entry_tuple_new ?_
  unfold Builtin.«tuple.__new__»
  have hz : vs.toArray.size ≤ sizeLine := by rw [sizeLine_eq, List.size_toArray]; omega
  repeat (first | (with_reducible refine wpAny_collect_seq (items := vs.toArray) (n := n) (hsz := hz) a (.inr rfl) ha rfl rfl ?_) | simp only [bne_self_eq_false, Bool.false_eq_true, if_false, Bool.not_true] | lk)
  intro h' hk
  refine wpAny_bind (wpAny_pure (wpAny_bind (wpAny_alloc (wpAny_bind ?_))))
  have hC' : ∀ o', ((h'.push emptyDict).push o').get? MM = some _ := fun o' => Heap.get?_push_of_some _ (Heap.get?_push_of_some _ (hk _ _ hC))
  unfold newObj
  dsimp only
  rw [if_neg (by simpa using hz)]
  unfold newObjAsIs classHasDel
  refine wpAny_bind (wpAny_alloc (wpAny_bind (wpAny_bind (wpAny_load (hC' _) (wpAny_pure ?_)))))
  rw [e2]
  refine wpAny_pure (wpAny_pure ?_)
  have := hq h' hk
  show R _ _
  rw [Heap.size_push]
  simpa using this
end
end Mine
namespace Mine
open PySem PySem.W PyProof.Rows PySem.Calls PySem.Spec Builtin Builtin.ObjectAttr Builtin.Getset_descriptor
variable {C : Cfg} {k : Nat} {ec : EC} {σ : Sto} {W W' : List Str}

theorem under_make_depth (A : Around) (M : Addr) (vs : List Value) : (A.under (.builtin "type.__call__" ⟨.ref M :: vs, []⟩)).depth = A.depth + 1 := rfl
theorem under_make_handled (A : Around) (M : Addr) (vs : List Value) : (A.under (.builtin "type.__call__" ⟨.ref M :: vs, []⟩)).handled = A.handled := rfl
theorem under_make_units (A : Around) (M : Addr) (vs : List Value) : (A.under (.builtin "type.__call__" ⟨.ref M :: vs, []⟩)).units = A.in1.units := rfl
theorem Room.make {k : Nat} {A : Around} (r : Room (k + 1) A) (M : Addr) (vs : List Value) : Room k (A.under (.builtin "type.__call__" ⟨.ref M :: vs, []⟩)) :=
  ⟨by rw [under_make_handled]; exact r.handled, by rw [under_make_depth]; have := r.depth; omega, by rw [under_make_units]; have := r.units; simp; omega⟩
theorem oi_args4 (a b c d : Value) : argsOk "object.__init__" ⟨[a, b, c, d], []⟩ := by unfold argsOk; kernel_rfl

def MisBack (MM : Addr) (K : Frag) (Q : Value → Shared → Prop) (v : Value) (s' : Shared) : Prop := ∃ x dx vs n, v = .ref x ∧ K.In s'.heap ∧ s'.heap.get? x = some { cls := .ref MM, dict := some dx, data := .seq vs n } ∧ Q v s'
section
variable {prog : Program} {w : World} {A : Around} {E : Value → Shared → Prop} {Q : Value → Shared → Prop} {h : Heap} {g : Array GenState} {d : Drawn} {t : Nat} {os : OsState}
theorem mis_core {K : Frag} {MM sp : Addr} {f a b c : Value} {rest : List Value} (X : K.In h) (hm : misIn K MM = true) (hr : readsIn K MM (.type "type") = true)
    (e : findCls K (.ref MM) (.type "type") "__new__" = some (.get (.builtin "staticmethod.__get__") (.ref sp) .none (.ref MM))) (hp : recIn K sp "staticmethod" = some (f :: rest)) (hv : handedIn f = true)
    (hq : wpAny (model prog w) (A.under (.builtin "type.__call__" ⟨[.ref MM, a, b, c], []⟩)) (call f [.ref MM, a, b, c]) (MisBack MM K Q) E ⟨h, g, d, t + 1, os⟩) :
    wpAny (model prog w) A (call (.ref MM) [a, b, c]) Q E ⟨h, g, d, t, os⟩ := by
  have Y := mis_of (M := model prog w) X hm
  obtain ⟨⟨oc, od, cd, sl, hC, e1, e2, e4, e5⟩, made, base, self, tup, top, call, typ, init, isT⟩ := Y
  refine wpAny_call (codeAny_of_tree ?_)
  show wpAny _ _ (callAny (.ref MM) _) _ _ _
  refine nd_load hC ?_
  show wpAny _ _ (callAny.viaDunder (.ref MM) _) _ _ _
  unfold callAny.viaDunder
  refine wpAny_bind (call.at ?_)
  dsimp only
  rw [tc_bind]
  refine wpAny_bind (wpAny_pure (wpAny_bind (wpAny_pure ?_)))
  refine wpAny_pure (a := Fin.again (.call (.builtin "type.__call__") ⟨[.ref MM, a, b, c], []⟩)) (And.intro rfl ?_)
  refine codeAny_call_builtin_at (Code.quiet_builtin _ (by decide +kernel)) entry_typeCall (check_slot tc_kind tc_split typ (tc_args _ _ _) ?_)
  unfold Builtin.«type.__call__»
  have hmr : Looks (model prog w) h (mroOf (.ref MM)) cd.mro := ((Looks.ld (part := none) hC).andThen .now).andThen .now
  have ne : cd.mro.isEmpty = false := by rw [e4]; rfl
  repeat (first | (refine cls_bind (s := ⟨h, g, d, t, os⟩) X hr e (wpAny_call (sm_get (s := ⟨h, g, d, t + 1, os⟩) X hp (handed_on hv (wpAny_bind (wpAny_holding (wpAny_mono hq ?_ fun _ _ z => z))))))) | simp only [ne, Bool.false_eq_true, if_false] | lk)
  rintro v s' ⟨x, dx, vs, n, rfl, X', hx, z⟩
  obtain ⟨h', g', d', t', os'⟩ := s'
  dsimp only at X' hx
  have Y' := mis_of (M := model prog w) X' hm
  have hmade' := Y'.made
  have hself' := Y'.self
  have htop' := Y'.top
  have hinit' := Y'.init
  have t1 : Looks (model prog w) h' (typeOf (.ref x)) (.ref MM) := (Looks.ld hx).andThen .now
  have t2 : Looks (model prog w) h' (isInstance (.ref x) (.type "object")) true := t1.andThen htop'
  have t3 : Looks (model prog w) h' (isInstance (.ref x) (.ref MM)) true := t1.andThen hself'
  refine wpAny_bind (t3.at ?_)
  rw [if_neg (by decide)]
  unfold callSpecial? specialOf
  refine wpAny_bind (wpAny_holding (wpAny_bind (wpAny_bind (t1.at (hinit'.at ?_)))))
  dsimp only
  rw [oi_bind]
  refine wpAny_holding (wpAny_bind (wpAny_pure ?_))
  refine wpAny_bind (wpAny_call ?_)
  refine codeAny_call_builtin oi_plain entry_oi (@check_slot (model prog w) _ _ _ "object.__init__" "object" "__init__" (.ref x) [a, b, c] [] _ oi_kind oi_split t2 (oi_args4 _ _ _ _) ?_)
  unfold Builtin.«object.__init__»
  repeat lk
  exact z
end
end Mine
namespace Mine
open PySem PySem.W PyProof.Rows PySem.Calls PySem.Spec Builtin Builtin.ObjectAttr Builtin.Getset_descriptor
variable {C : Cfg} {k : Nat} {ec : EC} {σ : Sto} {W W' : List Str}

theorem find_tn (K : Frag) : findCls K (.type "tuple") (.type "type") "__new__" = some (.val (.builtin "tuple.__new__")) := by rfl
section
variable {prog : Program} {w : World} {A : Around} {E : Value → Shared → Prop} {s : Shared}
theorem getm_tn {K : Frag} {pl : Sem Bool} {Q : Value × List Value → Shared → Prop} (X : K.In s.heap) (h : Q (.builtin "tuple.__new__", []) { s with toks := s.toks + 1 }) :
    wpAny (model prog w) A (getMethod (.type "tuple") "__new__" pl) Q E s := by
  have hstub : opaqueClassAbove (.type "tuple") = pure none := by unfold opaqueClassAbove; dsimp only; rw [show Manifest.isStub "tuple" = false by decide +kernel]; rfl
  have ht : typeOf (.type "tuple") = pure (.type "type") := by first | rfl | kernel_rfl
  have L0 : Looks (model prog w) s.heap (typeOf (.type "tuple")) (.type "type") := Looks.of_pure ht
  have hg : findIn K (.type "type") "__getattribute__" = some (some (.builtin "type.__getattribute__")) := type_tga
  unfold getMethod specialOf
  refine wpAny_bind (wpAny_bind (L0.here ((looks_findIn X hg).here ?_)))
  dsimp only
  rw [if_pos canon_tga]
  refine wpAny_bind (wpAny_mono (Q := fun v => Q (v, [])) (E := E) ?_ (fun _ _ z => wpAny_pure z) fun _ _ z => z)
  have LO : Looks (model prog w) s.heap (opaqueClassAbove (.type "tuple")) none := Looks.of_pure hstub
  refine cls_open X LO L0 hg (looks_hook X (r := none) (by rfl)) (by show subIn K _ _ = _; rfl) (find_tn K) ?_
  exact wpAny_pure (handed_on rfl h)
end

abbrev cNew : Str := Str.ofString "__new__"
theorem ev_tnew {xp apos pos : Pos} {e f : Expr} {ds : List D} (B : B1 C "tuple" (.type "tuple")) (hm : misIn C.K C.MM = true) (ha : Evs C (k + 1) ec σ [e, f] [.raw (.ref C.MM), .tup ds]) (hz : ds.length ≤ 100) (hk : ec.kind "tuple" = some .globalImplicit)
    (hse : ∀ env, ∃ x rest, backTo pos (starEach [e, f] env) = (false, x) :: rest ∧ ((false, x) :: rest).any (·.1) = false)
    (he2 : ∀ env, ∃ pl, eval (.Call (.Attribute (.Name "tuple" xp) cNew apos) [e, f] [] pos) env = (do
      let ov ← eval (.Name "tuple" xp) env
      standAt apos.atName
      let (f', first) ← holding [ov] (getMethod ov cNew pl)
      callWith pos f' first (backTo pos (starEach [e, f] env)) [])) : Ev C (k + 1) ec σ (.Call (.Attribute (.Name "tuple" xp) cNew apos) [e, f] [] pos) (.mis ds) := by
  intro A W env h₀ ex s Q E hr he S hQ
  obtain ⟨pl, he2⟩ := he2 env
  refine MethodCall_ (pl := pl) (ev_built hk B.mg B.mb rfl _ _ _ _ _ _ _ _ hr he S fun v s1 g1 r1 => ?_) he2
  simp only [Rep] at r1
  subst r1
  have S1 := S.go g1
  refine getm_tn S1.g.kin ?_
  have S1' : Sta C ec W env h₀ ex σ ({ s1 with toks := s1.toks + 1 } : Shared).heap := S1
  have hsp := ha A W env h₀ ex { s1 with toks := s1.toks + 1 } pos (fun vs s2 => C.K.In s2.heap ∧ wpAny (model C.prog C.w) A (call (.builtin "tuple.__new__") vs) Q E s2) E hr he S1' fun vs s2 g2 r2 => ?_
  · obtain ⟨y, rest, e1, e2⟩ := hse env
    rw [e1] at hsp ⊢
    refine callWith_of (P := C.K.In) (by rw [e2]; rfl) (fun _ _ => ⟨Keeper.machine, .inr (.inl rfl), Looks.of_pure rfl⟩) (evalArgs_plain (wpAny_mono hsp (fun vs s2 h2 => h2) fun _ _ e => e))
  · have S2 := S1'.go g2
    refine ⟨S2.g.kin, ?_⟩
    simp only [RepL] at r2
    obtain ⟨v1, r1', rfl, h1, v2, r2', rfl, h2, rfl⟩ := r2
    simp only [Rep] at h1 h2
    obtain ⟨a, vs, n, rfl, hae, hat, hrl⟩ := h2
    subst h1
    obtain ⟨hh, g, d, t, os⟩ := s2
    refine wpAny_call (tuple_new (mis_of S2.g.kin hm) hat (by rw [hrl.length]; exact hz) fun h' hk' => ?_)
    dsimp only at hat hrl
    have hnone : ∀ m, h'.objs.size ≤ m → hh.get? m = none := fun m hm => by
      cases q : hh.get? m with
      | none => rfl
      | some o => exact absurd (Heap.lt_size (hk' _ _ q)) (Nat.not_lt.mpr hm)
    have k2 : ∀ b o, hh.get? b = some o → ((h'.push emptyDict).push (misObj C.MM h'.objs.size vs)).get? b = some o := fun b o e => Heap.get?_push_of_some _ (Heap.get?_push_of_some _ (hk' b o e))
    have hd2 : ((h'.push emptyDict).push (misObj C.MM h'.objs.size vs)).get? h'.objs.size = some emptyDict := Heap.get?_push_of_some _ (Heap.get?_push_size _ rfl)
    have hx2 : ((h'.push emptyDict).push (misObj C.MM h'.objs.size vs)).get? (h'.objs.size + 1) = some (misObj C.MM h'.objs.size vs) := by
      have := Heap.get?_push_size (h'.push emptyDict) (o := misObj C.MM h'.objs.size vs) rfl
      rwa [Heap.size_push] at this
    have g3 : Go C ⟨hh, g, d, t, os⟩ ⟨(h'.push emptyDict).push (misObj C.MM h'.objs.size vs), g, d, t, os⟩ := .keep k2
    have al := S2.alive
    have g12 : Go C s1 { s1 with toks := s1.toks + 1 } := .keep fun _ _ e => e
    refine hQ _ _ ((g1.trans g12).trans (g2.trans g3)) ?_
    simp only [Rep]
    exact ⟨_, _, _, _, rfl, fun m => al _ m (hnone _ (Nat.le_succ _)), fun m => al _ m (hnone _ (Nat.le_refl _)), hx2, hd2, hrl.go g3 S2.tab⟩
end Mine
namespace Mine
open PySem PySem.W PyProof.Rows PySem.Calls PySem.Spec
variable {C : Cfg} {k : Nat} {ec : EC} {σ : Sto} {W W' : List Str}

theorem vtnew {xp apos pos : Pos} {e f : Expr} {ds : List D} (B : B1 C "tuple" (.type "tuple")) (hm : misIn C.K C.MM = true) (ha : Vs C (k + 1) ec σ [e, f] [.raw (.ref C.MM), .tup ds]) (hz : ds.length ≤ 100 := by simp) (hk : ec.kind "tuple" = some .globalImplicit := by rfl)
    (hse : ∀ env, ∃ x rest, backTo pos (starEach [e, f] env) = (false, x) :: rest ∧ ((false, x) :: rest).any (·.1) = false := by intro _; exact ⟨_, _, rfl, rfl⟩)
    (he2 : ∀ env, ∃ pl, eval (.Call (.Attribute (.Name "tuple" xp) cNew apos) [e, f] [] pos) env = (do
      let ov ← eval (.Name "tuple" xp) env
      standAt apos.atName
      let (f', first) ← holding [ov] (getMethod ov cNew pl)
      callWith pos f' first (backTo pos (starEach [e, f] env)) []) := by intro _; exact ⟨_, rfl⟩) : V C (k + 1) ec σ (.Call (.Attribute (.Name "tuple" xp) cNew apos) [e, f] [] pos) (.mis ds) := ⟨ev_tnew B hm ha.run hz hk hse he2⟩

theorem fv_new (B : B1 C "tuple" (.type "tuple")) (hm : misIn C.K C.MM = true) (F : FnAt C new_body new_scope ["_cls", "actual", "expected", "value"]) (a b c : D) : Fv C (k + 2) (.ref F.fa) [.raw (.ref C.MM), a, b, c] (.mis [a, b, c]) :=
  fv_fn (W := []) F rfl (fun code qual => zdoc (zret (vtnew B hm (sc vr (s1 (vtup (sc vr (sc vr (s1 vr))))))) rfl)) (fun x hx => nomatch hx)
end Mine
namespace Mine
open PySem PySem.W PyProof.Rows PySem.Calls PySem.Spec
variable {C : Cfg} {k : Nat} {ec : EC} {σ : Sto} {W W' : List Str}

structure MisOK (C : Cfg) where
  nw : FnAt C new_body new_scope ["_cls", "actual", "expected", "value"]
  mgM : C.mg "_Mismatch" = some (.ref C.MM)
  mis : misIn C.K C.MM = true
  reads : readsIn C.K C.MM (.type "type") = true
  sp : Addr
  getN : findCls C.K (.ref C.MM) (.type "type") "__new__" = some (.get (.builtin "staticmethod.__get__") (.ref sp) .none (.ref C.MM))
  rest : List Value
  recN : recIn C.K sp "staticmethod" = some (.ref nw.fa :: rest)
  keep : keepIn C.K (.ref C.MM) = true
  B : B1 C "tuple" (.type "tuple")

theorem ev_mis {p pos : Pos} {e f g : Expr} {a b c : D} (X : MisOK C) (h : Evs C (k + 3) ec σ [e, f, g] [a, b, c]) (hk : ec.kind "_Mismatch" = some .globalImplicit)
    (hse : ∀ env, ∃ x rest, backTo pos (starEach [e, f, g] env) = (false, x) :: rest ∧ ((false, x) :: rest).any (·.1) = false) : Ev C (k + 3) ec σ (.Call (.Name "_Mismatch" p) [e, f, g] [] pos) (.mis [a, b, c]) := by
  intro A W env h₀ ex s Q E hr he S hQ
  refine wpAny_Call_NameR (ev_glob hk X.mgM rfl _ _ _ _ _ _ _ _ hr he S fun v s1 g1 r1 => ?_)
  simp only [Rep] at r1
  subst r1
  have S1 := S.go g1
  have hsp := h A W env h₀ ex s1 pos (fun vs s2 => C.K.In s2.heap ∧ wpAny (model C.prog C.w) A (call (.ref C.MM) vs) Q E s2) E hr he S1 fun vs s2 g2 r2 => ?_
  · obtain ⟨y, rest, e1, e2⟩ := hse env
    rw [e1] at hsp ⊢
    exact callWith_of (P := C.K.In) (by rw [e2]; rfl) (keeps_K X.keep) (evalArgs_plain (wpAny_mono hsp (fun vs s2 h2 => h2) fun _ _ e => e))
  · have S2 := S1.go g2
    refine ⟨S2.g.kin, ?_⟩
    have r0 := r2
    simp only [RepL] at r2
    obtain ⟨v1, _, rfl, h1, v2, _, rfl, h2, v3, _, rfl, h3, rfl⟩ := r2
    obtain ⟨hh, gg, d, t, os⟩ := s2
    refine mis_core S2.g.kin X.mis X.reads X.getN X.recN rfl ?_
    have gt : Go C ⟨hh, gg, d, t, os⟩ ⟨hh, gg, d, t + 1, os⟩ := .keep fun _ _ e => e
    have P2 := (S2.pre hr).go gt
    refine (fv_new X.B X.mis X.nw a b c).run _ _ _ _ _ _ ⟨hr.make _ _, P2.g, P2.tab, P2.alive⟩ S2.nodup ?_ fun r s3 g3 r3 => ?_
    · simp only [RepL]
      exact ⟨_, _, rfl, by simp only [Rep], v1, _, rfl, h1, v2, _, rfl, h2, v3, _, rfl, h3, rfl⟩
    · have r3' := r3
      simp only [Rep] at r3'
      obtain ⟨x, dx, vs, n, rfl, _, _, hx, _⟩ := r3'
      have S3 := S2.go (gt.trans g3)
      exact ⟨x, dx, _, n, rfl, S3.g.kin, hx, hQ _ _ ((g1.trans g2).trans (gt.trans g3)) r3⟩
end Mine
namespace Mine
open PySem PySem.W PyProof.Rows PySem.Calls PySem.Spec
variable {C : Cfg} {k : Nat} {ec : EC} {σ : Sto} {W W' : List Str}

theorem vmis {p pos : Pos} {e f g : Expr} {a b c : D} (X : MisOK C) (h : Vs C (k + 3) ec σ [e, f, g] [a, b, c]) (hk : ec.kind "_Mismatch" = some .globalImplicit := by rfl)
    (hse : ∀ env, ∃ x rest, backTo pos (starEach [e, f, g] env) = (false, x) :: rest ∧ ((false, x) :: rest).any (·.1) = false := by intro _; exact ⟨_, _, rfl, rfl⟩) : V C (k + 3) ec σ (.Call (.Name "_Mismatch" p) [e, f, g] [] pos) (.mis [a, b, c]) := ⟨ev_mis X h.run hk hse⟩
end Mine
namespace Mine
open PySem PySem.W PyProof.Rows PySem.Calls PySem.Spec
variable {C : Cfg} {k : Nat} {ec : EC} {σ : Sto} {W W' : List Str}

theorem znew {x : Str} {p np cp pos : Pos} {rest : List Stmt} {Φ : Out → Prop} (b : B1 C "object" (.type "object")) (hr : ∀ a, St C k ec W (σ.set x (.dat (.obj a))) rest Φ) (hx : okName ec W x = true := by rfl) (hk : ec.kind "object" = some .globalImplicit := by rfl) :
    St C k ec W σ (.Assign [.Name x p] (.Call (.Name "object" np) [] [] cp) pos :: rest) Φ := ⟨xs_cons (x1_new_obj (b.bn hk) (okName.of hx) fun a => (hr a).run)⟩
theorem ztwo {elts : List Expr} {n m : Nat} {tp vp pos : Pos} {e f : Expr} (x y : Str) {d d' : D} {rest : List Stmt} {Φ : Out → Prop} (h : Vs C k ec σ [e, f] [d, d']) (hr : St C k ec W ((σ.set y (.dat d')).set x (.dat d)) rest Φ)
    (hx : okName ec W x = true := by rfl) (hy : okName ec W y = true := by rfl)
    (hs : ∀ env, swapsWithSole [.Tuple elts n tp] (.Tuple [e, f] m vp) pos.line env = pure false := by intro _; rfl) (hw : ∀ env, EnvOK ec env → swappedStores [.Tuple elts n tp] (.Tuple [e, f] m vp) env = pure (some [x, y]) := by intro env he; cases env; cases he.sc; rfl) :
    St C k ec W σ (.Assign [.Tuple elts n tp] (.Tuple [e, f] m vp) pos :: rest) Φ := ⟨xs_cons (x1_two_data h.run (okName.of hx) (okName.of hy) hs hw hr.run)⟩
theorem ztwoL {elts : List Expr} {n m : Nat} {tp vp pos : Pos} {e f : Expr} (x y : Str) {ds ds' : List D} {rest : List Stmt} {Φ : Out → Prop} (h1 : Vl C k ec σ e ds) (h2 : Vl C k ec σ f ds') (hr : ∀ a b, St C k ec W ((σ.set y (.own b ds')).set x (.own a ds)) rest Φ)
    (hx : ec.kind x = some .local := by rfl) (hy : ec.kind y = some .local := by rfl)
    (hst1 : ∀ env, starEach [e, f] env = (false, eval e env) :: starEach [f] env := by intro _; rfl) (hst2 : ∀ env, starEach [f] env = (false, eval f env) :: starEach [] env := by intro _; rfl)
    (hs : ∀ env, swapsWithSole [.Tuple elts n tp] (.Tuple [e, f] m vp) pos.line env = pure false := by intro _; rfl) (hw : ∀ env, EnvOK ec env → swappedStores [.Tuple elts n tp] (.Tuple [e, f] m vp) env = pure (some [x, y]) := by intro env he; cases env; cases he.sc; rfl) :
    St C k ec W σ (.Assign [.Tuple elts n tp] (.Tuple [e, f] m vp) pos :: rest) Φ := ⟨xs_cons (x1_two_lists h1.run h2.run hx hy hst1 hst2 hs hw fun a b => (hr a b).run)⟩
end Mine
namespace Mine
open PySem PySem.W PyProof.Rows PySem.Calls PySem.Spec
variable {C : Cfg} {k : Nat} {ec : EC} {σ : Sto} {W W' : List Str}

theorem zfenum {ni nx ns : Str} {pi px sp ep epos tp pos : Pos} {m : Nat} {body rest : List Stmt} {a : Addr} {as0 : List D} {n : Nat} {Φ : Out → Prop} (I : Nat → Sto → Prop) (b : B1 C "enumerate" (.type "enumerate")) (hx : σ.lookup ns = some (.own a as0)) (hn : as0.length = n) (h0 : I 0 σ)
    (hown : ∀ j τ, I j τ → ∃ as, τ.lookup ns = some (.own a as) ∧ as.length = n)
    (turn : ∀ j τ as d, I j τ → τ.lookup ns = some (.own a as) → as[j]? = some d → St C k ec W ((τ.set ni (.dat (.int j))).set nx (.dat d)) body (LoopO I j (Th C k ec W rest Φ)))
    (hend : ∀ τ, I n τ → St C k ec W τ rest Φ) (hi : okName ec W ni = true := by rfl) (hv : okName ec W nx = true := by rfl) (hk : ec.kind "enumerate" = some .globalImplicit := by rfl)
    (h1 : (ns == ("__debug__" : Str)) = false := by rfl) (h2 : (ns == ("__classdict__" : Str)) = false := by rfl)
    (hse : ∀ env, backTo epos (starEach [.Name ns sp] env) = [(false, eval (.Name ns sp) env)] := by intro _; rfl) (hf : ∀ env x, foldedSetIterable (.Call (.Name "enumerate" ep) [.Name ns sp] [] epos) env x = pure x := by intros; rfl) :
    St C k ec W σ (.For (.Tuple [.Name ni pi, .Name nx px] m tp) (.Call (.Name "enumerate" ep) [.Name ns sp] [] epos) body [] pos :: rest) Φ := by
  refine ⟨xs_cons (x1_for_enum I (b.bn hk) hx hn h0 hown (fun j τ as d hI hl hd => (turn j τ as d hI hl hd).run.mono fun o ho => ?_) (fun τ hI => (hend τ hI).run) (okName.of hi) (okName.of hv) h1 h2 hse hf)⟩
  cases o with
  | next τ => exact ho
  | cont τ => exact ho
  | brk τ => exact then_of (.next τ) ho
  | ret d => exact ho
end Mine
namespace Mine
open PySem PySem.W PyProof.Rows PySem.Calls PySem.Spec
variable {C : Cfg} {k : Nat} {ec : EC} {σ : Sto} {W W' : List Str}

/-- what a store surely holds -/
def Hs (cs τ : Sto) : Prop := ∀ x s, cs.lookup x = some s → τ.lookup x = some s
theorem Hs.at {cs τ : Sto} (h : Hs cs τ) {x : Str} {s : Slot} (e : cs.lookup x = some s := by rfl) : τ.lookup x = some s := h x s e
theorem Hs.set {cs τ : Sto} (h : Hs cs τ) (x : Str) (s : Slot) : Hs (cs.set x s) (τ.set x s) := fun y t e => by
  by_cases q : y = x
  · subst q
    rw [lookup_set_self] at e ⊢; exact e
  · rw [lookup_set_ne q] at e ⊢; exact h _ _ e
def subS : Sto → Sto → Prop
  | [], _ => True
  | (x, s) :: r, cs => cs.lookup x = some s ∧ subS r cs
theorem Hs.sub : ∀ {cs' cs τ : Sto}, Hs cs τ → subS cs' cs → Hs cs' τ
  | [], _, _, _, _ => fun _ _ e => by cases e
  | (y, t) :: r, cs, τ, h, q => fun x s e => by
    rw [List.lookup_cons] at e
    split at e
    · rename_i hq
      rw [beq_iff_eq] at hq
      cases e
      rw [hq]
      exact h _ _ q.1
    · exact Hs.sub h q.2 x s e
theorem Hs.refl (cs : Sto) : Hs cs cs := fun _ _ e => e
theorem Hs.toSet {cs τ : Sto} {x : Str} {s : Slot} (h : Hs cs τ) (e : τ.lookup x = some s) : Hs ((x, s) :: cs) τ := fun y t q => by
  rw [List.lookup_cons] at q
  split at q
  · rename_i hq
    rw [beq_iff_eq] at hq
    cases q
    rw [hq]; exact e
  · exact h _ _ q

open Classical in
/-- what has been told already is struck out -/
noncomputable def mask (N : Addr) (dn : List D) (d : D) : D := if d ∈ dn then .obj N else d
theorem mask_in {N : Addr} {dn : List D} {d : D} (h : d ∈ dn) : mask N dn d = .obj N := if_pos h
theorem mask_out {N : Addr} {dn : List D} {d : D} (h : d ∉ dn) : mask N dn d = d := if_neg h
theorem mask_congr {N : Addr} {dn dn' : List D} (h : ∀ d, d ∈ dn ↔ d ∈ dn') : mask N dn = mask N dn' := by
  funext d
  by_cases q : d ∈ dn
  · rw [mask_in q, mask_in ((h d).mp q)]
  · rw [mask_out q, mask_out fun z => q ((h d).mpr z)]
noncomputable def mid (N : Addr) (dn : List D) (d : D) (j : Nat) (l : List D) : List D := l.mapIdx fun p x => if p < j then mask N (d :: dn) x else mask N dn x
section
variable {N : Addr} {dn : List D} {d : D} {j : Nat} {l : List D}
theorem mid_len : (mid N dn d j l).length = l.length := by simp [mid]
theorem mid_get (p : Nat) : (mid N dn d j l)[p]? = l[p]?.map fun x => if p < j then mask N (d :: dn) x else mask N dn x := by simp [mid]
theorem mid_here : (mid N dn d j l)[j]? = l[j]?.map (mask N dn) := by rw [mid_get]; simp
theorem mid_start (h : ∀ x ∈ l.take j, x ∈ dn) : mid N dn d j l = l.map (mask N dn) := by
  refine List.ext_getElem? fun p => ?_
  rw [mid_get, List.getElem?_map]
  cases q : l[p]? with
  | none => rfl
  | some x =>
    simp only [Option.map_some]
    split
    · rename_i hp
      have hx : x ∈ dn := h x (List.mem_of_getElem? (i := p) (by rw [List.getElem?_take_of_lt hp]; exact q))
      rw [mask_in hx, mask_in (List.mem_cons_of_mem _ hx)]
    · rfl
theorem mid_end (h : l.length ≤ j) : mid N dn d j l = l.map (mask N (d :: dn)) := by
  refine List.ext_getElem? fun p => ?_
  rw [mid_get, List.getElem?_map]
  cases q : l[p]? with
  | none => rfl
  | some x =>
    have hp : p < l.length := by
      rcases Nat.lt_or_ge p l.length with z | z
      · exact z
      · rw [List.getElem?_eq_none z] at q; cases q
    simp only [Option.map_some]
    rw [if_pos (by omega)]
theorem mid_hit (h : l[j]? = some d) : (mid N dn d j l).set j (.obj N) = mid N dn d (j + 1) l := by
  refine List.ext_getElem? fun p => ?_
  rw [List.getElem?_set, mid_len]
  split
  · rename_i hp
    subst hp
    have hj : j < l.length := by
      rcases Nat.lt_or_ge j l.length with z | z
      · exact z
      · rw [List.getElem?_eq_none z] at h; cases h
    rw [if_pos hj, mid_get, h, Option.map_some, if_pos (Nat.lt_succ_self j), mask_in (List.mem_cons_self)]
  · rename_i hp
    rw [mid_get, mid_get]
    have : (p < j) = (p < j + 1) := propext ⟨by omega, by omega⟩
    simp only [this]
theorem mid_miss {x : D} (h : l[j]? = some x) (hx : x ≠ d) : mid N dn d j l = mid N dn d (j + 1) l := by
  refine List.ext_getElem? fun p => ?_
  rw [mid_get, mid_get]
  by_cases hp : p = j
  · subst hp
    rw [h, Option.map_some, Option.map_some, if_neg (Nat.lt_irrefl _), if_pos (Nat.lt_succ_self _)]
    congr 1
    by_cases q : x ∈ dn
    · rw [mask_in q, mask_in (List.mem_cons_of_mem _ q)]
    · rw [mask_out q, mask_out (by rw [List.mem_cons]; exact fun z => z.elim hx q)]
  · have : (p < j) = (p < j + 1) := propext ⟨by omega, by omega⟩
    simp only [this]
end
theorem cnt_take_succ {l : List D} {j : Nat} {x d : D} (h : l[j]? = some x) : by classical exact cnt (l.take (j + 1)) d = cnt (l.take j) d + if x = d then 1 else 0 := by
  classical
  unfold cnt
  rw [List.take_succ, h, List.countP_append]
  simp [List.countP_cons]
theorem cnt_none {l : List D} {d : D} (h : d ∉ l) : cnt l d = 0 := by
  classical
  unfold cnt
  rw [List.countP_eq_zero]
  intro x hx e
  rw [decide_eq_true_eq] at e
  exact h (e ▸ hx)

open Classical in
theorem ceqm {N : Addr} {dn : List D} {x d : D} {ds es : List D} (hx : x = .tup ds) (hd : d = .tup es) (hs : sim 5 x d = true) (hn : d ∉ dn) : Cc C k .Eq (mask N dn x) d (decide (x = d)) := by
  by_cases q : x ∈ dn
  · have : decide (x = d) = false := decide_eq_false fun e => hn (e ▸ q)
    rw [mask_in q, this, hd]
    exact ceqo
  · rw [mask_out q]
    subst hx hd
    have h := ceqt (C := C) (k := k) (n := 4) hs (by decide)
    have e : decide (D.tup ds = D.tup es) = decide (ds = es) := by
      rw [Bool.eq_iff_iff, decide_eq_true_eq, decide_eq_true_eq]
      exact ⟨fun e => D.tup.inj e, fun e => by rw [e]⟩
    rw [e]; exact h
open Classical in
theorem cism {N : Addr} {dn : List D} {x : D} {ds : List D} (hx : x = .tup ds) : Cc C k .Is (mask N dn x) (.obj N) (decide (x ∈ dn)) := by
  by_cases q : x ∈ dn
  · rw [mask_in q, decide_eq_true q]; exact ciso
  · rw [mask_out q, decide_eq_false q, hx]; exact cist

open Classical in
/-- the rows that the tool tells -/
noncomputable def dr1 (l1 l2 : List D) (i : Nat) : List D := match l1[i]? with
  | none => []
  | some d => if d ∈ l1.take i then [] else if (cnt l1 d : Int) = cnt l2 d then [] else [.mis [.int (cnt l1 d), .int (cnt l2 d), d]]
open Classical in
noncomputable def dr2 (l1 l2 : List D) (i : Nat) : List D := match l2[i]? with
  | none => []
  | some d => if d ∈ l1 ++ l2.take i then [] else [.mis [.int 0, .int (cnt l2 d), d]]
noncomputable def dif1 (l1 l2 : List D) (i : Nat) : List D := (List.range i).flatMap (dr1 l1 l2)
noncomputable def dif2 (l1 l2 : List D) (i : Nat) : List D := (List.range i).flatMap (dr2 l1 l2)
noncomputable def difN (l1 l2 : List D) : List D := dif1 l1 l2 l1.length ++ dif2 l1 l2 l2.length
theorem flat_len {f : Nat → List D} (h : ∀ i, (f i).length ≤ 1) : ∀ n, ((List.range n).flatMap f).length ≤ n
  | 0 => by simp
  | n + 1 => by
    have := flat_len h n
    have h1 := h n
    simp only [List.range_succ, List.flatMap_append, List.length_append, List.flatMap_cons, List.flatMap_nil, List.append_nil] at *
    omega
theorem dif1_len (l1 l2 : List D) (n : Nat) : (dif1 l1 l2 n).length ≤ n := flat_len (fun i => by
  unfold dr1
  split
  · simp
  · split
    · simp
    · split <;> simp) n
theorem dif2_len (l1 l2 : List D) (n : Nat) : (dif2 l1 l2 n).length ≤ n := flat_len (fun i => by
  unfold dr2
  split
  · simp
  · split <;> simp) n
theorem dif1_succ (l1 l2 : List D) (n : Nat) : dif1 l1 l2 (n + 1) = dif1 l1 l2 n ++ dr1 l1 l2 n := by
  simp only [dif1, List.range_succ, List.flatMap_append, List.flatMap_cons, List.flatMap_nil, List.append_nil]
theorem dif2_succ (l1 l2 : List D) (n : Nat) : dif2 l1 l2 (n + 1) = dif2 l1 l2 n ++ dr2 l1 l2 n := by
  simp only [dif2, List.range_succ, List.flatMap_append, List.flatMap_cons, List.flatMap_nil, List.append_nil]
end Mine
namespace Mine
open PySem PySem.W PyProof.Rows PySem.Calls PySem.Spec
variable {C : Cfg} {k : Nat} {ec : EC} {σ : Sto} {W W' : List Str}

abbrev difB (N : Addr) (l1 l2 : List D) : Sto := [("m", .dat (.int l1.length)), ("n", .dat (.int l2.length)), ("NULL", .dat (.obj N))]
theorem getlt {α : Type} {l : List α} {i : Nat} {x : α} (h : l[i]? = some x) : i < l.length := by
  rcases Nat.lt_or_ge i l.length with z | z
  · exact z
  · rw [List.getElem?_eq_none z] at h; cases h
theorem take_mem_succ {l : List D} {i : Nat} {d y : D} (h : l[i]? = some d) : y ∈ d :: l.take i ↔ y ∈ l.take (i + 1) := by
  rw [List.take_succ, h, List.mem_append, List.mem_cons]
  simp [or_comm]
theorem cnt_zero_take {l : List D} {i : Nat} {d : D} (h : d ∉ l.take i) : (cnt (l.take i) d) = 0 := cnt_none h
theorem cast_add1 (a : Nat) (b : Prop) [Decidable b] (h : b) : ((a + if b then 1 else 0 : Nat) : Int) = (a : Int) + 1 := by rw [if_pos h]; rfl
theorem cast_add0 (a : Nat) (b : Prop) [Decidable b] (h : ¬b) : ((a + if b then 1 else 0 : Nat) : Int) = (a : Int) := by rw [if_neg h]; rfl

theorem z_diff {code : Value} {qual : Str} (B : Bns C) (Y : MisOK C) (l1 l2 : List D) (ht : ∀ d ∈ l1 ++ l2, ∃ ds, d = .tup ds) (hs : ∀ a ∈ l1 ++ l2, ∀ b ∈ l1 ++ l2, sim 5 a b = true) (h1 : l1.length ≤ 100) (h2 : l2.length ≤ 100) :
    St C (k + 3) ⟨diff_scope, code, qual⟩ W (argSto ["actual", "expected"] [.lst l1, .lst l2]) diff_body fun o => o = .ret (.lst (difN l1 l2)) := by
  classical
  refine zdoc ?_
  refine ztwoL "s" "t" (llistof B.blist.bn (V.e (ds := l1) (vr (by rfl))) (by omega)) (llistof B.blist.bn (V.e (ds := l2) (vr (by rfl))) (by omega)) fun a b => ?_
  refine ztwo "m" "n" (d := .int l1.length) (d' := .int l2.length) (sc (vlenn B.blen.bn (eown (ds := l1) (a := a) (by rfl)) rfl (by omega)) (s1 (vlenn B.blen.bn (eown (ds := l2) (a := b) (by rfl)) rfl (by omega)))) ?_
  refine znew B.bobject fun N => ?_
  refine zown (ds := []) (llist s0) fun c => ?_
  refine zfenum (a := a) (as0 := l1) (n := l1.length) (fun i τ => Hs (("s", .own a (l1.map (mask N (l1.take i)))) :: ("t", .own b (l2.map (mask N (l1.take i)))) :: ("result", .own c (dif1 l1 l2 i)) :: difB N l1 l2) τ) B.benumerate (by rfl) rfl ?_ (fun j τ hI => ⟨_, hI.at, by simp⟩) (fun i τ as d hI hl hd => ?_) fun τ hI => ?_
  · have e1 : l1.map (mask N (l1.take 0)) = l1 := by
      rw [List.take_zero]; exact List.map_id'' (fun x => mask_out (by simp)) l1
    have e2 : l2.map (mask N (l1.take 0)) = l2 := by
      rw [List.take_zero]; exact List.map_id'' (fun x => mask_out (by simp)) l2
    rw [e1, e2]
    exact Hs.sub (Hs.refl _) ⟨rfl, rfl, rfl, rfl, rfl, rfl, trivial⟩
  · have has := hl.symm.trans (hI.at (x := "s"))
    cases has
    rw [List.getElem?_map, Option.map_eq_some_iff] at hd
    obtain ⟨x, hx, rfl⟩ := hd
    have hxm := List.mem_of_getElem? hx
    obtain ⟨xs, hxt⟩ := ht x (List.mem_append_left _ hxm)
    have hi := getlt hx
    have K := (hI.set "i" (.dat (.int i))).set "elem" (.dat (mask N (l1.take i) x))
    generalize (τ.set "i" (.dat (.int i))).set "elem" (.dat (mask N (l1.take i) x)) = τ1 at K
    refine zif (tcmp (vr (K _ _ rfl)) (vr (K _ _ rfl)) (cism hxt)) (fun h => zcont ?_) fun h => ?_
    · have hin : x ∈ l1.take i := by simpa using h
      have em : mask N (l1.take (i + 1)) = mask N (l1.take i) := mask_congr fun y => by
        rw [← take_mem_succ hx, List.mem_cons]
        exact ⟨fun z => z.elim (fun e => e ▸ hin) id, .inr⟩
      have ed : dif1 l1 l2 (i + 1) = dif1 l1 l2 i := by rw [dif1_succ]; unfold dr1; rw [hx]; simp [hin]
      show Hs _ _
      rw [em, ed]
      exact K.sub ⟨rfl, rfl, rfl, rfl, rfl, rfl, trivial⟩
    · have hout : x ∉ l1.take i := by simpa using h
      rw [mask_out hout] at K
      refine zset2 (d := .int 0) vint ?_
      have K2 := (K.set "cnt_s" (.dat (.int 0))).set "cnt_t" (.dat (.int 0))
      generalize (τ1.set "cnt_s" (.dat (.int 0))).set "cnt_t" (.dat (.int 0)) = τ2 at K2
      refine zfor (fun jj τ => Hs (("s", .own a (mid N (l1.take i) x (i + jj) l1)) :: ("t", .own b (l2.map (mask N (l1.take i)))) :: ("result", .own c (dif1 l1 l2 i)) :: ("elem", .dat x) :: ("cnt_s", .dat (.int (cnt (l1.take (i + jj)) x))) :: ("cnt_t", .dat (.int 0)) :: difB N l1 l2) τ) (irange2 (M := i) (N := l1.length) B.brange.bn (vr (K2 _ _ rfl)) (vr (K2 _ _ rfl)) (by omega) (by omega) (by omega) (by omega)) ?_ (fun jj τ d hI hd => ?_) fun τ hI => ?_
      · rw [Nat.add_zero, mid_start (fun y hy => hy), cnt_none hout]
        exact K2.sub ⟨rfl, rfl, rfl, rfl, rfl, rfl, rfl, rfl, rfl, trivial⟩
      · obtain ⟨hj, rfl⟩ := rangeD_get hd
        have hjl : i + jj < l1.length := by omega
        refine ⟨_, tname, ?_⟩
        have K3 := hI.set "j" (.dat (.int ((i : Int) + jj)))
        generalize τ.set "j" (.dat (.int ((i : Int) + jj))) = τ3 at K3
        obtain ⟨y, hy⟩ : ∃ y, l1[i + jj]? = some y := ⟨_, List.getElem?_eq_getElem hjl⟩
        have hym := List.mem_of_getElem? hy
        obtain ⟨ys, hyt⟩ := ht y (List.mem_append_left _ hym)
        have hn : ((i : Int) + jj).toNat = i + jj := by omega
        refine zif (tcmp (vitem (n := (i : Int) + jj) (eown (K3 _ _ rfl)) (vr (K3 _ _ rfl)) (by omega) (by rw [hn, mid_here, hy]; rfl) (by rw [mid_len]; omega)) (vr (K3 _ _ rfl)) (ceqm hyt hxt (hs y (List.mem_append_left _ hym) x (List.mem_append_left _ hxm)) hout)) (fun h => ?_) fun h => ?_
        · have e : y = x := by simpa using h
          subst e
          refine zaug (K3 _ _ rfl) vint ?_
          have K4 := K3.set "cnt_s" (.dat (.int (cnt (l1.take (i + jj)) y + 1)))
          generalize τ3.set "cnt_s" (.dat (.int (cnt (l1.take (i + jj)) y + 1))) = τ4 at K4
          refine zlset (n := (i : Int) + jj) (K4 _ _ rfl) (vr (K4 _ _ rfl)) (vr (K4 _ _ rfl)) (by omega) (by rw [mid_len]; omega) (by rw [mid_len]; omega) ?_
          rw [hn, mid_hit hy]
          refine znil (znil ?_)
          show Hs _ _
          rw [← Nat.add_assoc, cnt_take_succ hy, cast_add1 _ _ rfl]
          exact (K4.set "s" _).sub ⟨rfl, rfl, rfl, rfl, rfl, rfl, rfl, rfl, rfl, trivial⟩
        · have e : y ≠ x := by simpa using h
          refine znil ?_
          show Hs _ _
          rw [← Nat.add_assoc, cnt_take_succ hy, cast_add0 _ _ e, ← mid_miss hy e]
          exact K3.sub ⟨rfl, rfl, rfl, rfl, rfl, rfl, rfl, rfl, rfl, trivial⟩
      · rw [rangeD_len] at hI
        have hm : i + ((l1.length : Int) - i).toNat = l1.length := by omega
        rw [hm, mid_end (Nat.le_refl _), List.take_length] at hI
        refine zfenum (a := b) (as0 := l2.map (mask N (l1.take i))) (n := l2.length) (fun j τ => Hs (("s", .own a (l1.map (mask N (x :: l1.take i)))) :: ("t", .own b (mid N (l1.take i) x j l2)) :: ("result", .own c (dif1 l1 l2 i)) :: ("elem", .dat x) :: ("cnt_s", .dat (.int (cnt l1 x))) :: ("cnt_t", .dat (.int (cnt (l2.take j) x))) :: difB N l1 l2) τ) B.benumerate (hI _ _ rfl) (by simp) ?_ (fun j τ hI => ⟨_, hI.at, mid_len⟩) (fun j τ as d hI hl hd => ?_) fun τ hI => ?_
        · rw [mid_start (by simp), List.take_zero, cnt_none (l := []) (by simp)]
          exact hI.sub ⟨rfl, rfl, rfl, rfl, rfl, rfl, rfl, rfl, rfl, trivial⟩
        · have has := hl.symm.trans (hI.at (x := "t"))
          cases has
          rw [mid_here, Option.map_eq_some_iff] at hd
          obtain ⟨y, hy, rfl⟩ := hd
          have hym := List.mem_of_getElem? hy
          obtain ⟨ys, hyt⟩ := ht y (List.mem_append_right _ hym)
          have hj := getlt hy
          have K3 := (hI.set "j" (.dat (.int j))).set "other_elem" (.dat (mask N (l1.take i) y))
          generalize (τ.set "j" (.dat (.int j))).set "other_elem" (.dat (mask N (l1.take i) y)) = τ3 at K3
          refine zif (tcmp (vr (K3 _ _ rfl)) (vr (K3 _ _ rfl)) (ceqm hyt hxt (hs y (List.mem_append_right _ hym) x (List.mem_append_left _ hxm)) hout)) (fun h => ?_) fun h => ?_
          · have e : y = x := by simpa using h
            subst e
            refine zaug (K3 _ _ rfl) vint ?_
            have K4 := K3.set "cnt_t" (.dat (.int (cnt (l2.take j) y + 1)))
            generalize τ3.set "cnt_t" (.dat (.int (cnt (l2.take j) y + 1))) = τ4 at K4
            refine zlset (n := (j : Int)) (K4 _ _ rfl) (vr (K4 _ _ rfl)) (vr (K4 _ _ rfl)) (by omega) (by rw [mid_len]; omega) (by rw [mid_len]; omega) ?_
            rw [Int.toNat_natCast, mid_hit hy]
            refine znil (znil ?_)
            show Hs _ _
            rw [cnt_take_succ hy, cast_add1 _ _ rfl]
            exact (K4.set "t" _).sub ⟨rfl, rfl, rfl, rfl, rfl, rfl, rfl, rfl, rfl, trivial⟩
          · have e : y ≠ x := by simpa using h
            refine znil ?_
            show Hs _ _
            rw [cnt_take_succ hy, cast_add0 _ _ e, ← mid_miss hy e]
            exact K3.sub ⟨rfl, rfl, rfl, rfl, rfl, rfl, rfl, rfl, rfl, trivial⟩
        · rw [mid_end (Nat.le_refl _), List.take_length, mask_congr (fun y => take_mem_succ hx)] at hI
          have hdl := dif1_len l1 l2 i
          refine zif (tcmp (vr (hI _ _ rfl)) (vr (hI _ _ rfl)) cne) (fun h => ?_) fun h => ?_
          · have hne : ¬ (cnt l1 x : Int) = cnt l2 x := by simpa using h
            refine zset (vmis Y (sc (vr (hI _ _ rfl)) (sc (vr (hI _ _ rfl)) (s1 (vr (hI _ _ rfl)))))) ?_
            have K4 := hI.set "diff" (.dat (.mis [.int (cnt l1 x), .int (cnt l2 x), x]))
            generalize τ.set "diff" (.dat (.mis [.int (cnt l1 x), .int (cnt l2 x), x])) = τ4 at K4
            refine zapp (K4 _ _ rfl) (vr (K4 _ _ rfl)) (by omega) (znil (znil ?_))
            show Hs _ _
            have ed : dif1 l1 l2 (i + 1) = dif1 l1 l2 i ++ [.mis [.int (cnt l1 x), .int (cnt l2 x), x]] := by
              rw [dif1_succ]; unfold dr1; rw [hx]; dsimp only; rw [if_neg hout, if_neg hne]
            rw [ed]
            exact (K4.set "result" _).sub ⟨rfl, rfl, rfl, rfl, rfl, rfl, trivial⟩
          · have he : (cnt l1 x : Int) = cnt l2 x := by simpa using h
            refine znil ?_
            show Hs _ _
            have ed : dif1 l1 l2 (i + 1) = dif1 l1 l2 i := by
              rw [dif1_succ]; unfold dr1; rw [hx]; dsimp only; rw [if_neg hout, if_pos he, List.append_nil]
            rw [ed]
            exact hI.sub ⟨rfl, rfl, rfl, rfl, rfl, rfl, trivial⟩
  · have hd1 := dif1_len l1 l2 l1.length
    refine zfenum (a := b) (as0 := l2.map (mask N (l1.take l1.length))) (n := l2.length) (fun i τ => Hs (("t", .own b (l2.map (mask N (l1 ++ l2.take i)))) :: ("result", .own c (dif1 l1 l2 l1.length ++ dif2 l1 l2 i)) :: difB N l1 l2) τ) B.benumerate (hI _ _ rfl) (by simp) ?_ (fun j τ hI => ⟨_, hI.at, by simp⟩) (fun i τ as d hI hl hd => ?_) fun τ hI => ?_
    · rw [List.take_length] at hI
      rw [List.take_zero, List.append_nil]
      have e0 : dif1 l1 l2 l1.length ++ dif2 l1 l2 0 = dif1 l1 l2 l1.length := by simp [dif2]
      rw [e0]
      exact hI.sub ⟨rfl, rfl, rfl, rfl, rfl, trivial⟩
    · have has := hl.symm.trans (hI.at (x := "t"))
      cases has
      rw [List.getElem?_map, Option.map_eq_some_iff] at hd
      obtain ⟨x, hx, rfl⟩ := hd
      have hxm := List.mem_of_getElem? hx
      obtain ⟨xs, hxt⟩ := ht x (List.mem_append_right _ hxm)
      have hi := getlt hx
      have K := (hI.set "i" (.dat (.int i))).set "elem" (.dat (mask N (l1 ++ l2.take i) x))
      generalize (τ.set "i" (.dat (.int i))).set "elem" (.dat (mask N (l1 ++ l2.take i) x)) = τ1 at K
      have hd2 := dif2_len l1 l2 i
      have hmem : ∀ y, y ∈ x :: (l1 ++ l2.take i) ↔ y ∈ l1 ++ l2.take (i + 1) := fun y => by
        rw [List.mem_cons, List.mem_append, List.mem_append, ← take_mem_succ hx, List.mem_cons]
        exact ⟨fun z => z.elim (fun e => .inr (.inl e)) fun z => z.elim .inl fun z => .inr (.inr z), fun z => z.elim (fun z => .inr (.inl z)) fun z => z.elim .inl fun z => .inr (.inr z)⟩
      refine zif (tcmp (vr (K _ _ rfl)) (vr (K _ _ rfl)) (cism hxt)) (fun h => zcont ?_) fun h => ?_
      · have hin : x ∈ l1 ++ l2.take i := by simpa using h
        have em : mask N (l1 ++ l2.take (i + 1)) = mask N (l1 ++ l2.take i) := mask_congr fun y => by
          rw [← hmem, List.mem_cons]
          exact ⟨fun z => z.elim (fun e => e ▸ hin) id, .inr⟩
        have ed : dif2 l1 l2 (i + 1) = dif2 l1 l2 i := by rw [dif2_succ]; unfold dr2; rw [hx]; dsimp only; rw [if_pos hin, List.append_nil]
        show Hs _ _
        rw [em, ed]
        exact K.sub ⟨rfl, rfl, rfl, rfl, rfl, trivial⟩
      · have hout : x ∉ l1 ++ l2.take i := by simpa using h
        rw [mask_out hout] at K
        refine zset (d := .int 0) vint ?_
        have K2 := K.set "cnt_t" (.dat (.int 0))
        generalize τ1.set "cnt_t" (.dat (.int 0)) = τ2 at K2
        have hout2 : x ∉ l2.take i := fun z => hout (List.mem_append_right _ z)
        refine zfor (fun jj τ => Hs (("t", .own b (mid N (l1 ++ l2.take i) x (i + jj) l2)) :: ("result", .own c (dif1 l1 l2 l1.length ++ dif2 l1 l2 i)) :: ("elem", .dat x) :: ("cnt_t", .dat (.int (cnt (l2.take (i + jj)) x))) :: difB N l1 l2) τ) (irange2 (M := i) (N := l2.length) B.brange.bn (vr (K2 _ _ rfl)) (vr (K2 _ _ rfl)) (by omega) (by omega) (by omega) (by omega)) ?_ (fun jj τ d hI hd => ?_) fun τ hI => ?_
        · rw [Nat.add_zero, mid_start (fun y hy => List.mem_append_right _ hy), cnt_none hout2]
          exact K2.sub ⟨rfl, rfl, rfl, rfl, rfl, rfl, rfl, trivial⟩
        · obtain ⟨hj, rfl⟩ := rangeD_get hd
          have hjl : i + jj < l2.length := by omega
          refine ⟨_, tname, ?_⟩
          have K3 := hI.set "j" (.dat (.int ((i : Int) + jj)))
          generalize τ.set "j" (.dat (.int ((i : Int) + jj))) = τ3 at K3
          obtain ⟨y, hy⟩ : ∃ y, l2[i + jj]? = some y := ⟨_, List.getElem?_eq_getElem hjl⟩
          have hym := List.mem_of_getElem? hy
          obtain ⟨ys, hyt⟩ := ht y (List.mem_append_right _ hym)
          have hn : ((i : Int) + jj).toNat = i + jj := by omega
          refine zif (tcmp (vitem (n := (i : Int) + jj) (eown (K3 _ _ rfl)) (vr (K3 _ _ rfl)) (by omega) (by rw [hn, mid_here, hy]; rfl) (by rw [mid_len]; omega)) (vr (K3 _ _ rfl)) (ceqm hyt hxt (hs y (List.mem_append_right _ hym) x (List.mem_append_right _ hxm)) hout)) (fun h => ?_) fun h => ?_
          · have e : y = x := by simpa using h
            subst e
            refine zaug (K3 _ _ rfl) vint ?_
            have K4 := K3.set "cnt_t" (.dat (.int (cnt (l2.take (i + jj)) y + 1)))
            generalize τ3.set "cnt_t" (.dat (.int (cnt (l2.take (i + jj)) y + 1))) = τ4 at K4
            refine zlset (n := (i : Int) + jj) (K4 _ _ rfl) (vr (K4 _ _ rfl)) (vr (K4 _ _ rfl)) (by omega) (by rw [mid_len]; omega) (by rw [mid_len]; omega) ?_
            rw [hn, mid_hit hy]
            refine znil (znil ?_)
            show Hs _ _
            rw [← Nat.add_assoc, cnt_take_succ hy, cast_add1 _ _ rfl]
            exact (K4.set "t" _).sub ⟨rfl, rfl, rfl, rfl, rfl, rfl, rfl, trivial⟩
          · have e : y ≠ x := by simpa using h
            refine znil ?_
            show Hs _ _
            rw [← Nat.add_assoc, cnt_take_succ hy, cast_add0 _ _ e, ← mid_miss hy e]
            exact K3.sub ⟨rfl, rfl, rfl, rfl, rfl, rfl, rfl, trivial⟩
        · rw [rangeD_len] at hI
          have hm : i + ((l2.length : Int) - i).toNat = l2.length := by omega
          rw [hm, mid_end (Nat.le_refl _), List.take_length, mask_congr hmem] at hI
          refine zset (vmis Y (sc vint (sc (vr (hI _ _ rfl)) (s1 (vr (hI _ _ rfl)))))) ?_
          have K4 := hI.set "diff" (.dat (.mis [.int 0, .int (cnt l2 x), x]))
          generalize τ.set "diff" (.dat (.mis [.int 0, .int (cnt l2 x), x])) = τ4 at K4
          refine zapp (K4 _ _ rfl) (vr (K4 _ _ rfl)) (by rw [List.length_append]; omega) (znil ?_)
          show Hs _ _
          have ed : dif2 l1 l2 (i + 1) = dif2 l1 l2 i ++ [.mis [.int 0, .int (cnt l2 x), x]] := by
            rw [dif2_succ]; unfold dr2; rw [hx]; dsimp only; rw [if_neg hout]
          rw [ed, ← List.append_assoc]
          exact (K4.set "result" _).sub ⟨rfl, rfl, rfl, rfl, rfl, trivial⟩
    · exact zfreeze (hI _ _ rfl) (zret (vr lookup_set_self) rfl)
theorem fv_diff (X : Defs C) (Y : MisOK C) (l1 l2 : List D) (ht : ∀ d ∈ l1 ++ l2, ∃ ds, d = .tup ds) (hs : ∀ a ∈ l1 ++ l2, ∀ b ∈ l1 ++ l2, sim 5 a b = true) (h1 : l1.length ≤ 100) (h2 : l2.length ≤ 100) :
    Fv C (k + 4) (.ref X.diff.fa) [.lst l1, .lst l2] (.lst (difN l1 l2)) :=
  fv_at (W := []) X.diff rfl (fun _ _ => z_diff X.B Y l1 l2 ht hs h1 h2) nofun
end Mine
namespace Mine
open PySem PySem.W PyProof.Rows PySem.Calls PySem.Spec Builtin Builtin.ObjectAttr Builtin.Getset_descriptor
variable {C : Cfg} {k : Nat} {ec : EC} {σ : Sto} {W W' : List Str}

section
variable {prog : Program} {w : World} {A : Around} {E : Value → Shared → Prop} {h : Heap} {g : Array GenState} {d : Drawn} {t : Nat} {os : OsState}
theorem issub_nested {K : Frag} {MM : Addr} {kv : Value} {dep : Int} {tk : Tok} {Q : Fin → Shared → Prop} (X : K.In h) (hm : misIn K MM = true) (hk : kv = .int dep tk) (hq : Q (.done (.ret (.bool true))) ⟨h, g, d, t, os⟩) :
    wpAny (model prog w) A (Builtin.«issubclass.nested» ⟨[.ref MM, .type "tuple", kv], []⟩) Q E ⟨h, g, d, t, os⟩ := by
  subst hk
  obtain ⟨⟨oc, od, cd, sl, hC, e1, e2, e4, e5⟩, made, base, self, tup, top, call, typ, init, isT⟩ := mis_of (M := model prog w) X hm
  have ht : typeOf (.type "tuple") = pure (.type "type") := by first | rfl | kernel_rfl
  have L0 : Looks (model prog w) h (typeOf (.type "tuple")) (.type "type") := Looks.of_pure ht
  have L1 : Looks (model prog w) h (isType (.type "tuple")) true := Looks.of_pure (by first | rfl | kernel_rfl)
  unfold Builtin.«issubclass.nested»
  dsimp only
  rw [ht]
  refine wpAny_bind (wpAny_pure ?_)
  rw [if_pos (by decide)]
  repeat lk
  exact hq
theorem call_issub {K : Frag} {MM : Addr} {Q : Value → Shared → Prop} (X : K.In h) (hm : misIn K MM = true) (hq : Q (.bool true) ⟨h, g, d, t, os⟩) :
    wpAny (model prog w) A (PySem.call (.builtin "issubclass") [.ref MM, .type "tuple"]) Q E ⟨h, g, d, t, os⟩ := by
  refine call_issubclass (S := fun _ R s => K.In s.heap ∧ R (.ok (.ret (.bool true))) s) (fun _ _ _ _ s hs => ?_) ⟨X, hq⟩
  obtain ⟨hh, gg, dd, tt, oo⟩ := s
  exact issubclass_outer (issub_nested hs.1 hm rfl hs.2)
theorem tgi_body {MM a dx : Addr} {vs : List Value} {i : Int} {u : Tok} {j : Nat} {v : Value} {n : Nat} {Q : Fin → Shared → Prop} (ha : h.get? a = some { cls := .ref MM, dict := some dx, data := .seq vs.toArray n }) (h0 : 0 ≤ i) (h1 : i < 2 ^ 40) (hv : vs[i.toNat]? = some v)
    (hq : Q (.done (.ret v)) ⟨h, g, d, t, os⟩) : wpAny (model prog w) A (Builtin.«tuple.__getitem__» ⟨[.ref a, .int i u], []⟩) Q E ⟨h, g, d, t, os⟩ := by
  have f1 := AutoSeq1.idx_int
  have hf : ¬ (decide (i < -2 ^ 63) || decide (i ≥ 2 ^ 63)) = true := by simp; omega
  have hk : seqIndex? i vs.toArray.size = some i.toNat := by
    unfold seqIndex?
    have hl := getlt hv
    simp only [if_neg (show ¬ i < 0 by omega), List.size_toArray]
    rw [if_pos (by simp; omega)]
  unfold Builtin.«tuple.__getitem__»
  repeat (first | simp only [hk, Option.bind_some] | lk)
  rw [if_neg hf, show vs.toArray[i.toNat]? = some v by simpa using hv]
  exact wpAny_pure hq
theorem call_tgi {K : Frag} {MM a dx : Addr} {vs : List Value} {i : Int} {u : Tok} {v : Value} {n : Nat} {Q : Value → Shared → Prop} (X : K.In h) (hm : misIn K MM = true) (ha : h.get? a = some { cls := .ref MM, dict := some dx, data := .seq vs.toArray n }) (h0 : 0 ≤ i) (h1 : i < 2 ^ 40) (hv : vs[i.toNat]? = some v)
    (hq : Q v ⟨h, g, d, t, os⟩) : wpAny (model prog w) A (PySem.call (.builtin "tuple.__getitem__") [.ref a, .int i u]) Q E ⟨h, g, d, t, os⟩ := by
  have Y := mis_of (M := model prog w) X hm
  have t1 : Looks (model prog w) h (typeOf (.ref a)) (.ref MM) := (Looks.ld ha).andThen .now
  have t2 : Looks (model prog w) h (isInstance (.ref a) (.type "tuple")) true := t1.andThen Y.tup
  refine wpAny_call (codeAny_call_builtin PyProof.Rows.slot_tuple_getitem.plain PyProof.Rows.entry_tuple_getitem (@check_slot (model prog w) _ _ _ "tuple.__getitem__" "tuple" "__getitem__" (.ref a) [.int i u] [] _ (by decide +kernel) (by decide +kernel) t2 (PyProof.Rows.args_tuple_getitem _ _) ?_))
  exact tgi_body (j := 0) ha h0 h1 hv hq
theorem find_tgi (K : Frag) : findCls K (.type "tuple") (.type "type") "__getitem__" = some (.val (.builtin "tuple.__getitem__")) := by rfl
theorem getm_tgi {s : Shared} {K : Frag} {pl : Sem Bool} {Q : Value × List Value → Shared → Prop} (X : K.In s.heap) (h : Q (.builtin "tuple.__getitem__", []) { s with toks := s.toks + 1 }) :
    wpAny (model prog w) A (getMethod (.type "tuple") "__getitem__" pl) Q E s := by
  have hstub : opaqueClassAbove (.type "tuple") = pure none := by unfold opaqueClassAbove; dsimp only; rw [show Manifest.isStub "tuple" = false by decide +kernel]; rfl
  have ht : typeOf (.type "tuple") = pure (.type "type") := by first | rfl | kernel_rfl
  have L0 : Looks (model prog w) s.heap (typeOf (.type "tuple")) (.type "type") := Looks.of_pure ht
  have hg : findIn K (.type "type") "__getattribute__" = some (some (.builtin "type.__getattribute__")) := type_tga
  unfold getMethod specialOf
  refine wpAny_bind (wpAny_bind (L0.here ((looks_findIn X hg).here ?_)))
  dsimp only
  rw [if_pos canon_tga]
  refine wpAny_bind (wpAny_mono (Q := fun v => Q (v, [])) (E := E) ?_ (fun _ _ z => wpAny_pure z) fun _ _ z => z)
  have LO : Looks (model prog w) s.heap (opaqueClassAbove (.type "tuple")) none := Looks.of_pure hstub
  refine cls_open X LO L0 hg (looks_hook X (r := none) (by rfl)) (by show subIn K _ _ = _; rfl) (find_tgi K) ?_
  exact wpAny_pure (handed_on rfl h)
theorem is_none_ref {s : Shared} {a : Addr} {Q : Value → Shared → Prop} (h : Q (.bool false) s) : wpAny (model prog w) A (compareOp .Is (.ref a) .none) Q E s := by
  show wpAny _ _ (isSame (.ref a) .none >>= fun b => pure (.bool b)) Q E s
  refine wpAny_bind ?_
  exact wpAny_pure (a := false) (wpAny_pure h)
end
end Mine
namespace Mine
open PySem PySem.W PyProof.Rows PySem.Calls PySem.Spec
variable {C : Cfg} {k : Nat} {ec : EC} {σ : Sto} {W W' : List Str}

theorem vnone {n : Nat} {pos : Pos} : V C k ec σ (.Constant .none n pos) (.raw .none) := by
  refine ⟨fun A W env h₀ ex s Q E hr he S hQ => ?_⟩
  exact wpAny_Constant_none (hQ _ _ (.refl _) (by simp only [Rep]))
theorem cmisnone {ds : List D} : Cc C k .Is (.mis ds) (.raw .none) false := by
  refine ⟨fun A ex s v u Q E p r1 r2 hQ => ?_⟩
  simp only [Rep] at r1 r2
  obtain ⟨a, dx, vs, n, rfl, _⟩ := r1
  subst r2
  exact is_none_ref (hQ _ (.refl _))
theorem vtype {e : Expr} {ds : List D} {p pos : Pos} (b : B1 C "type" (.type "type")) (h : V C k ec σ e (.mis ds)) (hk : ec.kind "type" = some .globalImplicit := by rfl) (hse : ∀ env, backTo pos (starEach [e] env) = [(false, eval e env)] := by intro _; rfl) :
    V C k ec σ (.Call (.Name "type" p) [e] [] pos) (.raw (.ref C.MM)) := by
  refine ⟨fun A W env h₀ ex s Q E hr he S hQ => ?_⟩
  refine call_b1 (id := "type") (.inr rfl) (b.bn hk) hse hr he S fun s1 g1 => ?_
  refine h.run _ _ _ _ _ _ _ _ hr he (S.go g1) fun v s2 g2 r => ?_
  simp only [Rep] at r
  obtain ⟨a, dx, vs, n, rfl, _, _, ha, _⟩ := r
  obtain ⟨hh, g, d, t, os⟩ := s2
  exact call_type_obj ha rfl (hQ _ _ (g1.trans g2) (by simp only [Rep]))
theorem vissub {e e' : Expr} {p pos : Pos} (b : B1 C "issubclass" (.builtin "issubclass")) (hm : misIn C.K C.MM = true) (h : V C k ec σ e (.raw (.ref C.MM))) (h' : V C k ec σ e' (.raw (.type "tuple"))) (hk : ec.kind "issubclass" = some .globalImplicit := by rfl) (hse : ∀ env, backTo pos (starEach [e, e'] env) = [(false, eval e env), (false, eval e' env)] := by intro _; rfl) :
    V C k ec σ (.Call (.Name "issubclass" p) [e, e'] [] pos) (.bool true) := by
  refine ⟨fun A W env h₀ ex s Q E hr he S hQ => ?_⟩
  refine call_b2 (id := "issubclass") (.inl rfl) (b.bn hk) hse hr he S fun s1 g1 => ?_
  refine h.run _ _ _ _ _ _ _ _ hr he (S.go g1) fun v s2 g2 r2 => ?_
  refine h'.run _ _ _ _ _ _ _ _ hr he ((S.go g1).go g2) fun u s3 g3 r3 => ?_
  simp only [Rep] at r2 r3
  subst r2 r3
  have S3 := ((S.go g1).go g2).go g3
  obtain ⟨hh, g, d, t, os⟩ := s3
  exact call_issub S3.g.kin hm (hQ _ _ ((g1.trans g2).trans g3) rep_bool)

/-- the readers of a row's fields -/
structure GetOK (C : Cfg) where
  F : FnAt C get_body get_scope ["self", "obj", "objtype"]
  TG : Addr
  mis : misIn C.K C.MM = true
  btype : B1 C "type" (.type "type")
  bissub : B1 C "issubclass" (.builtin "issubclass")
  btuple : B1 C "tuple" (.type "tuple")
  plainG : plainGet C.K TG "index" = true
  gaM : findIn C.K (.ref C.MM) "__getattribute__" = some (some (.builtin "tuple.__getattribute__"))
  gtM : findIn C.K (.ref C.MM) "__getattr__" = some none
/-- a reader and its place -/
structure DescrOK (C : Cfg) (X : GetOK C) (name : Str) (da : Addr) (i : Int) where
  ox : Obj
  od : Obj
  dxa : Addr
  at_ : C.K.lookup da = some ox
  cls : ox.cls = .ref X.TG
  no : notCls ox = true
  dict : ox.dict = some dxa
  atd : C.K.lookup dxa = some od
  tk : Tok
  idx : findObj C.K X.TG (some od) "index" = some (.value (.int i tk))
  get : findObj C.K C.MM (some emptyDict) name = some (.bind (.ref X.F.fa) (.ref da))

abbrev cIndex : Str := Str.ofString "index"
abbrev cGetitem : Str := Str.ofString "__getitem__"
theorem vindex {x : Str} {xp pos : Pos} {name : Str} {da : Addr} {i : Int} (X : GetOK C) (Y : DescrOK C X name da i) (hx : σ.lookup x = some (.dat (.raw (.ref da))) := by rfl) (h1 : (x == ("__debug__" : Str)) = false := by rfl) (h2 : (x == ("__classdict__" : Str)) = false := by rfl)
    (he2 : ∀ env, eval (.Attribute (.Name x xp) cIndex pos) env = (do
      let o ← eval (.Name x xp) env
      standAt pos.atName
      let r ← holding [o] (getAttr o cIndex true)
      letTemporaryGo (.Name x xp) o r
      pure r) := by intro _; with_unfolding_all rfl) : V C k ec σ (.Attribute (.Name x xp) cIndex pos) (.int i) := by
  refine ⟨fun A W env h₀ ex s Q E hr he S hQ => ?_⟩
  refine Attribute_Name_ (ev_var hx h1 h2 _ _ _ _ _ _ _ _ hr he S fun v s1 g1 r1 => ?_) (he2 env)
  simp only [Rep] at r1
  subst r1
  have S1 := S.go g1
  have I : InstAt s1.heap da Y.ox X.TG (some Y.od) := ⟨S1.g.kin _ _ Y.at_, Y.cls, Y.no, by rw [Y.dict]; exact S1.g.kin _ _ Y.atd⟩
  exact get_value S1.g.kin I (plainGet_of X.plainG).1 Y.idx rfl (hQ _ _ (g1.trans (.keep fun _ _ e => e)) (by simp only [Rep]; exact ⟨_, rfl⟩))
theorem vtgi {xp apos pos : Pos} {e f : Expr} {ds : List D} {i : Int} {d : D} (B : B1 C "tuple" (.type "tuple")) (hm : misIn C.K C.MM = true) (ha : Vs C (k + 1) ec σ [e, f] [.mis ds, .int i]) (h0 : 0 ≤ i) (h1 : i < 2 ^ 40) (hd : ds[i.toNat]? = some d) (hk : ec.kind "tuple" = some .globalImplicit := by rfl)
    (hse : ∀ env, ∃ x rest, backTo pos (starEach [e, f] env) = (false, x) :: rest ∧ ((false, x) :: rest).any (·.1) = false := by intro _; exact ⟨_, _, rfl, rfl⟩)
    (he2 : ∀ env, ∃ pl, eval (.Call (.Attribute (.Name "tuple" xp) cGetitem apos) [e, f] [] pos) env = (do
      let ov ← eval (.Name "tuple" xp) env
      standAt apos.atName
      let (f', first) ← holding [ov] (getMethod ov cGetitem pl)
      callWith pos f' first (backTo pos (starEach [e, f] env)) []) := by intro _; exact ⟨_, rfl⟩) : V C (k + 1) ec σ (.Call (.Attribute (.Name "tuple" xp) cGetitem apos) [e, f] [] pos) d := by
  refine ⟨fun A W env h₀ ex s Q E hr he S hQ => ?_⟩
  obtain ⟨pl, he2⟩ := he2 env
  refine MethodCall_ (pl := pl) (ev_built hk B.mg B.mb rfl _ _ _ _ _ _ _ _ hr he S fun v s1 g1 r1 => ?_) he2
  simp only [Rep] at r1
  subst r1
  have S1 := S.go g1
  refine getm_tgi S1.g.kin ?_
  have S1' : Sta C ec W env h₀ ex σ ({ s1 with toks := s1.toks + 1 } : Shared).heap := S1
  have hsp := ha.run A W env h₀ ex { s1 with toks := s1.toks + 1 } pos (fun vs s2 => C.K.In s2.heap ∧ wpAny (model C.prog C.w) A (call (.builtin "tuple.__getitem__") vs) Q E s2) E hr he S1' fun vs s2 g2 r2 => ?_
  · obtain ⟨y, rest, e1, e2⟩ := hse env
    rw [e1] at hsp ⊢
    refine callWith_of (P := C.K.In) (by rw [e2]; rfl) (fun _ _ => ⟨Keeper.machine, .inr (.inl rfl), Looks.of_pure rfl⟩) (evalArgs_plain (wpAny_mono hsp (fun vs s2 h2 => h2) fun _ _ e => e))
  · have S2 := S1'.go g2
    refine ⟨S2.g.kin, ?_⟩
    simp only [RepL] at r2
    obtain ⟨v1, r1', rfl, h1', v2, r2', rfl, h2', rfl⟩ := r2
    simp only [Rep] at h1' h2'
    obtain ⟨a, dx, vs, n, rfl, _, _, hat, _, hrl⟩ := h1'
    obtain ⟨u, rfl⟩ := h2'
    obtain ⟨w, hw, rw'⟩ := hrl.get _ _ hd
    obtain ⟨hh, g, dd, t, os⟩ := s2
    have g12 : Go C s1 { s1 with toks := s1.toks + 1 } := .keep fun _ _ e => e
    exact call_tgi S2.g.kin hm hat h0 h1 hw (hQ _ _ ((g1.trans g12).trans g2) rw')

theorem fv_get (X : GetOK C) {name : Str} {da : Addr} {i : Int} (Y : DescrOK C X name da i) (ds : List D) {d : D} (h0 : 0 ≤ i) (h1 : i < 2 ^ 40) (hd : ds[i.toNat]? = some d) : Fv C (k + 2) (.ref X.F.fa) [.raw (.ref da), .mis ds, .raw (.ref C.MM)] d :=
  fv_fn (W := []) X.F rfl (fun code qual => zif (tcmp vr vnone cmisnone) nofun fun _ => zif (tnot (tv (vissub X.bissub X.mis (vtype X.btype vr) (vbn (X.btuple.bn)) ))) nofun fun _ => zret (vtgi X.btuple X.mis (sc vr (s1 (vindex X Y))) h0 h1 hd) rfl) (fun x hx => nomatch hx)
end Mine
namespace Mine
open PySem PySem.W PyProof.Rows PySem.Calls PySem.Spec
variable {C : Cfg} {k : Nat} {ec : EC} {σ : Sto} {W W' : List Str}

def handD : D → Bool
  | .raw _ => false
  | _ => true
theorem hand_of {h : Heap} {ex : List Addr} {d : D} {v : Value} (r : Rep C h ex d v) (hd : handD d = true) : handedIn v = true := by
  cases d <;> simp only [Rep] at r
  case raw => cases hd
  case int => obtain ⟨t, rfl⟩ := r; rfl
  case bool => subst r; rfl
  case str => obtain ⟨t, rfl⟩ := r; rfl
  case tup => obtain ⟨a, vs, n, rfl, _⟩ := r; rfl
  case lst => obtain ⟨a, vs, n, rfl, _⟩ := r; rfl
  case d0 => obtain ⟨a, rfl, _⟩ := r; rfl
  case d2 => obtain ⟨a, x, y, rfl, _⟩ := r; rfl
  case obj => obtain ⟨rfl, _⟩ := r; rfl
  case mis => obtain ⟨a, dx, vs, n, rfl, _⟩ := r; rfl
  case cmp => obtain ⟨a, dx, vs, n, x, rfl, _⟩ := r; rfl

section
open Builtin Builtin.ObjectAttr
variable {prog : Program} {w : World} {A : Around} {E : Value → Shared → Prop} {s : Shared}
theorem mis_getattr {K : Frag} {x MM : Addr} {ox : Obj} {od : Option Obj} {name : Str} {g a : Value} {Q : Value → Shared → Prop} (X : K.In s.heap) (hm : misIn K MM = true) (I : InstAt s.heap x ox MM od)
    (hga : findIn K (.ref MM) "__getattribute__" = some (some (.builtin "tuple.__getattribute__"))) (hk : findIn K (.ref MM) "__getattr__" = some none) (hf : findObj K MM od name = some (.bind g a))
    (h : ∀ E' : Value → Shared → Prop, wpAny (model prog w) A.in1 (call g [a, .ref x, .ref MM]) (fun v s' => handedIn v = true ∧ Q v s') E' { s with toks := s.toks + 1 }) : wpAny (model prog w) A (getAttr (.ref x) name true) Q E s := by
  obtain ⟨hh, gg, d, t, os⟩ := s
  have Y := mis_of (M := model prog w) X hm
  have L0 := I.type (M := model prog w)
  have L1 := looks_findIn (M := model prog w) X hga
  have L2 := looks_findIn (M := model prog w) X hk
  have L3 := looks_find (M := model prog w) X I hf
  have L4 : Looks (model prog w) hh (isInstance (.ref x) (.type "tuple")) true := L0.andThen Y.tup
  unfold getAttr getAttrBy
  refine wpAny_bind (wpAny_mkText (wpAny_holding (wpAny_bind (L0.at (wpAny_bind (L1.at ?_))))))
  show wpAny _ _ (getAttrByItsOwn _ _ _ _ _ _) _ _ _
  unfold getAttrByItsOwn hookBefore
  refine wpAny_bind ?_
  show wpAny _ _ (typeLookup (.ref MM) "__getattr__") _ _ _
  refine L2.at (wpAny_bind (wpAny_attempt (wpAny_holding ?_)))
  show wpAny _ _ (boundAndCalled (.builtin "tuple.__getattribute__") (.ref x) (.str name t)) _ _ _
  unfold boundAndCalled
  rw [PySem.F.slot_tuple_getattribute.bind (.ref x)]
  refine wpAny_bind (wpAny_pure ?_)
  refine wpAny_call (codeAny_call_builtin PySem.F.slot_tuple_getattribute.plain PySem.F.entry_tuple_ga (@check_slot (model prog w) _ _ _ "tuple.__getattribute__" "tuple" "__getattribute__" (.ref x) [.str name t] [] _ (by decide +kernel) (by decide +kernel) L4 (PySem.F.args_tuple_getattribute_2 _ _) ?_))
  refine wpAny_bind (wpAny_pure (wpAny_bind (wpAny_pure (wpAny_bind (L0.at (wpAny_bind (L3.at ?_)))))))
  show wpAny _ _ (bindTo g a (.ref x) (.ref MM)) _ _ _
  show wpAny _ _ (holding [a] (call g [a, .ref x, .ref MM]) >>= ret) _ _ _
  refine wpAny_bind (wpAny_holding (wpAny_mono (h _) (fun v s' z => wpAny_pure ?_) fun _ _ z => z))
  show wpAny _ _ (handedOut v) _ _ _
  rw [handedOut_of z.1]
  exact wpAny_pure z.2
end

theorem vattr {x name : Str} {xp pos : Pos} {da : Addr} {i : Int} {ds : List D} {d : D} (X : GetOK C) (Y : DescrOK C X name da i) (hx : σ.lookup x = some (.dat (.mis ds))) (h0 : 0 ≤ i) (h1 : i < 2 ^ 40) (hd : ds[i.toNat]? = some d) (hh : handD d = true) (h1' : (x == ("__debug__" : Str)) = false := by rfl) (h2 : (x == ("__classdict__" : Str)) = false := by rfl)
    (he2 : ∀ env, eval (.Attribute (.Name x xp) name pos) env = (do
      let o ← eval (.Name x xp) env
      standAt pos.atName
      let r ← holding [o] (getAttr o name true)
      letTemporaryGo (.Name x xp) o r
      pure r) := by intro _; with_unfolding_all rfl) : V C (k + 3) ec σ (.Attribute (.Name x xp) name pos) d := by
  refine ⟨fun A W env h₀ ex s Q E hr he S hQ => ?_⟩
  refine Attribute_Name_ (ev_var hx h1' h2 _ _ _ _ _ _ _ _ hr he S fun v s1 g1 r1 => ?_) (he2 env)
  have r0 := r1
  simp only [Rep] at r1
  obtain ⟨a, dx, vs, n, rfl, _, _, ha, hdx, _⟩ := r1
  have S1 := S.go g1
  have I : InstAt s1.heap a { cls := .ref C.MM, dict := some dx, data := .seq vs.toArray n } C.MM (some emptyDict) := ⟨ha, rfl, rfl, hdx⟩
  have gt : Go C s1 { s1 with toks := s1.toks + 1 } := .keep fun _ _ e => e
  have P := (S1.pre hr).go gt
  refine mis_getattr S1.g.kin X.mis I X.gaM X.gtM Y.get fun E' => ?_
  refine (fv_get (k := k) X Y ds h0 h1 hd).run _ _ _ _ _ _ ⟨hr.in1, P.g, P.tab, P.alive⟩ S1.nodup ?_ fun r s3 g3 r3 => ?_
  · simp only [RepL]
    exact ⟨_, _, rfl, by simp only [Rep], _, _, rfl, r0, _, _, rfl, by simp only [Rep], rfl⟩
  · exact ⟨hand_of r3 hh, hQ _ _ ((g1.trans gt).trans g3) r3⟩
end Mine
namespace Mine
open PySem PySem.W PyProof.Rows PySem.Calls PySem.Spec
variable {C : Cfg} {k : Nat} {ec : EC} {σ : Sto} {W W' : List Str}

theorem wk_tup {A : Around} (hh : A.handled = none) {x : Str} {p : Pos} {I ax : Addr} {vs : List Value} {n : Nat} {ds : List D} (hne : ax ≠ I) (hl : ds.length = vs.length) :
    Wk C A (.Name x p) I [I, ax] [I] (fun i h => h.IsTupleIter I ax i ∧ h.get? ax = some (tupObj vs n)) ds vs ds where
  sub := fun b hb => by simp at hb; simp [hb]
  nodup := by simp
  frame := fun _ _ _ st hk => ⟨st.1.at fun o e => hk I (by simp) o e, hk ax (by simp) _ st.2⟩
  solid := fun i h st b hb => by
    simp only [List.mem_cons, List.not_mem_nil, or_false] at hb
    rcases hb with rfl | rfl
    · obtain ⟨o, ho, hc, hd⟩ := st.1
      exact ⟨o, ho, by rw [hc]; nofun, by rw [hd]; nofun⟩
    · exact ⟨_, st.2, nofun, nofun⟩
  item := fun i d s ex Q E hd st _ rl hex hQ => by
    obtain ⟨v, hv, rv⟩ := rl.get i d hd
    refine wpAny_pyNext_tuple_item st.1 (tup_at st.2) (x := v) (by simpa using hv) fun h' hit hs => ⟨v, rfl, ?_⟩
    have fin : Q v { s with heap := h' } := hQ v _ (fun b o hb e => (hs.2 b (by simpa using hb)).trans e) rfl rfl ⟨hit, (hs.2 ax hne).trans st.2⟩ (rep_same rv hs (hex I (.head _)))
    exact wpAny_pure fin
  done := fun s Q E st hQ => by
    refine wpAny_pyNext_tuple_end hh st.1 (tup_at st.2) (by simp [hl]) fun h' hs => ?_
    exact hQ _ (fun b o hb e => hs b o (by simpa using hb) e) rfl rfl

theorem isrc_tup {x : Str} {p : Pos} {iter : Expr} {ds : List D} (h : Ev C k ec σ iter (.tup ds)) : Isrc C k ec σ (.Name x p) iter ds false true := by
  intro A W env h₀ ex s Q E hr he S hQ
  refine h _ _ _ _ _ _ _ _ hr he S fun v s1 g1 r1 => ?_
  simp only [Rep] at r1
  obtain ⟨a, vs, n, rfl, hna, ha, r⟩ := r1
  have S1 := S.go g1
  refine wpAny_pyIter_tuple (tup_at ha) ?_
  have hlt : a < s1.heap.objs.size := Heap.lt_size ha
  refine hQ s1.heap.objs.size [s1.heap.objs.size, a] [s1.heap.objs.size] _ ds vs _ (g1.trans (.push _ rfl)) (wk_tup hr.handled (n := n) (Nat.ne_of_lt hlt) r.length.symm) ⟨⟨_, Heap.get?_push_size _ rfl, rfl, rfl⟩, Heap.get?_push_of_some _ ha⟩ (fun b hb => ?_) (fun _ b hb hnb => ?_) (fun b hb hnb => .inr rfl) ?_ (fun _ i t Q E st hq => wpAny_pyIter_tupleiter st.1 hq)
  · simp at hb; subst hb
    exact fresh_old S1.tab g1 (Nat.le_refl _)
  · simp at hb hnb
    rcases hb with rfl | rfl
    · exact absurd rfl hnb
    · exact hna
  · refine RepL.move (fun b o hb e _ => ⟨Heap.get?_push_of_some _ e, fun m => ?_⟩) ds vs r
    rcases List.mem_append.mp m with m | m
    · simp at m; subst m; exact absurd (Heap.lt_size e) (Nat.lt_irrefl _)
    · exact hb m
theorem itupn {x : Str} {p : Pos} {iter : Expr} {ds : List D} (h : V C k ec σ iter (.tup ds)) : Vi C k ec σ (.Name x p) iter ds false := ⟨isrc_tup h.run⟩
end Mine
namespace Mine
open PySem PySem.W PyProof.Rows PySem.Calls PySem.Spec
variable {C : Cfg} {k : Nat} {ec : EC} {σ : Sto} {W W' : List Str}

/-- the sign told by the columns is the sign told by the tool -/
theorem fdiv_abs_pos {x : Int} (h : 0 < x) : Int.fdiv x (absI x) = 1 := by
  unfold absI
  rw [if_neg (by omega), Int.fdiv_eq_ediv_of_nonneg _ (by omega)]
  exact Int.ediv_self (by omega)
theorem fdiv_abs_neg {x : Int} (h : x < 0) : Int.fdiv x (absI x) = -1 := by
  unfold absI
  rw [if_pos h, Int.fdiv_eq_ediv_of_nonneg _ (by omega), Int.ediv_neg, Int.ediv_self (by omega)]
theorem cmp_sign (a b : Int → Int) : ∀ ps : List (Int × Int), (∀ p ∈ ps, okWay p) → cmpV a b ps = signV a b ps
  | [], _ => rfl
  | p :: r, h => by
    have ih := cmp_sign a b r fun q hq => h q (.tail _ hq)
    have hp := h p (.head _)
    unfold cmpV
    by_cases e : a p.1 = b p.1
    · rw [if_neg (by omega), if_neg (by omega), ih]
      unfold signV partsV
      rw [List.filter_cons_of_neg (by simp [e])]
    · have hs : partsV a b (p :: r) = p.2 * (a p.1 - b p.1) :: partsV a b r := by
        unfold partsV
        rw [List.filter_cons_of_pos (by simp [e])]; rfl
      unfold signV
      rw [hs]
      dsimp only
      by_cases l : a p.1 < b p.1
      · rw [if_pos l]
        rcases hp with w | w
        · rw [w, Int.one_mul, fdiv_abs_neg (by omega)]
        · rw [w, fdiv_abs_pos (by omega)]; rfl
      · rw [if_neg l, if_pos (by omega)]
        rcases hp with w | w
        · rw [w, Int.one_mul, fdiv_abs_pos (by omega)]
        · rw [w, fdiv_abs_neg (by omega)]

/-- sums along a list -/
theorem V3.ext' {u v : V3} (h1 : u.x = v.x) (h2 : u.y = v.y) (h3 : u.z = v.z) : u = v := by
  cases u; cases v; cases h1; cases h2; cases h3; rfl
theorem sumI_foldl : ∀ (l : List Int) (a : Int), l.foldl (· + ·) a = a + sumI l
  | [], a => by simp [sumI]
  | x :: l, a => by
    show l.foldl (· + ·) (a + x) = a + l.foldl (· + ·) (0 + x)
    rw [sumI_foldl l (a + x), sumI_foldl l (0 + x)]; omega
theorem sumI_cons (x : Int) (l : List Int) : sumI (x :: l) = x + sumI l := by
  show l.foldl (· + ·) (0 + x) = _
  rw [sumI_foldl]; omega
def V3.zero : V3 := ⟨0, 0, 0⟩
theorem V3.sum_cons (v : V3) (l : List V3) : V3.sum (v :: l) = v.add (V3.sum l) := by
  refine V3.ext' ?_ ?_ ?_ <;> simp only [V3.sum, V3.add, List.map_cons, sumI_cons] <;> omega
theorem foldl_add : ∀ (l : List V3) (u : V3), l.foldl V3.add u = u.add (V3.sum l)
  | [], u => by refine V3.ext' ?_ ?_ ?_ <;> simp [V3.sum, V3.add, sumI]
  | v :: l, u => by
    rw [List.foldl_cons, foldl_add l, V3.sum_cons]
    refine V3.ext' ?_ ?_ ?_ <;> simp only [V3.add] <;> omega
theorem totV_sum : ∀ l : List V3, totV l = V3.sum l
  | [] => rfl
  | v :: l => by rw [totV, foldl_add, V3.sum_cons]
theorem along_at : ∀ (l : List V3) (u : V3) (j : Nat), j ≤ l.length → (alongV (some u) l)[j]? = some (some (u.add (V3.sum (l.take j))))
  | l, u, 0, _ => by
    have : u.add (V3.sum []) = u := by refine V3.ext' ?_ ?_ ?_ <;> simp [V3.sum, V3.add, sumI]
    cases l <;> simp [alongV, this]
  | [], u, j + 1, h => by simp at h
  | v :: l, u, j + 1, h => by
    rw [alongV, List.getElem?_cons_succ, along_at l _ j (by simpa using h), List.take_succ_cons, V3.sum_cons]
    congr 2
    refine V3.ext' ?_ ?_ ?_ <;> simp only [addO, V3.add] <;> omega
theorem along_at0 (l : List V3) (j : Nat) (h : j < l.length) : (alongV none l)[j + 1]? = some (some (V3.sum (l.take (j + 1)))) := by
  cases l with
  | nil => simp at h
  | cons v l =>
    rw [alongV, List.getElem?_cons_succ]
    show (alongV (some v) l)[j]? = _
    rw [along_at l v j (by simp at h; omega), List.take_succ_cons, V3.sum_cons]

/-- what may be compared -/
theorem sim_cal (w : Bool) (s t : Option V3) (n : Nat) : sim (n + 2) (calD w s) (calD w t) = true := by
  cases s <;> cases t <;> cases w <;> first | rfl | simp [calD, cal, sim, Am.d]
theorem sim_sum (w : Bool) (s t : Option V3) (n : Nat) : sim (n + 3) (sumD w s) (sumD w t) = true := by
  rw [sumD_eq, sumD_eq]
  unfold sim
  have := sim_cal w s t n
  simp [sim, this]
theorem cnes_same (w : Bool) (t : Option V3) : Cc C k .NotEq (sumD w t) (sumD w t) false := by
  have h := sim_sum w t t 0
  rw [sumD_eq] at h ⊢
  have := cnet (C := C) (k := k) (n := 2) h (by decide)
  simpa using this
end Mine
namespace Mine
open PySem PySem.W PyProof.Rows PySem.Calls PySem.Spec
variable {C : Cfg} {k : Nat} {ec : EC} {σ : Sto} {W W' : List Str}

def misT : D → D
  | .mis l => .tup l
  | d => d
theorem cnt_pos {l : List D} {d : D} (h : d ∈ l) : 0 < cnt l d := by
  classical
  unfold cnt
  rw [List.countP_pos_iff]
  exact ⟨d, h, by simp⟩
theorem mem_of_cnt {l : List D} {d : D} (h : 0 < cnt l d) : d ∈ l := by
  classical
  unfold cnt at h
  rw [List.countP_pos_iff] at h
  obtain ⟨x, hx, e⟩ := h
  rw [decide_eq_true_eq] at e
  exact e ▸ hx
theorem row_low (l1 l2 : List D) (i : Nat) (hi : i < l1.length) : (dr1 l1 l2 i).map misT = rowD l1 l2 i := by
  classical
  unfold dr1 rowD
  rw [List.getElem?_append_left hi, List.getElem?_eq_getElem hi, List.take_append_of_le_length (by omega)]
  dsimp only
  by_cases h1 : l1[i] ∈ l1.take i
  · rw [if_pos h1, if_neg (by simp [h1])]; rfl
  · rw [if_neg h1]
    by_cases h2 : (cnt l1 l1[i] : Int) = cnt l2 l1[i]
    · rw [if_pos h2, if_neg (by simp [h2])]; rfl
    · rw [if_neg h2, if_pos (by simp only [Bool.and_eq_true, Bool.not_eq_true', decide_eq_false_iff_not, bne_iff_ne]; exact ⟨h1, h2⟩)]; rfl
theorem row_high (l1 l2 : List D) (j : Nat) (hj : j < l2.length) : (dr2 l1 l2 j).map misT = rowD l1 l2 (l1.length + j) := by
  classical
  unfold dr2 rowD
  rw [List.getElem?_append_right (by omega), Nat.add_sub_cancel_left, List.getElem?_eq_getElem hj]
  have e : (l1 ++ l2).take (l1.length + j) = l1 ++ l2.take j := by
    rw [List.take_append, List.take_of_length_le (by omega), Nat.add_sub_cancel_left]
  rw [e]
  dsimp only
  by_cases h1 : l2[j] ∈ l1 ++ l2.take j
  · rw [if_pos h1, if_neg (by simp only [Bool.and_eq_true, Bool.not_eq_true', decide_eq_false_iff_not]; exact fun z => z.1 h1)]; rfl
  · have h2 : l2[j] ∉ l1 := fun z => h1 (List.mem_append_left _ z)
    have h3 : 0 < cnt l2 l2[j] := cnt_pos (List.getElem_mem hj)
    have h4 : cnt l1 l2[j] = 0 := cnt_none h2
    rw [if_neg h1, if_pos (by simp only [Bool.and_eq_true, Bool.not_eq_true', decide_eq_false_iff_not, bne_iff_ne, h4]; exact ⟨h1, by omega⟩), h4]; rfl
theorem flat_congr {α : Type} {f g : Nat → List α} : ∀ n, (∀ i, i < n → f i = g i) → (List.range n).flatMap f = (List.range n).flatMap g
  | 0, _ => rfl
  | n + 1, h => by
    simp only [List.range_succ, List.flatMap_append, List.flatMap_cons, List.flatMap_nil, List.append_nil]
    rw [flat_congr n (fun i hi => h i (by omega)), h n (by omega)]
theorem told_due (l1 l2 : List D) : (difN l1 l2).map misT = rowsN l1 l2 (l1 ++ l2).length := by
  unfold difN dif1 dif2 rowsN
  rw [List.map_append, List.map_flatMap, List.map_flatMap, List.length_append, List.range_add, List.flatMap_append, List.flatMap_map,
    flat_congr _ (fun i hi => row_low l1 l2 i hi), flat_congr _ (fun i hi => row_high l1 l2 i hi)]
theorem dif_none (l1 l2 : List D) (h : ∀ d, cnt l1 d = cnt l2 d) : difN l1 l2 = [] := by
  classical
  unfold difN dif1 dif2
  rw [flat_congr (g := fun _ => []) l1.length, flat_congr (g := fun _ => []) l2.length]
  · simp
  · intro i hi
    unfold dr2
    rw [List.getElem?_eq_getElem hi]
    dsimp only
    have h3 : 0 < cnt l2 l2[i] := cnt_pos (List.getElem_mem hi)
    rw [← h] at h3
    rw [if_pos (List.mem_append_left _ (mem_of_cnt h3))]
  · intro i hi
    unfold dr1
    rw [List.getElem?_eq_getElem hi]
    dsimp only
    rw [h]
    simp
theorem cnt_perm {l1 l2 : List D} (h : l1.Perm l2) (d : D) : cnt l1 d = cnt l2 d := by
  classical
  unfold cnt
  exact h.countP_eq _
theorem dif_rows (l1 l2 : List D) : ∀ d ∈ difN l1 l2, ∃ a b x, d = .mis [.int a, .int b, x] ∧ x ∈ l1 ++ l2 := by
  classical
  intro d hd
  unfold difN dif1 dif2 at hd
  rw [List.mem_append, List.mem_flatMap, List.mem_flatMap] at hd
  rcases hd with ⟨i, _, hd⟩ | ⟨i, _, hd⟩
  · unfold dr1 at hd
    split at hd
    · cases hd
    · rename_i x hx
      split at hd
      · cases hd
      · split at hd
        · cases hd
        · rw [List.mem_singleton] at hd
          exact ⟨_, _, _, hd, List.mem_append_left _ (List.mem_of_getElem? hx)⟩
  · unfold dr2 at hd
    split at hd
    · cases hd
    · rename_i x hx
      split at hd
      · cases hd
      · rw [List.mem_singleton] at hd
        exact ⟨_, _, _, hd, List.mem_append_right _ (List.mem_of_getElem? hx)⟩
end Mine
namespace Mine

/-- sets of places as numbers -/
def maskOf : List Int → Nat
  | [] => 0
  | i :: r => 2 ^ i.toNat ||| maskOf r
def ringsO (o : List Int) : List (List Int) := (ringsF o o.length).getD []
abbrev Plan := List (List Nat) × List Nat × List Nat
/-- what an order asks: the sets between two places, the sets up to a place, its rings -/
def entry (o : List Int) : Plan := ((List.range (o.length + 1)).map fun j => (List.range (j + 1)).map fun i => maskOf ((o.take j).drop i), (List.range (o.length + 1)).map fun t => maskOf (o.take t), (ringsO o).map maskOf)
noncomputable def nth (l : List Nat) : Nat → Nat := List.rec (fun _ => 0) (fun x _ ih i => Nat.rec x (fun k _ => ih k) i) l
noncomputable def bit (p m : Nat) : Bool := Nat.beq (Nat.land (Nat.shiftRight p m) 1) 1
/-- n is reckoned out before f sees it -/
noncomputable def force (n : Nat) (f : Nat → Bool) : Bool := Nat.rec (f 0) (fun k _ => f (Nat.succ k)) n
theorem force_eq (n : Nat) (f : Nat → Bool) : force n f = f n := by cases n <;> rfl
noncomputable def pick (b : Bool) (x y : Nat) : Nat := Bool.rec y x b
noncomputable def both (b : Bool) (x y : Bool) : Bool := Bool.rec y x b
noncomputable def goP (p : Nat) (l : List (List Nat)) : Nat → Nat → Nat := List.rec (fun _ i => i) (fun row _ ih j i => pick (bit p (nth row i)) (ih (Nat.succ j) j) (ih (Nat.succ j) i)) l
noncomputable def orP (p : Nat) (l : List Nat) : Nat := List.rec 0 (fun q _ ih => pick (bit p q) (Nat.lor q ih) ih) l
noncomputable def topP (p : Nat) (e : Plan) : Nat := nth e.2.1 (goP p e.1 0 0)
noncomputable def abvP (p : Nat) (e : Plan) : Nat := orP p e.2.2
noncomputable def mapF (f : Plan → Nat) (l : List Plan) : (List Nat → Bool) → Bool := List.rec (fun k => k []) (fun e _ ih k => force (f e) fun v => ih fun l => k (v :: l)) l
theorem mapF_eq (f : Plan → Nat) : ∀ (es : List Plan) (k : List Nat → Bool), mapF f es k = k (es.map f)
  | [], k => rfl
  | e :: es, k => by
    show force (f e) (fun v => mapF f es fun l => k (v :: l)) = _
    rw [force_eq, mapF_eq f es]; rfl
/-- the list without the first x; the rest goes to k -/
noncomputable def takeOut (x : Nat) (l : List Nat) : (List Nat → Bool) → Bool := List.rec (fun _ => false) (fun y l ih k => both (Nat.beq x y) (k l) (ih fun r => k (y :: r))) l
noncomputable def permB (l : List Nat) : List Nat → Bool := List.rec (fun m => List.rec true (fun _ _ _ => false) m) (fun x _ ih m => takeOut x m ih) l
theorem takeOut_of (x : Nat) : ∀ (m : List Nat) (k : List Nat → Bool), takeOut x m k = true → ∃ r, k r = true ∧ m.Perm (x :: r)
  | [], k, h => by cases h
  | y :: l, k, h => by
    have h : both (Nat.beq x y) (k l) (takeOut x l fun r => k (y :: r)) = true := h
    cases q : Nat.beq x y with
    | true =>
      rw [q] at h
      have e := Nat.eq_of_beq_eq_true q
      subst e
      exact ⟨l, h, List.Perm.refl _⟩
    | false =>
      rw [q] at h
      obtain ⟨r, hr, hp⟩ := takeOut_of x l _ h
      exact ⟨y :: r, hr, (hp.cons y).trans (List.Perm.swap x y r)⟩
theorem permB_of : ∀ l m : List Nat, permB l m = true → l.Perm m
  | [], [], _ => List.Perm.refl _
  | [], _ :: _, h => by cases h
  | x :: l, m, h => by
    obtain ⟨r, hr, hp⟩ := takeOut_of x m _ h
    exact ((permB_of l r hr).cons x).trans hp.symm
noncomputable def ok0 (p : Nat) (l : List (Nat × Nat)) : Bool := List.rec true (fun q _ ih => both (bit p q.1) (both (bit p q.2) false ih) ih) l
noncomputable def ok1 (p : Nat) (l : List (Nat × Nat)) : Bool := List.rec true (fun q _ ih => both (bit p q.1) ih (both (bit p q.2) ih false)) l
/-- all ways to say of each set whether its sum is above, each tried -/
noncomputable def good (es : List Plan) (lv : List (Nat × List (Nat × Nat))) : Nat → Bool :=
  List.rec (fun p => mapF (topP p) es fun l => mapF (abvP p) es fun m => permB l m)
    (fun q _ ih p => both (both (ok0 p q.2) (ih p) true) (both (ok1 p q.2) (force (Nat.lor p (Nat.pow 2 q.1)) ih) true) false) lv
theorem good_step {es : List Plan} {m : Nat} {prs : List (Nat × Nat)} {lv : List (Nat × List (Nat × Nat))} {p : Nat} (h0 : ok0 p prs = true → good es lv p = true) (h1 : ok1 p prs = true → good es lv (Nat.lor p (Nat.pow 2 m)) = true) : good es ((m, prs) :: lv) p = true := by
  show both (both (ok0 p prs) (good es lv p) true) (both (ok1 p prs) (force (Nat.lor p (Nat.pow 2 m)) (good es lv)) true) false = true
  rw [force_eq]
  cases q0 : ok0 p prs <;> cases q1 : ok1 p prs
  · rfl
  · rw [h1 q1]; rfl
  · rw [h0 q0]; rfl
  · rw [h0 q0, h1 q1]; rfl
/-- the sets in order, each with its splits -/
def lvB (m : Nat) : List (Nat × List (Nat × Nat)) → Bool
  | [] => true
  | (m', prs) :: lv => Nat.beq m' m && (prs.all fun q => Nat.blt q.1 m && Nat.blt q.2 m && Nat.beq (Nat.land q.1 m) q.1 && Nat.beq (Nat.xor m q.1) q.2) && lvB (m + 1) lv
def plan2 : List Plan := [
  ([[0], [2, 0], [3, 1, 0]], [0, 2, 3], [3]),
  ([[0], [1, 0], [3, 2, 0]], [0, 1, 3], [1, 2])]
theorem plan2_eq : (ords 2).map entry = plan2 := by decide +kernel
def lvs2 : List (Nat × List (Nat × Nat)) := [(1, []), (2, []), (3, [(1, 2)])]
theorem lvs2_ok : lvB 1 lvs2 = true := by decide +kernel
theorem good2 : good plan2 lvs2 0 = true := by decide +kernel
def plan3 : List Plan := [
  ([[0], [4, 0], [6, 2, 0], [7, 3, 1, 0]], [0, 4, 6, 7], [5, 2]),
  ([[0], [2, 0], [6, 4, 0], [7, 5, 1, 0]], [0, 2, 6, 7], [7]),
  ([[0], [2, 0], [3, 1, 0], [7, 5, 4, 0]], [0, 2, 3, 7], [3, 4]),
  ([[0], [4, 0], [5, 1, 0], [7, 3, 2, 0]], [0, 4, 5, 7], [7]),
  ([[0], [1, 0], [5, 4, 0], [7, 6, 2, 0]], [0, 1, 5, 7], [1, 6]),
  ([[0], [1, 0], [3, 2, 0], [7, 6, 4, 0]], [0, 1, 3, 7], [1, 2, 4])]
theorem plan3_eq : (ords 3).map entry = plan3 := by decide +kernel
def lvs3 : List (Nat × List (Nat × Nat)) := [(1, []), (2, []), (3, [(1, 2)]), (4, []), (5, [(1, 4)]), (6, [(2, 4)]), (7, [(1, 6), (2, 5), (3, 4)])]
theorem lvs3_ok : lvB 1 lvs3 = true := by decide +kernel
theorem good3 : good plan3 lvs3 0 = true := by decide +kernel
def plan4 : List Plan := [
  ([[0], [8, 0], [12, 4, 0], [14, 6, 2, 0], [15, 7, 3, 1, 0]], [0, 8, 12, 14, 15], [9, 6]),
  ([[0], [4, 0], [12, 8, 0], [14, 10, 2, 0], [15, 11, 3, 1, 0]], [0, 4, 12, 14, 15], [15]),
  ([[0], [4, 0], [6, 2, 0], [14, 10, 8, 0], [15, 11, 9, 1, 0]], [0, 4, 6, 14, 15], [13, 2]),
  ([[0], [4, 0], [6, 2, 0], [7, 3, 1, 0], [15, 11, 9, 8, 0]], [0, 4, 6, 7, 15], [5, 2, 8]),
  ([[0], [8, 0], [10, 2, 0], [14, 6, 4, 0], [15, 7, 5, 1, 0]], [0, 8, 10, 14, 15], [9, 2, 4]),
  ([[0], [2, 0], [10, 8, 0], [14, 12, 4, 0], [15, 13, 5, 1, 0]], [0, 2, 10, 14, 15], [11, 4]),
  ([[0], [2, 0], [6, 4, 0], [14, 12, 8, 0], [15, 13, 9, 1, 0]], [0, 2, 6, 14, 15], [15]),
  ([[0], [2, 0], [6, 4, 0], [7, 5, 1, 0], [15, 13, 9, 8, 0]], [0, 2, 6, 7, 15], [7, 8]),
  ([[0], [8, 0], [10, 2, 0], [11, 3, 1, 0], [15, 7, 5, 4, 0]], [0, 8, 10, 11, 15], [13, 2]),
  ([[0], [2, 0], [10, 8, 0], [11, 9, 1, 0], [15, 13, 5, 4, 0]], [0, 2, 10, 11, 15], [15]),
  ([[0], [2, 0], [3, 1, 0], [11, 9, 8, 0], [15, 13, 12, 4, 0]], [0, 2, 3, 11, 15], [3, 12]),
  ([[0], [2, 0], [3, 1, 0], [7, 5, 4, 0], [15, 13, 12, 8, 0]], [0, 2, 3, 7, 15], [3, 4, 8]),
  ([[0], [8, 0], [12, 4, 0], [13, 5, 1, 0], [15, 7, 3, 2, 0]], [0, 8, 12, 13, 15], [15]),
  ([[0], [4, 0], [12, 8, 0], [13, 9, 1, 0], [15, 11, 3, 2, 0]], [0, 4, 12, 13, 15], [5, 10]),
  ([[0], [4, 0], [5, 1, 0], [13, 9, 8, 0], [15, 11, 10, 2, 0]], [0, 4, 5, 13, 15], [15]),
  ([[0], [4, 0], [5, 1, 0], [7, 3, 2, 0], [15, 11, 10, 8, 0]], [0, 4, 5, 7, 15], [7, 8]),
  ([[0], [8, 0], [9, 1, 0], [13, 5, 4, 0], [15, 7, 6, 2, 0]], [0, 8, 9, 13, 15], [11, 4]),
  ([[0], [1, 0], [9, 8, 0], [13, 12, 4, 0], [15, 14, 6, 2, 0]], [0, 1, 9, 13, 15], [1, 10, 4]),
  ([[0], [1, 0], [5, 4, 0], [13, 12, 8, 0], [15, 14, 10, 2, 0]], [0, 1, 5, 13, 15], [1, 14]),
  ([[0], [1, 0], [5, 4, 0], [7, 6, 2, 0], [15, 14, 10, 8, 0]], [0, 1, 5, 7, 15], [1, 6, 8]),
  ([[0], [8, 0], [9, 1, 0], [11, 3, 2, 0], [15, 7, 6, 4, 0]], [0, 8, 9, 11, 15], [15]),
  ([[0], [1, 0], [9, 8, 0], [11, 10, 2, 0], [15, 14, 6, 4, 0]], [0, 1, 9, 11, 15], [1, 14]),
  ([[0], [1, 0], [3, 2, 0], [11, 10, 8, 0], [15, 14, 12, 4, 0]], [0, 1, 3, 11, 15], [1, 2, 12]),
  ([[0], [1, 0], [3, 2, 0], [7, 6, 4, 0], [15, 14, 12, 8, 0]], [0, 1, 3, 7, 15], [1, 2, 4, 8])]
theorem plan4_eq : (ords 4).map entry = plan4 := by decide +kernel
def lvs4b : List (Nat × List (Nat × Nat)) := [(8, []), (9, [(1, 8)]), (10, [(2, 8)]), (11, [(1, 10), (2, 9), (3, 8)]), (12, [(4, 8)]), (13, [(1, 12), (4, 9), (5, 8)]), (14, [(2, 12), (4, 10), (6, 8)]), (15, [(1, 14), (2, 13), (3, 12), (4, 11), (5, 10), (6, 9), (7, 8)])]
def lvs4 : List (Nat × List (Nat × Nat)) := [(1, []), (2, []), (3, [(1, 2)]), (4, []), (5, [(1, 4)]), (6, [(2, 4)]), (7, [(1, 6), (2, 5), (3, 4)])] ++ lvs4b
theorem lvs4_ok : lvB 1 lvs4 = true := by decide +kernel
theorem good4at0 : good plan4 lvs4b 0 = true := by decide +kernel
theorem good4at2 : good plan4 lvs4b 2 = true := by decide +kernel
theorem good4at4 : good plan4 lvs4b 4 = true := by decide +kernel
theorem good4at10 : good plan4 lvs4b 10 = true := by decide +kernel
theorem good4at12 : good plan4 lvs4b 12 = true := by decide +kernel
theorem good4at14 : good plan4 lvs4b 14 = true := by decide +kernel
theorem good4at16 : good plan4 lvs4b 16 = true := by decide +kernel
theorem good4at34 : good plan4 lvs4b 34 = true := by decide +kernel
theorem good4at42 : good plan4 lvs4b 42 = true := by decide +kernel
theorem good4at48 : good plan4 lvs4b 48 = true := by decide +kernel
theorem good4at50 : good plan4 lvs4b 50 = true := by decide +kernel
theorem good4at68 : good plan4 lvs4b 68 = true := by decide +kernel
theorem good4at76 : good plan4 lvs4b 76 = true := by decide +kernel
theorem good4at80 : good plan4 lvs4b 80 = true := by decide +kernel
theorem good4at84 : good plan4 lvs4b 84 = true := by decide +kernel
theorem good4at112 : good plan4 lvs4b 112 = true := by decide +kernel
theorem good4at142 : good plan4 lvs4b 142 = true := by decide +kernel
theorem good4at170 : good plan4 lvs4b 170 = true := by decide +kernel
theorem good4at174 : good plan4 lvs4b 174 = true := by decide +kernel
theorem good4at178 : good plan4 lvs4b 178 = true := by decide +kernel
theorem good4at186 : good plan4 lvs4b 186 = true := by decide +kernel
theorem good4at204 : good plan4 lvs4b 204 = true := by decide +kernel
theorem good4at206 : good plan4 lvs4b 206 = true := by decide +kernel
theorem good4at212 : good plan4 lvs4b 212 = true := by decide +kernel
theorem good4at220 : good plan4 lvs4b 220 = true := by decide +kernel
theorem good4at238 : good plan4 lvs4b 238 = true := by decide +kernel
theorem good4at240 : good plan4 lvs4b 240 = true := by decide +kernel
theorem good4at242 : good plan4 lvs4b 242 = true := by decide +kernel
theorem good4at244 : good plan4 lvs4b 244 = true := by decide +kernel
theorem good4at250 : good plan4 lvs4b 250 = true := by decide +kernel
theorem good4at252 : good plan4 lvs4b 252 = true := by decide +kernel
theorem good4at254 : good plan4 lvs4b 254 = true := by decide +kernel
theorem good4 : good plan4 lvs4 0 = true :=
  good_step (fun _ => good_step (fun _ => good_step (fun _ => good_step (fun _ => good_step (fun _ => good_step (fun _ => good_step (fun _ => good4at0) (fun h => absurd h (by decide +kernel))) (fun h => absurd h (by decide +kernel))) (fun h => absurd h (by decide +kernel))) (fun _ => good_step (fun _ => good_step (fun _ => good_step (fun _ => good4at16) (fun h => absurd h (by decide +kernel))) (fun _ => good_step (fun _ => good4at80) (fun h => absurd h (by decide +kernel)))) (fun _ => good_step (fun _ => good_step (fun _ => good4at48) (fun h => absurd h (by decide +kernel))) (fun _ => good_step (fun _ => good4at112) (fun _ => good4at240))))) (fun h => absurd h (by decide +kernel))) (fun _ => good_step (fun _ => good_step (fun _ => good_step (fun _ => good_step (fun _ => good_step (fun _ => good4at4) (fun h => absurd h (by decide +kernel))) (fun _ => good_step (fun _ => good4at68) (fun h => absurd h (by decide +kernel)))) (fun h => absurd h (by decide +kernel))) (fun _ => good_step (fun _ => good_step (fun h => absurd h (by decide +kernel)) (fun _ => good_step (fun _ => good4at84) (fun _ => good4at212))) (fun _ => good_step (fun h => absurd h (by decide +kernel)) (fun _ => good_step (fun h => absurd h (by decide +kernel)) (fun _ => good4at244))))) (fun _ => good_step (fun _ => good_step (fun _ => good_step (fun _ => good_step (fun _ => good4at12) (fun h => absurd h (by decide +kernel))) (fun _ => good_step (fun _ => good4at76) (fun _ => good4at204))) (fun h => absurd h (by decide +kernel))) (fun _ => good_step (fun _ => good_step (fun h => absurd h (by decide +kernel)) (fun _ => good_step (fun h => absurd h (by decide +kernel)) (fun _ => good4at220))) (fun _ => good_step (fun h => absurd h (by decide +kernel)) (fun _ => good_step (fun h => absurd h (by decide +kernel)) (fun _ => good4at252))))))) (fun _ => good_step (fun _ => good_step (fun _ => good_step (fun _ => good_step (fun _ => good_step (fun _ => good_step (fun _ => good4at2) (fun h => absurd h (by decide +kernel))) (fun h => absurd h (by decide +kernel))) (fun _ => good_step (fun _ => good_step (fun _ => good4at34) (fun h => absurd h (by decide +kernel))) (fun h => absurd h (by decide +kernel)))) (fun _ => good_step (fun h => absurd h (by decide +kernel)) (fun _ => good_step (fun _ => good_step (fun _ => good4at50) (fun _ => good4at178)) (fun _ => good_step (fun h => absurd h (by decide +kernel)) (fun _ => good4at242))))) (fun _ => good_step (fun _ => good_step (fun _ => good_step (fun _ => good_step (fun _ => good4at10) (fun h => absurd h (by decide +kernel))) (fun h => absurd h (by decide +kernel))) (fun _ => good_step (fun _ => good_step (fun _ => good4at42) (fun _ => good4at170)) (fun h => absurd h (by decide +kernel)))) (fun _ => good_step (fun h => absurd h (by decide +kernel)) (fun _ => good_step (fun _ => good_step (fun h => absurd h (by decide +kernel)) (fun _ => good4at186)) (fun _ => good_step (fun h => absurd h (by decide +kernel)) (fun _ => good4at250)))))) (fun _ => good_step (fun h => absurd h (by decide +kernel)) (fun _ => good_step (fun _ => good_step (fun _ => good_step (fun _ => good_step (fun _ => good4at14) (fun _ => good4at142)) (fun _ => good_step (fun h => absurd h (by decide +kernel)) (fun _ => good4at206))) (fun _ => good_step (fun _ => good_step (fun h => absurd h (by decide +kernel)) (fun _ => good4at174)) (fun _ => good_step (fun h => absurd h (by decide +kernel)) (fun _ => good4at238)))) (fun _ => good_step (fun h => absurd h (by decide +kernel)) (fun _ => good_step (fun h => absurd h (by decide +kernel)) (fun _ => good_step (fun h => absurd h (by decide +kernel)) (fun _ => good4at254)))))))
end Mine
namespace Mine

theorem add_zero' (u : V3) : u.add V3.zero = u := by refine V3.ext' ?_ ?_ ?_ <;> simp [V3.add, V3.zero]
theorem zero_add' (u : V3) : V3.zero.add u = u := by refine V3.ext' ?_ ?_ ?_ <;> simp [V3.add, V3.zero]
theorem add_comm' (u v : V3) : u.add v = v.add u := by refine V3.ext' ?_ ?_ ?_ <;> simp only [V3.add] <;> omega
theorem add_assoc' (u v w : V3) : (u.add v).add w = u.add (v.add w) := by refine V3.ext' ?_ ?_ ?_ <;> simp only [V3.add] <;> omega
theorem sum_nil : V3.sum [] = V3.zero := rfl
theorem sum_append : ∀ l m : List V3, V3.sum (l ++ m) = (V3.sum l).add (V3.sum m)
  | [], m => by rw [List.nil_append, sum_nil, zero_add']
  | v :: l, m => by rw [List.cons_append, V3.sum_cons, V3.sum_cons, sum_append l m, add_assoc']

/-- the sum over a set of places -/
def bitV (vs : List V3) (m i : Nat) : V3 := if m.testBit i then vs[i]?.getD V3.zero else V3.zero
def valB (vs : List V3) (m : Nat) : Nat → V3
  | 0 => V3.zero
  | n + 1 => (valB vs m n).add (bitV vs m n)
def val (vs : List V3) (m : Nat) : V3 := valB vs m vs.length
theorem val_split (vs : List V3) {a b m : Nat} (h : ∀ i, m.testBit i = (a.testBit i || b.testBit i)) (hd : ∀ i, ¬(a.testBit i = true ∧ b.testBit i = true)) : ∀ n, valB vs m n = (valB vs a n).add (valB vs b n)
  | 0 => (add_zero' _).symm
  | n + 1 => by
    have ih := val_split vs h hd n
    have e : bitV vs m n = (bitV vs a n).add (bitV vs b n) := by
      unfold bitV
      rw [h n]
      cases ha : a.testBit n <;> cases hb : b.testBit n
      · simp [add_zero']
      · simp [zero_add']
      · simp [add_zero']
      · exact absurd ⟨ha, hb⟩ (hd n)
    rw [valB, valB, valB, ih, e]
    refine V3.ext' ?_ ?_ ?_ <;> simp only [V3.add] <;> omega
theorem val_zero (vs : List V3) : ∀ n, valB vs 0 n = V3.zero
  | 0 => rfl
  | n + 1 => by rw [valB, val_zero vs n]; simp [bitV, add_zero']
theorem val_one (vs : List V3) (i : Nat) : ∀ n, valB vs (2 ^ i) n = if i < n then vs[i]?.getD V3.zero else V3.zero
  | 0 => rfl
  | n + 1 => by
    rw [valB, val_one vs i n]
    unfold bitV
    rw [Nat.testBit_two_pow]
    by_cases h : i < n
    · rw [if_pos h, if_neg (by simp; omega), if_pos (by omega), add_zero']
    · rw [if_neg h]
      by_cases e : i = n
      · subst e; simp [zero_add']
      · rw [if_neg (by simpa using e), if_neg (by omega), add_zero']
theorem mask_bit : ∀ (l : List Int) (j : Nat), (maskOf l).testBit j = true ↔ ∃ i ∈ l, i.toNat = j
  | [], j => by simp [maskOf]
  | i :: r, j => by
    rw [maskOf, Nat.testBit_or, Bool.or_eq_true, mask_bit r j, Nat.testBit_two_pow, decide_eq_true_eq]
    simp
def okL (n : Nat) (l : List Int) : Prop := ∀ i ∈ l, 0 ≤ i ∧ i < n
theorem val_mask (vs : List V3) : ∀ l : List Int, l.Nodup → okL vs.length l → val vs (maskOf l) = V3.sum (gets vs l)
  | [], _, _ => val_zero vs _
  | i :: r, hn, hk => by
    obtain ⟨h1, h2⟩ := List.nodup_cons.mp hn
    have ih := val_mask vs r h2 fun j hj => hk j (.tail _ hj)
    obtain ⟨i0, i1⟩ := hk i (.head _)
    unfold val at ih ⊢
    rw [maskOf, val_split vs (a := 2 ^ i.toNat) (b := maskOf r) (fun j => Nat.testBit_or _ _ _) (fun j hj => ?_), ih, val_one, if_pos (by omega)]
    · show _ = V3.sum ((vs[i.toNat]?.getD ⟨0, 0, 0⟩) :: gets vs r)
      rw [V3.sum_cons]; rfl
    · obtain ⟨a, b⟩ := hj
      rw [Nat.testBit_two_pow, decide_eq_true_eq] at a
      obtain ⟨k, hk', e⟩ := (mask_bit r j).mp b
      obtain ⟨k0, _⟩ := hk k (.tail _ hk')
      have : k = i := by omega
      exact h1 (this ▸ hk')
theorem mask_zero {l : List Int} (h : maskOf l = 0) : l = [] := by
  cases l with
  | nil => rfl
  | cons i r =>
    have := (mask_bit (i :: r) i.toNat).mpr ⟨i, .head _, rfl⟩
    rw [h] at this
    simp at this

/-- above the empty entry -/
def pos (ps : List (Int × Int)) (v : V3) : Bool := cmpO ps (some v) none == 1
theorem cmp_diff (a b a' b' : Int → Int) : ∀ ps : List (Int × Int), (∀ p ∈ ps, a p.1 - b p.1 = a' p.1 - b' p.1) → cmpV a b ps = cmpV a' b' ps
  | [], _ => rfl
  | p :: r, h => by
    have ih := cmp_diff a b a' b' r fun q hq => h q (.tail _ hq)
    have := h p (.head _)
    rw [cmpV, cmpV, ih]
    by_cases h1 : a p.1 < b p.1
    · rw [if_pos h1, if_pos (by omega)]
    · rw [if_neg h1, if_neg (show ¬ a' p.1 < b' p.1 by omega)]
      by_cases h2 : b p.1 < a p.1
      · rw [if_pos h2, if_pos (by omega)]
      · rw [if_neg h2, if_neg (show ¬ b' p.1 < a' p.1 by omega)]
theorem at_add (u v : V3) (c : Int) : (u.add v).at c = u.at c + v.at c := by
  unfold V3.at V3.add
  split
  · dsimp only; omega
  · split <;> dsimp only <;> omega
theorem at_zero (c : Int) : V3.zero.at c = 0 := by
  unfold V3.at V3.zero
  split
  · rfl
  · split <;> rfl
/-- both at once: the sums of two that are above are above, of two that are not, not -/
theorem cmp_add (a b : Int → Int) : ∀ ps : List (Int × Int), (∀ p ∈ ps, okWay p) →
    (cmpV a (fun _ => 0) ps = 1 → cmpV b (fun _ => 0) ps ≠ -1 → cmpV (fun c => a c + b c) (fun _ => 0) ps = 1) ∧ (cmpV a (fun _ => 0) ps ≠ 1 → cmpV b (fun _ => 0) ps ≠ 1 → cmpV (fun c => a c + b c) (fun _ => 0) ps ≠ 1) ∧
    (cmpV b (fun _ => 0) ps = 1 → cmpV a (fun _ => 0) ps ≠ -1 → cmpV (fun c => a c + b c) (fun _ => 0) ps = 1)
  | [], _ => by simp [cmpV]
  | p :: r, h => by
    have ih := cmp_add a b r fun q hq => h q (.tail _ hq)
    have hp := h p (.head _)
    simp only [cmpV]
    generalize cmpV a (fun _ => 0) r = x at *
    generalize cmpV b (fun _ => 0) r = y at *
    generalize cmpV (fun c => a c + b c) (fun _ => 0) r = z at *
    obtain ⟨i1, i2, i3⟩ := ih
    rcases hp with w | w <;> rw [w] <;> refine ⟨fun h1 h2 => ?_, fun h1 h2 => ?_, fun h1 h2 => ?_⟩ <;> (repeat' split) <;> (repeat' split at h1) <;> (repeat' split at h2) <;> omega
end Mine
namespace Mine

theorem pos_eq (ps : List (Int × Int)) (v : V3) : pos ps v = (cmpV v.at (fun _ => 0) ps == 1) := by
  unfold pos cmpO
  rw [cmp_diff (crd (some v)) (crd none) v.at (fun _ => 0) ps fun p _ => ?_]
  show v.at p.1 - V3.zero.at p.1 = _
  rw [at_zero]
theorem pos_add {ps : List (Int × Int)} (hw : ∀ p ∈ ps, okWay p) (u v : V3) : (pos ps u = true → pos ps v = true → pos ps (u.add v) = true) ∧ (pos ps u = false → pos ps v = false → pos ps (u.add v) = false) := by
  obtain ⟨h1, h2, _⟩ := cmp_add u.at v.at ps hw
  have e : (u.add v).at = fun c => u.at c + v.at c := funext fun c => at_add u v c
  rw [pos_eq, pos_eq, pos_eq, e]
  simp only [beq_iff_eq, beq_eq_false_iff_ne]
  exact ⟨fun a b => h1 a (by omega), h2⟩
def Cons (F : Nat → Bool) : Prop := ∀ m a, a &&& m = a → (F a = true → F (m ^^^ a) = true → F m = true) ∧ (F a = false → F (m ^^^ a) = false → F m = false)
theorem cons_pos {ps : List (Int × Int)} (hw : ∀ p ∈ ps, okWay p) (vs : List V3) : Cons fun m => pos ps (val vs m) := fun m a h => by
  have hb : ∀ i, a.testBit i = true → m.testBit i = true := fun i hi => by
    rw [← h, Nat.testBit_and, Bool.and_eq_true] at hi
    exact hi.2
  have e : val vs m = (val vs a).add (val vs (m ^^^ a)) := val_split vs (fun i => by
    have := hb i
    rw [Nat.testBit_xor]
    cases ha : a.testBit i <;> cases hm : m.testBit i <;> simp_all) (fun i hi => by
    have := hb i hi.1
    rw [Nat.testBit_xor] at hi
    simp_all) _
  show (pos ps (val vs a) = true → pos ps (val vs (m ^^^ a)) = true → pos ps (val vs m) = true) ∧ (pos ps (val vs a) = false → pos ps (val vs (m ^^^ a)) = false → pos ps (val vs m) = false)
  rw [e]
  exact pos_add hw _ _
theorem bit_eq (p m : Nat) : bit p m = p.testBit m := by
  unfold bit
  rw [Nat.testBit_eq_decide_div_mod_eq]
  have e : Nat.land (Nat.shiftRight p m) 1 = p / 2 ^ m % 2 := by
    show (p >>> m) &&& 1 = _
    rw [Nat.and_one_is_mod, Nat.shiftRight_eq_div_pow]
  rw [e]
  rw [Bool.eq_iff_iff, decide_eq_true_eq]
  exact Iff.of_eq Nat.beq_eq
def splitsOK (m : Nat) (prs : List (Nat × Nat)) : Prop := ∀ q ∈ prs, q.1 < m ∧ q.2 < m ∧ q.1 &&& m = q.1 ∧ m ^^^ q.1 = q.2
theorem ok0_of {p : Nat} {F : Nat → Bool} (hF : Cons F) {m : Nat} (hb : ∀ i, i < m → bit p i = F i) (hm : F m = false) : ∀ prs, splitsOK m prs → ok0 p prs = true
  | [], _ => rfl
  | q :: r, h => by
    have ih := ok0_of hF hb hm r fun x hx => h x (.tail _ hx)
    obtain ⟨h1, h2, h3, h4⟩ := h q (.head _)
    show both (bit p q.1) (both (bit p q.2) false (ok0 p r)) (ok0 p r) = true
    rw [hb _ h1, hb _ h2, ih]
    have c := (hF m q.1 h3).1
    rw [h4] at c
    cases a : F q.1 <;> cases b : F q.2
    · rfl
    · rfl
    · rfl
    · rw [c a b] at hm; cases hm
theorem ok1_of {p : Nat} {F : Nat → Bool} (hF : Cons F) {m : Nat} (hb : ∀ i, i < m → bit p i = F i) (hm : F m = true) : ∀ prs, splitsOK m prs → ok1 p prs = true
  | [], _ => rfl
  | q :: r, h => by
    have ih := ok1_of hF hb hm r fun x hx => h x (.tail _ hx)
    obtain ⟨h1, h2, h3, h4⟩ := h q (.head _)
    show both (bit p q.1) (ok1 p r) (both (bit p q.2) (ok1 p r) false) = true
    rw [hb _ h1, hb _ h2, ih]
    have c := (hF m q.1 h3).2
    rw [h4] at c
    cases a : F q.1 <;> cases b : F q.2
    · rw [c a b] at hm; cases hm
    · rfl
    · rfl
    · rfl
theorem both_of {a b : Bool} {x : Bool} (h : both (both a x true) b false = true) : (a = true → x = true) ∧ b = true := by
  cases a <;> cases b <;> cases x <;> first | (cases h; done) | exact ⟨by simp, rfl⟩ | cases h
theorem good_sound {F : Nat → Bool} (hF : Cons F) (es : List Plan) : ∀ (lv : List (Nat × List (Nat × Nat))) (m p : Nat), lvB m lv = true → good es lv p = true → (∀ i, i < m → bit p i = F i) → p < 2 ^ m →
    ∃ p' : Nat, (∀ i, i < m + lv.length → bit p' i = F i) ∧ (es.map (topP p')).Perm (es.map (abvP p'))
  | [], m, p, _, h, hb, _ => by
    have h : mapF (topP p) es (fun l => mapF (abvP p) es fun m => permB l m) = true := h
    rw [mapF_eq, mapF_eq] at h
    exact ⟨p, hb, permB_of _ _ h⟩
  | (m', prs) :: lv, m, p, hl, h, hb, hp => by
    unfold lvB at hl
    simp only [Bool.and_eq_true] at hl
    obtain ⟨⟨h1, h2⟩, h3⟩ := hl
    have e := Nat.eq_of_beq_eq_true h1
    subst e
    have hs : splitsOK m' prs := fun q hq => by
      have := List.all_eq_true.mp h2 q hq
      simp only [Bool.and_eq_true] at this
      obtain ⟨⟨⟨a, b⟩, c⟩, d⟩ := this
      exact ⟨Nat.blt_eq.mp a, Nat.blt_eq.mp b, Nat.eq_of_beq_eq_true c, Nat.eq_of_beq_eq_true d⟩
    have h : both (both (ok0 p prs) (good es lv p) true) (both (ok1 p prs) (force (Nat.lor p (Nat.pow 2 m')) (good es lv)) true) false = true := h
    rw [force_eq] at h
    obtain ⟨g0, g1⟩ := both_of h
    have len : m' + ((m', prs) :: lv).length = m' + 1 + lv.length := by rw [List.length_cons]; omega
    rw [len]
    cases q : F m' with
    | false =>
      refine good_sound hF es lv (m' + 1) p h3 (g0 (ok0_of hF hb q prs hs)) (fun i hi => ?_) (Nat.lt_of_lt_of_le hp (Nat.pow_le_pow_right (by decide) (by omega)))
      by_cases hi' : i < m'
      · exact hb i hi'
      · obtain rfl : i = m' := by omega
        rw [q, bit_eq]
        exact Nat.testBit_lt_two_pow hp
    | true =>
      rw [ok1_of hF hb q prs hs] at g1
      have g1 : good es lv (p ||| 2 ^ m') = true := g1
      refine good_sound hF es lv (m' + 1) (p ||| 2 ^ m') h3 g1 (fun i hi => ?_) (Nat.or_lt_two_pow (Nat.lt_of_lt_of_le hp (Nat.pow_le_pow_right (by decide) (by omega))) (Nat.pow_lt_pow_right (by decide) (by omega)))
      rw [bit_eq, Nat.testBit_or, Nat.testBit_two_pow]
      by_cases hi' : i < m'
      · have := hb i hi'
        rw [bit_eq] at this
        rw [this, decide_eq_false (by omega), Bool.or_false]
      · obtain rfl : i = m' := by omega
        rw [q, decide_eq_true rfl, Bool.or_true]

def stepI (f : Nat → Bool) (o : List Int) (i j : Nat) : Nat := if f (maskOf ((o.take j).drop i)) then j else i
def topI (f : Nat → Bool) (o : List Int) (n : Nat) : Nat := (List.range n).foldl (stepI f o) 0
def topM (f : Nat → Bool) (o : List Int) : Nat := maskOf (o.take (topI f o (o.length + 1)))
def abvM (f : Nat → Bool) (o : List Int) : Nat := maskOf (((ringsO o).filter fun r => f (maskOf r)).flatten)
theorem nth_eq : ∀ (l : List Nat) (i : Nat), nth l i = l[i]?.getD 0
  | [], i => by simp [nth]
  | x :: l, 0 => rfl
  | x :: l, i + 1 => by
    show nth l i = _
    rw [nth_eq l i]; simp
theorem step_le (f : Nat → Bool) (o : List Int) {i j : Nat} (h : i ≤ j) : stepI f o i j ≤ j := by
  unfold stepI; split
  · exact Nat.le_refl _
  · exact h
theorem goP_eq (p : Nat) (o : List Int) : ∀ (k j i : Nat), i ≤ j → goP p ((List.range' j k).map fun j => (List.range (j + 1)).map fun i => maskOf ((o.take j).drop i)) j i = (List.range' j k).foldl (stepI (bit p) o) i
  | 0, j, i, _ => rfl
  | k + 1, j, i, h => by
    rw [List.range'_succ, List.map_cons, List.foldl_cons, ← goP_eq p o k (j + 1) (stepI (bit p) o i j) (Nat.le_succ_of_le (step_le _ _ h))]
    show pick (bit p (nth ((List.range (j + 1)).map fun i => maskOf ((o.take j).drop i)) i)) (goP p _ (Nat.succ j) j) (goP p _ (Nat.succ j) i) = _
    have e : nth ((List.range (j + 1)).map fun i => maskOf ((o.take j).drop i)) i = maskOf ((o.take j).drop i) := by
      rw [nth_eq, List.getElem?_map, List.getElem?_range (by omega)]; rfl
    rw [e]
    unfold stepI
    cases q : bit p (maskOf ((o.take j).drop i)) <;> rfl
theorem topI_le (f : Nat → Bool) (o : List Int) (n : Nat) : topI f o (n + 1) ≤ n := by
  unfold topI
  rw [List.range_succ, List.foldl_append]
  refine step_le f o ?_
  induction n with
  | zero => exact Nat.le_refl _
  | succ n ih =>
    rw [List.range_succ, List.foldl_append]
    exact Nat.le_succ_of_le (step_le f o ih)
theorem topP_eq (p : Nat) (o : List Int) : topP p (entry o) = topM (bit p) o := by
  unfold topP entry topM
  dsimp only
  have e : goP p ((List.range (o.length + 1)).map fun j => (List.range (j + 1)).map fun i => maskOf ((o.take j).drop i)) 0 0 = topI (bit p) o (o.length + 1) := by
    unfold topI
    rw [List.range_eq_range']
    exact goP_eq p o _ 0 0 (Nat.le_refl _)
  rw [e, nth_eq, List.getElem?_map, List.getElem?_range (Nat.lt_succ_of_le (topI_le _ _ _))]; rfl
theorem mask_append : ∀ l m : List Int, maskOf (l ++ m) = maskOf l ||| maskOf m
  | [], m => by simp [maskOf]
  | i :: r, m => by rw [List.cons_append, maskOf, maskOf, mask_append r m, Nat.or_assoc]
theorem orP_eq (p : Nat) : ∀ rs : List (List Int), orP p (rs.map maskOf) = maskOf ((rs.filter fun r => bit p (maskOf r)).flatten)
  | [] => rfl
  | r :: rs => by
    have ih := orP_eq p rs
    show pick (bit p (maskOf r)) (Nat.lor (maskOf r) (orP p (rs.map maskOf))) (orP p (rs.map maskOf)) = _
    rw [ih]
    cases q : bit p (maskOf r) with
    | true => rw [List.filter_cons_of_pos (p := fun r => bit p (maskOf r)) q, List.flatten_cons, mask_append]; rfl
    | false => rw [List.filter_cons_of_neg (p := fun r => bit p (maskOf r)) (by rw [q]; decide)]; rfl
theorem abvP_eq (p : Nat) (o : List Int) : abvP p (entry o) = abvM (bit p) o := orP_eq p _

theorem mask_lt (n : Nat) : ∀ l : List Int, okL n l → maskOf l < 2 ^ n
  | [], _ => Nat.two_pow_pos n
  | i :: r, h => by
    obtain ⟨h0, h1⟩ := h i (.head _)
    exact Nat.or_lt_two_pow (Nat.pow_lt_pow_right (by decide) (by omega)) (mask_lt n r fun j hj => h j (.tail _ hj))
def valO (vs : List V3) (m : Nat) : Option V3 := if m = 0 then none else some (val vs m)
def SO (l : List V3) (j : Nat) : Option V3 := if j = 0 then none else some (V3.sum (l.take j))
theorem along_SO (l : List V3) : alongV none l = (List.range (l.length + 1)).map (SO l) := by
  refine List.ext_getElem? fun j => ?_
  rw [List.getElem?_map]
  by_cases h : j < l.length + 1
  · rw [List.getElem?_range h]
    cases j with
    | zero => cases l <;> rfl
    | succ j => rw [along_at0 l j (by omega)]; rfl
  · rw [List.getElem?_eq_none (by rw [along_len]; omega), List.getElem?_eq_none (by rw [List.length_range]; omega)]; rfl
theorem crd_SO (l : List V3) (j : Nat) (c : Int) : crd (SO l j) c = (V3.sum (l.take j)).at c := by
  unfold SO
  split
  · rename_i h; subst h; rfl
  · rfl
theorem gets_take (vs : List V3) (o : List Int) (j : Nat) : (gets vs o).take j = gets vs (o.take j) := by unfold gets; rw [List.map_take]
theorem gets_drop (vs : List V3) (o : List Int) (j : Nat) : (gets vs o).drop j = gets vs (o.drop j) := by unfold gets; rw [List.map_drop]
theorem gets_len (vs : List V3) (o : List Int) : (gets vs o).length = o.length := by unfold gets; rw [List.length_map]
theorem cmp_SO (ps : List (Int × Int)) (vs : List V3) (o : List Int) (hn : o.Nodup) (hk : okL vs.length o) {i j : Nat} (h : i ≤ j) : (cmpO ps (SO (gets vs o) j) (SO (gets vs o) i) = 1) ↔ pos ps (val vs (maskOf ((o.take j).drop i))) = true := by
  have hs : ((o.take j).drop i).Sublist o := (List.drop_sublist _ _).trans (List.take_sublist _ _)
  rw [val_mask vs _ (hs.nodup hn) (fun x hx => hk x (hs.subset hx)), pos_eq, beq_iff_eq]
  unfold cmpO
  rw [cmp_diff (crd (SO (gets vs o) j)) (crd (SO (gets vs o) i)) (V3.sum (gets vs ((o.take j).drop i))).at (fun _ => 0) ps fun p _ => ?_]
  rw [crd_SO, crd_SO, gets_take, gets_take]
  have e : gets vs (o.take j) = gets vs (o.take i) ++ gets vs ((o.take j).drop i) := by
    unfold gets
    rw [← List.map_append]
    congr 1
    have := (List.take_append_drop i (o.take j)).symm
    rwa [List.take_take, Nat.min_eq_left h] at this
  rw [e, sum_append, at_add]
  omega
theorem top_SO (ps : List (Int × Int)) (vs : List V3) (o : List Int) (hn : o.Nodup) (hk : okL vs.length o) {f : Nat → Bool} (hf : ∀ m, m < 2 ^ vs.length → f m = pos ps (val vs m)) : ∀ n, topI f o n ≤ n ∧ (topI f o n < n ∨ topI f o n = 0) ∧ topV ps none ((List.range n).map (SO (gets vs o))) = SO (gets vs o) (topI f o n)
  | 0 => ⟨Nat.le_refl _, .inr rfl, rfl⟩
  | n + 1 => by
    obtain ⟨h1, h2, h3⟩ := top_SO ps vs o hn hk hf n
    have et : topI f o (n + 1) = stepI f o (topI f o n) n := by unfold topI; rw [List.range_succ, List.foldl_append]; rfl
    have hs : ((o.take n).drop (topI f o n)).Sublist o := (List.drop_sublist _ _).trans (List.take_sublist _ _)
    have hm := hf _ (mask_lt vs.length ((o.take n).drop (topI f o n)) fun x hx => hk x (hs.subset hx))
    rw [List.range_succ, List.map_append, List.map_singleton, topV_snoc, h3, et]
    unfold stepI
    have hc := cmp_SO ps vs o hn hk h1
    rw [← hm] at hc
    by_cases q : f (maskOf ((o.take n).drop (topI f o n))) = true
    · rw [if_pos q, if_pos (hc.mpr q)]
      exact ⟨by omega, .inl (by omega), rfl⟩
    · rw [if_neg q, if_neg (fun z => q (hc.mp z))]
      exact ⟨by omega, by omega, rfl⟩
theorem SO_valO (vs : List V3) (o : List Int) (hn : o.Nodup) (hk : okL vs.length o) (t : Nat) (ht : t ≤ o.length) : SO (gets vs o) t = valO vs (maskOf (o.take t)) := by
  have hs : (o.take t).Sublist o := List.take_sublist _ _
  unfold SO valO
  by_cases h : t = 0
  · subst h; rfl
  · rw [if_neg h, if_neg (fun z => ?_), val_mask vs _ (hs.nodup hn) (fun x hx => hk x (hs.subset hx)), gets_take]
    have := congrArg List.length (mask_zero z)
    rw [List.length_take, List.length_nil] at this
    omega
theorem top_mask (ps : List (Int × Int)) (vs : List V3) (o : List Int) (hn : o.Nodup) (hk : okL vs.length o) {f : Nat → Bool} (hf : ∀ m, m < 2 ^ vs.length → f m = pos ps (val vs m)) : topV ps none (alongV none (gets vs o)) = valO vs (topM f o) := by
  obtain ⟨h1, h2, h3⟩ := top_SO ps vs o hn hk hf (o.length + 1)
  rw [along_SO, gets_len, h3]
  exact SO_valO vs o hn hk _ (by omega)
theorem sum_flat (vs : List V3) : ∀ rs : List (List Int), V3.sum (rs.map fun r => V3.sum (gets vs r)) = V3.sum (gets vs rs.flatten)
  | [] => rfl
  | r :: rs => by
    rw [List.map_cons, V3.sum_cons, sum_flat vs rs, List.flatten_cons]
    have : gets vs (r ++ rs.flatten) = gets vs r ++ gets vs rs.flatten := by unfold gets; rw [List.map_append]
    rw [this, sum_append]
theorem flat_filter (q : List Int → Bool) : ∀ rs : List (List Int), (rs.filter q).flatten.Sublist rs.flatten
  | [] => List.Sublist.refl _
  | r :: rs => by
    rw [List.flatten_cons]
    by_cases h : q r = true
    · rw [List.filter_cons_of_pos h, List.flatten_cons]
      exact (List.Sublist.refl _).append (flat_filter q rs)
    · rw [List.filter_cons_of_neg h]
      exact (flat_filter q rs).trans (List.sublist_append_right _ _)
theorem abv_mask (ps : List (Int × Int)) (vs : List V3) (o : List Int) (hn : (ringsO o).flatten.Nodup) (hk : okL vs.length (ringsO o).flatten) (hne : ∀ r ∈ ringsO o, r ≠ []) {f : Nat → Bool} (hf : ∀ m, m < 2 ^ vs.length → f m = pos ps (val vs m)) : aboveV ps vs (ringsO o) = valO vs (abvM f o) := by
  have hr : ∀ r ∈ ringsO o, f (maskOf r) = pos ps (totV (gets vs r)) := fun r hr => by
    have hs : r.Sublist (ringsO o).flatten := List.sublist_flatten_of_mem hr
    have hk' : okL vs.length r := fun x hx => hk x (hs.subset hx)
    rw [hf _ (mask_lt _ _ hk'), val_mask vs r (hs.nodup hn) hk', totV_sum]
  unfold aboveV abvM
  have e : ((ringsO o).map fun r => totV (gets vs r)).filter (fun t => cmpO ps (some t) none == 1) = ((ringsO o).filter fun r => f (maskOf r)).map fun r => V3.sum (gets vs r) := by
    rw [List.filter_map]
    have h1 : (ringsO o).filter ((fun t => cmpO ps (some t) none == 1) ∘ fun r => totV (gets vs r)) = (ringsO o).filter fun r => f (maskOf r) := List.filter_congr fun r h => (hr r h).symm
    rw [h1]
    exact List.map_congr_left fun r _ => totV_sum _
  rw [e]
  have hs := flat_filter (fun r => f (maskOf r)) (ringsO o)
  have hsub : ∀ r ∈ (ringsO o).filter (fun r => f (maskOf r)), r ≠ [] := fun r h => hne r (List.mem_filter.mp h).1
  generalize (ringsO o).filter (fun r => f (maskOf r)) = rs at hs hsub
  unfold valO
  cases rs with
  | nil => rfl
  | cons r rs =>
    rw [lastV_ne (by simp), totV_sum, sum_flat, if_neg (fun z => ?_), val_mask vs _ (hs.nodup hn) (fun x hx => hk x (hs.subset hx))]
    have := mask_zero z
    rw [List.flatten_cons, List.append_eq_nil_iff] at this
    exact hsub r (.head _) this.1
end Mine
namespace Mine

def nodupI : List Int → Bool
  | [] => true
  | x :: r => !r.contains x && nodupI r
theorem nodupI_of : ∀ {l : List Int}, nodupI l = true → l.Nodup
  | [], _ => List.nodup_nil
  | x :: r, h => by
    unfold nodupI at h
    rw [Bool.and_eq_true] at h
    exact List.nodup_cons.mpr ⟨by simpa using h.1, nodupI_of h.2⟩
def okB (n : Nat) (l : List Int) : Bool := l.all fun i => decide (0 ≤ i) && decide (i < n)
theorem okB_of {n : Nat} {l : List Int} (h : okB n l = true) : okL n l := fun i hi => by
  have := List.all_eq_true.mp h i hi
  simpa using this
def ordB (n : Nat) (o : List Int) : Bool := nodupI o && okB n o && (match ringsF o o.length with
  | none => false
  | some rs => nodupI rs.flatten && okB n rs.flatten && rs.all (fun r => !r.isEmpty && decide (r.length ≤ 10)) && decide (rs.length ≤ 100))
structure OrdOK (n : Nat) (o : List Int) : Prop where
  nodup : o.Nodup
  ok : okL n o
  rings : ringsF o o.length = some (ringsO o)
  rnodup : (ringsO o).flatten.Nodup
  rok : okL n (ringsO o).flatten
  rne : ∀ r ∈ ringsO o, r ≠ []
  ring : ∀ r ∈ ringsO o, okRing n r
  rlen : (ringsO o).length ≤ 100
theorem ordB_of {n : Nat} {o : List Int} (h : ordB n o = true) : OrdOK n o := by
  unfold ordB at h
  rw [Bool.and_eq_true, Bool.and_eq_true] at h
  obtain ⟨⟨h1, h2⟩, h3⟩ := h
  split at h3
  · cases h3
  · rename_i rs hrs
    have e : ringsO o = rs := by unfold ringsO; rw [hrs]; rfl
    simp only [Bool.and_eq_true] at h3
    obtain ⟨⟨⟨h3, h4⟩, h5⟩, h6⟩ := h3
    have hr : ∀ r ∈ rs, r ≠ [] ∧ r.length ≤ 10 := fun r hr => by
      have := List.all_eq_true.mp h5 r hr
      simpa using this
    have hok := okB_of h4
    exact {
      nodup := nodupI_of h1
      ok := okB_of h2
      rings := by rw [e]; exact hrs
      rnodup := by rw [e]; exact nodupI_of h3
      rok := by rw [e]; exact hok
      rne := fun r h => (hr r (e ▸ h)).1
      ring := fun r h => ⟨(hr r (e ▸ h)).1, (hr r (e ▸ h)).2, fun i hi => hok i (List.mem_flatten.mpr ⟨r, e ▸ h, hi⟩)⟩
      rlen := by rw [e]; simpa using h6 }
theorem ords2 : (ords 2).all (ordB 2) = true := by decide +kernel
theorem ords3 : (ords 3).all (ordB 3) = true := by decide +kernel
theorem ords4 : (ords 4).all (ordB 4) = true := by decide +kernel
theorem ords_ok {n : Nat} (h2 : 2 ≤ n) (h4 : n ≤ 4) {o : List Int} (ho : o ∈ ords n) : OrdOK n o := by
  have : n = 2 ∨ n = 3 ∨ n = 4 := by omega
  rcases this with rfl | rfl | rfl
  · exact ordB_of (List.all_eq_true.mp ords2 o ho)
  · exact ordB_of (List.all_eq_true.mp ords3 o ho)
  · exact ordB_of (List.all_eq_true.mp ords4 o ho)
theorem ords_count {n : Nat} (h4 : n ≤ 4) : (ords n).length ≤ 24 := by
  have : n = 0 ∨ n = 1 ∨ n = 2 ∨ n = 3 ∨ n = 4 := by omega
  rcases this with rfl | rfl | rfl | rfl | rfl <;> decide
theorem spitzer {ps : List (Int × Int)} (hw : ∀ p ∈ ps, okWay p) (vs : List V3) (h2 : 2 ≤ vs.length) (h4 : vs.length ≤ 4) :
    ((ords vs.length).map fun o => topV ps none (alongV none (gets vs o))).Perm ((ords vs.length).map fun o => aboveV ps vs (ringsO o)) := by
  have hF := cons_pos hw vs
  have h0 : (fun m => pos ps (val vs m)) 0 = false := by
    show pos ps (valB vs 0 vs.length) = false
    rw [val_zero, pos_eq]
    have : cmpV V3.zero.at (fun _ => 0) ps = 0 := by
      have e : V3.zero.at = fun _ => 0 := funext at_zero
      rw [e]
      clear hw hF
      induction ps with
      | nil => rfl
      | cons p r ih => rw [cmpV]; rw [if_neg (by omega), if_neg (by omega)]; exact ih
    rw [this]; rfl
  obtain ⟨p, e2, e3⟩ : ∃ p : Nat, (∀ i, i < 2 ^ vs.length → bit p i = pos ps (val vs i)) ∧ (((ords vs.length).map entry).map (topP p)).Perm (((ords vs.length).map entry).map (abvP p)) := by
    have hl : ∀ i, i < 1 → bit 0 i = (fun m => pos ps (val vs m)) i := fun i hi => by
      obtain rfl : i = 0 := by omega
      rw [h0]; rfl
    have hc : vs.length = 2 ∨ vs.length = 3 ∨ vs.length = 4 := by omega
    rcases hc with e | e | e <;> rw [e]
    · rw [plan2_eq]
      exact good_sound hF plan2 lvs2 1 0 lvs2_ok good2 hl (by decide)
    · rw [plan3_eq]
      exact good_sound hF plan3 lvs3 1 0 lvs3_ok good3 hl (by decide)
    · rw [plan4_eq]
      exact good_sound hF plan4 lvs4 1 0 lvs4_ok good4 hl (by decide)
  have hf : ∀ m, m < 2 ^ vs.length → bit p m = pos ps (val vs m) := e2
  rw [List.map_map, List.map_map, show topP p ∘ entry = topM (bit p) from funext fun o => topP_eq p o, show abvP p ∘ entry = abvM (bit p) from funext fun o => abvP_eq p o] at e3
  have p' := e3.map (valO vs)
  rw [List.map_map, List.map_map] at p'
  have q1 : (ords vs.length).map (fun o => topV ps none (alongV none (gets vs o))) = (ords vs.length).map (valO vs ∘ topM (bit p)) := List.map_congr_left fun o ho =>
    let O := ords_ok h2 h4 ho
    top_mask ps vs o O.nodup O.ok hf
  have q2 : (ords vs.length).map (fun o => aboveV ps vs (ringsO o)) = (ords vs.length).map (valO vs ∘ abvM (bit p)) := List.map_congr_left fun o ho =>
    let O := ords_ok h2 h4 ho
    abv_mask ps vs o O.rnodup O.rok O.rne hf
  rw [q1, q2]
  exact p'
end Mine
namespace Mine
open PySem PySem.W PyProof.Rows PySem.Calls PySem.Spec
variable {C : Cfg} {k : Nat} {ec : EC} {σ : Sto} {W W' : List Str}

def vecV (x : Int) : V3 := ⟨Int.fmod (x + 1) 3 - 1, Int.fmod (Int.fdiv x 3 + 1) 3 - 1, Int.fdiv x 9⟩
def lenM (n : Nat) : Int := min 4 (2 + Int.fdiv ((n : Int) + 1) 4)
def vecsV (xs : List Int) : List V3 := ((xs ++ [1, -1]).take (lenM xs.length).toNat).map vecV
def wideV (xs : List Int) : Bool := Int.fmod (Int.fdiv xs.length 2) 2 == 1
def colV (t i : Int) : Int := Int.fmod (Int.fdiv t 8 + (1 + Int.fmod (Int.fdiv t 24) 2) * i) 3
def colsV (t : Int) : List Int := [0, 1, 2].map (colV t)
def pickV (t c : Int) : Int × Int := (c, 1 - Int.fmod (Int.fdiv t (2 ^ c.toNat)) 2 * 2)
def picksV (t : Int) : List (Int × Int) := (colsV t).map (pickV t)
theorem lenM_eq (n : Nat) : lenM n = min 4 (2 + ((n : Int) + 1) / 4) := by unfold lenM; rw [Int.fdiv_eq_ediv_of_nonneg _ (by decide)]
theorem vecs_len (xs : List Int) : 2 ≤ (vecsV xs).length ∧ (vecsV xs).length ≤ 4 := by
  unfold vecsV
  rw [List.length_map, List.length_take, List.length_append, lenM_eq]
  simp only [List.length_cons, List.length_nil]
  omega
theorem col_ok (t i : Int) : 0 ≤ colV t i ∧ colV t i ≤ 2 := by
  unfold colV
  rw [Int.fmod_eq_emod_of_nonneg _ (by decide)]
  omega
theorem picks_ok (t : Int) : ∀ p ∈ picksV t, okPick p ∧ okWay p := by
  intro p hp
  unfold picksV colsV at hp
  rw [List.map_map] at hp
  obtain ⟨i, _, rfl⟩ := List.mem_map.mp hp
  refine ⟨col_ok t i, ?_⟩
  show (1 - Int.fmod _ 2 * 2 = 1) ∨ (1 - Int.fmod _ 2 * 2 = -1)
  rw [Int.fmod_eq_emod_of_nonneg _ (by decide)]
  omega
theorem cols_mem {t c : Int} (h : c ∈ colsV t) : 0 ≤ c ∧ c ≤ 2 := by
  obtain ⟨i, _, rfl⟩ := List.mem_map.mp h
  exact col_ok t i
theorem cols_012 {t c : Int} (h : c ∈ colsV t) : c = 0 ∨ c = 1 ∨ c = 2 := by
  have := cols_mem h
  omega
theorem V3d_inj : ∀ a b : V3, a.d = b.d → a = b := fun a b e => by
  cases a; cases b
  simp only [V3.d, vecD, D.lst.injEq, List.cons.injEq, D.int.injEq] at e
  obtain ⟨h1, h2, h3, _⟩ := e
  rw [h1, h2, h3]

/-- what the law holds before its loops -/
abbrev lawB (t : Int) (w : Bool) (vs : List V3) (ps : List (Int × Int)) : Sto :=
  [("total", .dat (.int t)), ("wide", .dat (.bool w)), ("vectors", .dat (.lst (vs.map V3.d))), ("entries", .dat (.lst (vs.map fun v => sumD w (some v)))), ("picks", .dat (.lst (ps.map pickD))), ("comp", .dat (.cmp (.lst (ps.map pickD))))]

theorem zsetE {x : Str} {e : Expr} {d : D} {p pos : Pos} {rest : List Stmt} {Φ : Out → Prop} (h : V C k ec σ e d) (hr : St C k ec W (σ.set x (.dat d)) rest Φ) (hs : ∀ env, EnvOK ec env → swapsWith e (some (.Name x p)) pos.line env = pure false) (hx : okName ec W x = true := by rfl) :
    St C k ec W σ (.Assign [.Name x p] e pos :: rest) Φ := by
  have hr0 := hr.run
  refine ⟨xs_cons (fun A env h₀ ex s Q E hr he S hQ => ?_) (Φ := Φ)⟩
  refine wpAny_Assign_Name (h.run _ _ _ _ _ _ _ _ hr he S fun v s1 g1 r1 => ?_) (hs env he)
  exact store_wp (sl := .dat d) he (S.go g1) (okName.of hx) r1 fun s2 g2 S2 => hQ _ _ (.next (σ.set x (.dat d))) hr0 ⟨rfl, S2⟩ (g1.gx.trans g2)

theorem z_law1 {code : Value} {qual : Str} (X : Defs C) (Y : CmpOK C) (xs : List Int) (hx : xs.length ≤ 100) {Φ : Out → Prop}
    (h : ∀ σ, Hs (lawB (sumI xs) (wideV xs) (vecsV xs) (picksV (sumI xs))) σ → St C (k + 4) ⟨law_scope, code, qual⟩ ["total", "wide", "vectors", "entries"] σ (law_body.drop 7) Φ) :
    St C (k + 4) ⟨law_scope, code, qual⟩ ["total", "wide", "vectors", "entries"] (argSto ["script"] [.lst (xs.map .int)]) law_body Φ := by
  refine zset (vsum X.B.bsum.bn (vr (by rfl))) ?_
  refine zset (vcmp (vmod (vdiv (vlenn (n := xs.length) X.B.blen.bn (V.e (ds := xs.map .int) (vr (by rfl))) (by simp) (by omega)) vint) vint) vint ceq) ?_
  refine zsetE (d := .lst (((xs ++ [1, -1]).take (lenM xs.length).toNat).map fun x => (vecV x).d)) (lmapA (ps := (xs ++ [1, -1]).take (lenM xs.length).toNat) [] [] D.int (fun x => (vecV x).d) int_inj (ilistn ?_) trivial (fun x hx τ h1 h2 => vcall X.vector (fv_vector X x) (s1 (vr h1))) ?_).v ?_ (fun env he => by cases env; cases he.sc; rfl)
  · rw [List.map_take, List.map_append]
    refine (lupto (lcat (V.e (ds := xs.map .int) (vr (by rfl))) (llist (sc vint (s1 (vneg vint)))).e (by simp; omega)).e (vmin X.B.bmin.bn vint (vadd vint (vdiv (vadd (vlenn (n := xs.length) X.B.blen.bn (V.e (ds := xs.map .int) (vr (by rfl))) (by simp) (by omega)) vint) vint))) (by rw [Int.fdiv_eq_ediv_of_nonneg _ (by decide)]; omega) (by simp; omega)).v
  · rw [List.length_take, List.length_append]; simp; omega
  have ev : ((xs ++ [1, -1]).take (lenM xs.length).toNat).map (fun x => (vecV x).d) = (vecsV xs).map V3.d := by unfold vecsV; rw [List.map_map]; rfl
  rw [ev]
  have hv := vecs_len xs
  refine zsetE (d := .lst ((vecsV xs).map fun v => sumD (wideV xs) (some v))) (lmapA (ps := vecsV xs) [("wide", .bool (wideV xs))] [] V3.d (fun v => sumD (wideV xs) (some v)) V3d_inj (ilistn (vr (by rfl))) ⟨rfl, trivial⟩ (fun v hv τ h1 h2 => vcall X.entry (fv_entry X (wideV xs) v) (sc (vr h1) (s1 (vr h2.1)))) (by omega)).v ?_ (fun env he => by cases env; cases he.sc; rfl)
  refine zmapA (ps := [0, 1, 2]) [("total", .int (sumI xs))] [] D.int (fun i => .int (colV (sumI xs) i)) int_inj (irange1 X.B.brange.bn vint (by decide) (by decide)) ⟨rfl, trivial⟩ (fun i hi τ h1 h2 => vmod (vadd (vdiv (vr h2.1) vint) (vmul (vadd vint (vmod (vdiv (vr h2.1) vint) vint)) (vr h1) (.of_right ?_))) vint) (by decide) ?_ (fun env he => by cases env; cases he.sc; rfl)
  · rcases hi with _ | ⟨_, _ | ⟨_, _ | ⟨_, hi⟩⟩⟩ <;> first | decide | cases hi
  refine zmapA (ps := colsV (sumI xs)) [("total", .int (sumI xs))] [] D.int (fun c => pickD (pickV (sumI xs) c)) int_inj (ilistn (vr (by rfl))) ⟨rfl, trivial⟩ (fun c hc τ h1 h2 => vtup (sc (vr h1) (s1 (vsub vint (vmul (vmod (vdiv (vr h2.1) (vpow vint (vr h1) ?_ ?_) ?_ ?_) vint) vint (.of_right (by decide))))))) (by simp [colsV]) ?_ (fun env he => by cases env; cases he.sc; rfl)
  · exact (cols_mem hc).1
  · rcases cols_012 hc with rfl | rfl | rfl <;> decide
  · rcases cols_012 hc with rfl | rfl | rfl <;> decide
  · rcases cols_012 hc with rfl | rfl | rfl <;> decide
  have ep : (colsV (sumI xs)).map (fun c => pickD (pickV (sumI xs) c)) = (picksV (sumI xs)).map pickD := by unfold picksV; rw [List.map_map]; rfl
  rw [ep]
  refine zset (vmake Y (vr (by rfl))) (h _ ?_)
  exact Hs.sub (Hs.refl _) ⟨rfl, rfl, rfl, rfl, rfl, rfl, trivial⟩
end Mine
namespace Mine
open PySem PySem.W PyProof.Rows PySem.Calls PySem.Spec
variable {C : Cfg} {k : Nat} {ec : EC} {σ : Sto} {W W' : List Str}

theorem ent_get {w : Bool} {vs : List V3} {j : Nat} {d : D} (h : (vs.map fun v => sumD w (some v))[j]? = some d) : ∃ v, d = sumD w (some v) := by
  rw [List.getElem?_map, Option.map_eq_some_iff] at h
  obtain ⟨v, _, rfl⟩ := h
  exact ⟨v, rfl⟩
theorem z_law2 {code : Value} {qual : Str} (X : Defs C) (Y : CmpOK C) (t : Int) (w : Bool) (vs : List V3) (ps : List (Int × Int)) (hp : ∀ p ∈ ps, okPick p) (hw : ∀ p ∈ ps, okWay p) (hl : ps.length ≤ 100) {Φ : Out → Prop} (K : Hs (lawB t w vs ps) σ)
    (h : ∀ σ, Hs (lawB t w vs ps) σ → St C (k + 4) ⟨law_scope, code, qual⟩ ["total", "wide", "vectors", "entries"] σ (law_body.drop 8) Φ) :
    St C (k + 4) ⟨law_scope, code, qual⟩ ["total", "wide", "vectors", "entries"] σ (law_body.drop 7) Φ := by
  refine zfor (fun i τ => Hs (lawB t w vs ps) τ) (ilistn (vr (K _ _ rfl))) K (fun i τ d hI hd => ⟨_, tname, ?_⟩) fun τ hI => h τ hI
  obtain ⟨u, rfl⟩ := ent_get hd
  have K1 := hI.set "one" (.dat (sumD w (some u)))
  generalize τ.set "one" (.dat (sumD w (some u))) = τ1 at K1
  refine zfor (fun i τ => Hs (("one", .dat (sumD w (some u))) :: lawB t w vs ps) τ) (ilistn (vr (K1 _ _ rfl))) (K1.sub ⟨rfl, rfl, rfl, rfl, rfl, rfl, rfl, trivial⟩) (fun i τ d hI hd => ⟨_, tname, ?_⟩) fun τ hI => znil (hI.sub ⟨rfl, rfl, rfl, rfl, rfl, rfl, trivial⟩)
  obtain ⟨v, rfl⟩ := ent_get hd
  have K2 := hI.set "other" (.dat (sumD w (some v)))
  generalize τ.set "other" (.dat (sumD w (some v))) = τ2 at K2
  refine zset (vcompare Y (Fv.mono (fv_compare (k := 0) Y ps hp w (some u) (some v)) (by omega)) (K2 _ _ rfl) (sc (vr (K2 _ _ rfl)) (s1 (vr (K2 _ _ rfl))))) ?_
  have K3 := K2.set "answer" (.dat (.int (cmpO ps (some u) (some v))))
  generalize τ2.set "answer" (.dat (.int (cmpO ps (some u) (some v)))) = τ3 at K3
  have hs : cmpO ps (some u) (some v) = signV (crd (some u)) (crd (some v)) ps := cmp_sign _ _ ps hw
  refine zif (tcongr (b' := false) (tor (tcmp (vr (K3 _ _ rfl)) (vcall X.sign (Fv.mono (fv_sign (k := 0) X ps hp hw hl w (some u) (some v)) (by omega)) (sc (vr (K3 _ _ rfl)) (sc (vr (K3 _ _ rfl)) (s1 (vr (K3 _ _ rfl)))))) cne) (fun _ => tnot (tv (vcall X.whole (Fv.mono (fv_whole (k := 0) X _) (by omega)) (s1 (vr (K3 _ _ rfl))))))) ?_) nofun fun _ => znil ?_
  · rw [← hs]; simp
  · exact K3.sub ⟨rfl, rfl, rfl, rfl, rfl, rfl, rfl, trivial⟩
end Mine
namespace Mine
open PySem PySem.W PyProof.Rows PySem.Calls PySem.Spec
variable {C : Cfg} {k : Nat} {ec : EC} {σ : Sto} {W W' : List Str}

/-- the greatest sum along an order, and the sum over its rings -/
def topO (ps : List (Int × Int)) (vs : List V3) (o : List Int) : Option V3 := topV ps none (alongV none (gets vs o))
def abvO (ps : List (Int × Int)) (vs : List V3) (o : List Int) : Option V3 := aboveV ps vs (ringsO o)
def topsD (w : Bool) (ps : List (Int × Int)) (vs : List V3) (i : Nat) : List D := ((ords vs.length).take i).map fun o => sumD w (topO ps vs o)
def ringD (w : Bool) (ps : List (Int × Int)) (vs : List V3) (i : Nat) : List D := ((ords vs.length).take i).map fun o => sumD w (abvO ps vs o)
theorem lgets {g : V3 → D} {vs : List V3} {o : List Int} {elt iter : Expr} {scope : Scope} {cpos : Pos} {x : Str} {p : Pos} (y : Str) (W' : List Str) (hok : okL vs.length o) (hl : o.length ≤ 1000) (hi : V C k ec σ iter (.lst (o.map .int))) (ho : σ.lookup y = some (.dat (.lst (vs.map g))))
    (h : ∀ i ∈ o, ∀ τ : Sto, At τ x (.int i) → At τ y (.lst (vs.map g)) → ∀ d, (vs.map g)[i.toNat]? = some d → 0 ≤ i → V C k (ec.comp scope) τ elt d)
    (hc : capB ec scope [y] W' = true := by rfl) (hx : okName (ec.comp scope) W' x = true := by rfl) (hxn : (accN :: [y]).contains x = false := by rfl)
    (hf : ∀ env v, foldedSetIterable iter env v = pure v := by intros; rfl) : Vl C k ec σ (.ListComp elt [⟨.Name x p, iter, [], 0⟩] scope cpos) ((gets vs o).map g) := by
  have e : (gets vs o).map g = o.map fun i => g (vs[i.toNat]?.getD ⟨0, 0, 0⟩) := by unfold gets; rw [List.map_map]; rfl
  rw [e]
  refine lmapA (ps := o) [(y, .lst (vs.map g))] W' D.int (fun i => g (vs[i.toNat]?.getD ⟨0, 0, 0⟩)) int_inj (ilistn hi) ⟨ho, trivial⟩ (fun i hi τ h1 h2 => ?_) hl hc hx hxn hf
  obtain ⟨i0, i1⟩ := hok i hi
  have hlt : i.toNat < vs.length := by omega
  refine h i hi τ h1 h2.1 _ ?_ i0
  rw [List.getElem?_map, List.getElem?_eq_getElem hlt]; rfl

theorem z_law3 {code : Value} {qual : Str} (X : Defs C) (Y : CmpOK C) (t : Int) (w : Bool) (vs : List V3) (ps : List (Int × Int)) (hp : ∀ p ∈ ps, okPick p) (h2 : 2 ≤ vs.length) (h4 : vs.length ≤ 4) {Φ : Out → Prop} (K : Hs (lawB t w vs ps) σ)
    (h : ∀ a b σ, Hs (("tops", .own a (topsD w ps vs (ords vs.length).length)) :: ("ringed", .own b (ringD w ps vs (ords vs.length).length)) :: lawB t w vs ps) σ → St C (k + 4) ⟨law_scope, code, qual⟩ ["total", "wide", "vectors", "entries"] σ (law_body.drop 11) Φ) :
    St C (k + 4) ⟨law_scope, code, qual⟩ ["total", "wide", "vectors", "entries"] σ (law_body.drop 8) Φ := by
  have hcnt := ords_count h4
  refine zown (ds := []) (llist s0) fun a => ?_
  refine zown (ds := []) (llist s0) fun b => ?_
  have K0 := (K.set "tops" (.own a [])).set "ringed" (.own b [])
  generalize (σ.set "tops" (.own a [])).set "ringed" (.own b []) = σ1 at K0
  refine zfor (fun i τ => Hs (("tops", .own a (topsD w ps vs i)) :: ("ringed", .own b (ringD w ps vs i)) :: lawB t w vs ps) τ) (ilistn (vcall X.orders (Fv.mono (fv_orders (k := 0) X vs.length h4) (by omega)) (s1 (vlenn X.B.blen.bn (V.e (vr (K0 _ _ rfl))) (by simp) (by omega))))) (K0.sub ⟨rfl, rfl, rfl, rfl, rfl, rfl, rfl, rfl, trivial⟩) (fun i τ d hI hd => ⟨_, tname, ?_⟩) fun τ hI => h a b τ (by rwa [List.length_map] at hI)
  rw [List.getElem?_map, Option.map_eq_some_iff] at hd
  obtain ⟨o, ho, rfl⟩ := hd
  have hom := List.mem_of_getElem? ho
  have O := ords_ok h2 h4 hom
  have hol := ords_len _ _ hom
  have hi := getlt ho
  have K1 := hI.set "order" (.dat (ordD o))
  generalize τ.set "order" (.dat (ordD o)) = τ1 at K1
  refine zset (d := .lst ((alongV none (gets vs o)).map (sumD w))) (vcall X.along (Fv.mono (fv_along (k := 0) X w (gets vs o) (by rw [gets_len]; omega)) (by omega)) (s1 (lgets (g := fun v => sumD w (some v)) "entries" [] O.ok (by omega) (vr (K1 _ _ rfl)) (K1 _ _ rfl) fun i hi τ e1 e2 d e3 e4 => vitem (n := i) (V.e (vr e2)) (vr e1) e4 e3 (by simp; omega)).v)) ?_
  have K2 := K1.set "sums" (.dat (.lst ((alongV none (gets vs o)).map (sumD w))))
  generalize τ1.set "sums" (.dat (.lst ((alongV none (gets vs o)).map (sumD w)))) = τ2 at K2
  have hal : (alongV none (gets vs o)).length = o.length + 1 := by rw [along_len, gets_len]
  have hh0 : (alongV none (gets vs o))[0]? = some none := by cases gets vs o <;> rfl
  refine zfor (fun _ τ => Hs (("sums", .dat (.lst ((alongV none (gets vs o)).map (sumD w)))) :: ("order", .dat (ordD o)) :: ("tops", .own a (topsD w ps vs i)) :: ("ringed", .own b (ringD w ps vs i)) :: lawB t w vs ps) τ) (irange2 (M := 1) (N := ((o.length + 1 : Nat) : Int)) X.B.brange.bn vint (vlenn X.B.blen.bn (V.e (vr (K2 _ _ rfl))) (by rw [List.length_map, hal]) (by omega)) (by decide) (by decide) (by omega) (by omega)) (K2.sub ⟨rfl, rfl, rfl, rfl, rfl, rfl, rfl, rfl, rfl, rfl, trivial⟩) (fun j τ d hI hd => ⟨_, tname, ?_⟩) fun τ hI => ?_
  · obtain ⟨hj, rfl⟩ := rangeD_get hd
    have hj' : j < o.length := by omega
    have hn : ((1 : Int) + j).toNat = j + 1 := by omega
    have K3 := hI.set "i" (.dat (.int (1 + j)))
    generalize τ.set "i" (.dat (.int (1 + j))) = τ3 at K3
    have hsum : ((alongV none (gets vs o)).map (sumD w))[((1 : Int) + j).toNat]? = some (sumD w (some (V3.sum (gets vs (o.take (j + 1)))))) := by
      rw [hn, List.getElem?_map, along_at0 _ _ (by rw [gets_len]; omega), gets_take]; rfl
    have okt : okL vs.length (o.take (j + 1)) := fun x hx => O.ok x (List.mem_of_mem_take hx)
    refine zif (tcmp (vitem (n := (1 : Int) + j) (V.e (vr (K3 _ _ rfl))) (vr (K3 _ _ rfl)) (by omega) hsum (by rw [List.length_map, hal]; omega)) (vcall X.entry (Fv.mono (fv_entry (k := 0) X w (V3.sum (gets vs (o.take (j + 1))))) (by omega)) (sc (vcall X.together (Fv.mono (fv_together (k := 0) X (gets vs (o.take (j + 1))) (by rw [gets_len, List.length_take]; omega)) (by omega)) (s1 (lgets (g := V3.d) "vectors" [] okt (by rw [List.length_take]; omega) ?_ (K3 _ _ rfl) fun i hi τ e1 e2 d e3 e4 => vitem (n := i) (V.e (vr e2)) (vr e1) e4 e3 (by simp; omega)).v)) (s1 (vr (K3 _ _ rfl))))) (cnes_same w _)) nofun fun _ => ?_
    · rw [List.map_take, ← hn]
      exact (lupto (n := (1 : Int) + j) (V.e (ds := o.map .int) (vr (K3 _ _ rfl))) (vr (K3 _ _ rfl)) (by omega) (by simp; omega)).v
    · rw [sumD_eq] at hsum
      generalize four (some (V3.sum (gets vs (o.take (j + 1))))) = q at hsum
      refine zif (tcongr (b' := false) (tcmp (lfiltA (ps := [q.1, q.2.1, q.2.2.1, q.2.2.2]) [] [] D.int D.int (fun _ => false) int_inj (itupn (vtupto (vitem (n := (1 : Int) + j) (V.e (vr (K3 _ _ rfl))) (vr (K3 _ _ rfl)) (by omega) hsum (by rw [List.length_map, hal]; omega)) vint (by decide) (by simp))) trivial (fun x hx τ h1 h2 => ⟨tnot (tv (vcall X.whole (Fv.mono (fv_whole (k := 0) X x) (by omega)) (s1 (vr h1)))), nofun⟩) (by simp)).v (llist s0).v cne0) (by simp)) nofun fun _ => znil ?_
      exact K3.sub ⟨rfl, rfl, rfl, rfl, rfl, rfl, rfl, rfl, rfl, rfl, trivial⟩
  · have ht : (topsD w ps vs i).length ≤ 24 := by unfold topsD; rw [List.length_map, List.length_take]; omega
    have hr : (ringD w ps vs i).length ≤ 24 := by unfold ringD; rw [List.length_map, List.length_take]; omega
    have et : topsD w ps vs (i + 1) = topsD w ps vs i ++ [sumD w (topO ps vs o)] := by unfold topsD; rw [List.take_succ, ho, List.map_append]; rfl
    have er : ringD w ps vs (i + 1) = ringD w ps vs i ++ [sumD w (abvO ps vs o)] := by unfold ringD; rw [List.take_succ, ho, List.map_append]; rfl
    refine zapp (d := sumD w (topO ps vs o)) (hI _ _ rfl) (vcall X.greatest (Fv.mono (fv_greatest (k := 0) X Y ps hp w (alongV none (gets vs o)) none hh0 (by omega)) (by omega)) (sc (vr (hI _ _ rfl)) (s1 (vr (hI _ _ rfl))))) (by omega) ?_
    have K3 := hI.set "tops" (.own a (topsD w ps vs i ++ [sumD w (topO ps vs o)]))
    generalize τ.set "tops" (.own a (topsD w ps vs i ++ [sumD w (topO ps vs o)])) = τ3 at K3
    refine zapp (d := sumD w (abvO ps vs o)) (K3 _ _ rfl) (vcall X.above (fv_above X Y w ps hp vs o (ringsO o) O.rings O.ring (by omega) (by omega) O.rlen) (sc (vr (K3 _ _ rfl)) (sc (vr (K3 _ _ rfl)) (s1 (vr (K3 _ _ rfl)))))) (by omega) (znil ?_)
    show Hs _ _
    rw [et, er]
    exact (K3.set "ringed" _).sub ⟨rfl, rfl, rfl, rfl, rfl, rfl, rfl, rfl, trivial⟩
end Mine
namespace Mine
open PySem PySem.W PyProof.Rows PySem.Calls PySem.Spec
variable {C : Cfg} {k : Nat} {ec : EC} {σ : Sto} {W W' : List Str}

/-- the three readers -/
structure RowOK (C : Cfg) where
  G : GetOK C
  a0 : Addr
  d0 : DescrOK C G "actual" a0 0
  a1 : Addr
  d1 : DescrOK C G "expected" a1 1
  a2 : Addr
  d2 : DescrOK C G "value" a2 2
def isSum (w : Bool) (d : D) : Prop := ∃ s, d = sumD w s
theorem sim_of_sum {w : Bool} {a b : D} (ha : isSum w a) (hb : isSum w b) (n : Nat) : sim (n + 3) a b = true := by
  obtain ⟨s, rfl⟩ := ha
  obtain ⟨t, rfl⟩ := hb
  exact sim_sum w s t n
theorem tup_of_sum {w : Bool} {a : D} (ha : isSum w a) : ∃ ds, a = .tup ds := by
  obtain ⟨s, rfl⟩ := ha
  exact ⟨_, sumD_eq w s⟩
theorem zip_self {α : Type} : ∀ (l : List α) (p : α × α), p ∈ l.zip l → p.1 = p.2 ∧ p.1 ∈ l
  | [], p, h => by simp at h
  | x :: l, p, h => by
    rw [List.zip_cons_cons] at h
    rcases List.mem_cons.mp h with rfl | h
    · exact ⟨rfl, .head _⟩
    · obtain ⟨h1, h2⟩ := zip_self l p h
      exact ⟨h1, .tail _ h2⟩
theorem sim_self {n : Nat} {l : List D} (h : ∀ d ∈ l, sim n d d = true) : sim (n + 1) (.lst l) (.lst l) = true := by
  unfold sim
  rw [List.all_eq_true]
  intro p hp
  obtain ⟨e, hm⟩ := zip_self l p hp
  rw [← e]; exact h _ hm
theorem sim_row {n : Nat} {a b : Int} {x : D} (h : sim n x x = true) : sim (n + 1) (.tup [.int a, .int b, x]) (.tup [.int a, .int b, x]) = true := by
  unfold sim
  cases n <;> simp [sim] at * <;> exact h
theorem cnel_same {n : Nat} {l : List D} (h : ∀ d ∈ l, sim n d d = true) (hn : n ≤ 90) : Cc C k .NotEq (.lst l) (.lst l) false := by
  have := cnel (C := C) (k := k) (n := n) (sim_self h) hn
  simpa using this

theorem z_law4 {code : Value} {qual : Str} (X : Defs C) (Z : MisOK C) (R : RowOK C) (t : Int) (w : Bool) (vs : List V3) (ps : List (Int × Int)) (h4 : vs.length ≤ 4) {l1 l3 : List D} (hl1 : l1.length ≤ 24) (hl3 : l3.length ≤ 24) (hs1 : ∀ d ∈ l1, isSum w d) (hs3 : ∀ d ∈ l3, isSum w d) (hc : ∀ d, cnt l1 d = cnt l3 d) {a b : Addr}
    (K : Hs (("tops", .own a l1) :: ("ringed", .own b l3) :: lawB t w vs ps) σ) : St C (k + 4) ⟨law_scope, code, qual⟩ ["total", "wide", "vectors", "entries"] σ (law_body.drop 11) fun o => o = .ret (.bool true) := by
  refine zfreeze (x := "tops") (K _ _ rfl) ?_
  have K1 := K.set "tops" (.dat (.lst l1))
  refine zfreeze (x := "ringed") (K1 _ _ rfl) ?_
  have K2 := K1.set "ringed" (.dat (.lst l3))
  clear K K1
  generalize (σ.set "tops" (.dat (.lst l1))).set "ringed" (.dat (.lst l3)) = σ2 at K2
  obtain ⟨l2, hl2⟩ : ∃ l2, l2 = vs.map fun v => sumD w (some v) := ⟨_, rfl⟩
  have hs2 : ∀ d ∈ l2, isSum w d := fun d hd => by
    subst hl2
    obtain ⟨v, _, rfl⟩ := List.mem_map.mp hd
    exact ⟨_, rfl⟩
  have hn2 : l2.length ≤ 4 := by subst hl2; rw [List.length_map]; exact h4
  rw [lawB, ← hl2] at K2
  have hs12 : ∀ d ∈ l1 ++ l2, isSum w d := fun d hd => (List.mem_append.mp hd).elim (hs1 d) (hs2 d)
  have hs13 : ∀ d ∈ l1 ++ l3, isSum w d := fun d hd => (List.mem_append.mp hd).elim (hs1 d) (hs3 d)
  refine zset (vcall X.rows (Fv.mono (fv_rows (k := 0) X l1 l2 (fun x hx y hy => sim_of_sum (hs12 x hx) (hs12 y hy) 2) (by omega) (by omega)) (by omega)) (sc (vr (K2 _ _ rfl)) (s1 (vr (K2 _ _ rfl))))) ?_
  have K3 := K2.set "due" (.dat (.lst (rowsN l1 l2 (l1 ++ l2).length)))
  generalize σ2.set "due" (.dat (.lst (rowsN l1 l2 (l1 ++ l2).length))) = σ3 at K3
  have hdl : (difN l1 l2).length ≤ 28 := by
    have := dif1_len l1 l2 l1.length
    have := dif2_len l1 l2 l2.length
    unfold difN
    rw [List.length_append]; omega
  refine zmap (ds := difN l1 l2) [] [] misT (ilistn (vcall X.diff (fv_diff X Z l1 l2 (fun x hx => tup_of_sum (hs12 x hx)) (fun x hx y hy => sim_of_sum (hs12 x hx) (hs12 y hy) 2) (by omega) (by omega)) (sc (vr (K3 _ _ rfl)) (s1 (vr (K3 _ _ rfl)))))) trivial (fun d hd τ h1 h2 => ?_) (by omega) ?_ (fun env he => by cases env; cases he.sc; rfl)
  · obtain ⟨m, n, x, rfl, hx⟩ := dif_rows l1 l2 d hd
    obtain ⟨ds, rfl⟩ := tup_of_sum (hs12 x hx)
    exact vtup (sc (vattr R.G R.d0 h1 (by decide) (by decide) rfl rfl) (sc (vattr R.G R.d1 h1 (by decide) (by decide) rfl rfl) (s1 (vattr R.G R.d2 h1 (by decide) (by decide) rfl rfl))))
  have hrow : ∀ d ∈ rowsN l1 l2 (l1 ++ l2).length, sim 6 d d = true := fun d hd => by
    rw [← told_due] at hd
    obtain ⟨e, he, rfl⟩ := List.mem_map.mp hd
    obtain ⟨m, n, x, rfl, hx⟩ := dif_rows l1 l2 e he
    exact sim_row (sim_of_sum (hs12 x hx) (hs12 x hx) 2)
  rw [told_due]
  have K4 := K3.set "told" (.dat (.lst (rowsN l1 l2 (l1 ++ l2).length)))
  generalize σ3.set "told" (.dat (.lst (rowsN l1 l2 (l1 ++ l2).length))) = σ4 at K4
  refine zif (tcmp (vr (K4 _ _ rfl)) (vr (K4 _ _ rfl)) (cnel_same hrow (by decide))) nofun fun _ => ?_
  refine zif (tcmp (vr (K4 _ _ rfl)) ?_ (cnel_same (l := l2) (n := 3) (fun x hx => sim_of_sum (hs2 x hx) (hs2 x hx) 0) (by decide))) nofun fun _ => ?_
  · rw [hl2]
    exact (lmapA (ps := vs) [("wide", .bool w)] [] V3.d (fun v => sumD w (some v)) V3d_inj (ilistn (vr (K4 _ _ rfl))) ⟨K4 _ _ rfl, trivial⟩ (fun v hv τ h1 h2 => vcall X.entry (Fv.mono (fv_entry (k := 0) X w v) (by omega)) (sc (vr h1) (s1 (vr h2.1)))) (by omega)).v
  refine zret (vcmp (vcall X.diff (fv_diff X Z l1 l3 (fun x hx => tup_of_sum (hs13 x hx)) (fun x hx y hy => sim_of_sum (hs13 x hx) (hs13 y hy) 2) (by omega) (by omega)) (sc (vr (K4 _ _ rfl)) (s1 (vr (K4 _ _ rfl))))) (llist s0).v ceq0) ?_
  rw [dif_none l1 l3 hc]; rfl
end Mine
namespace Mine
open PySem PySem.W PyProof.Rows PySem.Calls PySem.Spec
variable {C : Cfg} {k : Nat} {ec : EC} {σ : Sto} {W W' : List Str}

theorem fv_law (X : Defs C) (Y : CmpOK C) (Z : MisOK C) (R : RowOK C) (F : FnAt C law_body law_scope ["script"]) (xs : List Int) (hx : xs.length ≤ 100) : Fv C (k + 5) (.ref F.fa) [.lst (xs.map .int)] (.bool true) := by
  refine fv_fn (W := ["total", "wide", "vectors", "entries"]) F rfl (fun code qual => ?_) (fun x hx => ?_)
  · obtain ⟨v2, v4⟩ := vecs_len xs
    have hp := picks_ok (sumI xs)
    have hpl : (picksV (sumI xs)).length ≤ 100 := by simp [picksV, colsV]
    refine z_law1 X Y xs hx fun σ K => z_law2 X Y _ _ _ _ (fun p q => (hp p q).1) (fun p q => (hp p q).2) hpl K fun σ K => z_law3 X Y _ _ _ _ (fun p q => (hp p q).1) v2 v4 K fun a b σ K => ?_
    have hcnt := ords_count v4
    refine z_law4 X Z R _ _ _ _ v4 (by unfold topsD; rw [List.length_map, List.length_take]; omega) (by unfold ringD; rw [List.length_map, List.length_take]; omega) (fun d hd => ?_) (fun d hd => ?_) (fun d => ?_) K
    · obtain ⟨o, _, rfl⟩ := List.mem_map.mp hd
      exact ⟨_, rfl⟩
    · obtain ⟨o, _, rfl⟩ := List.mem_map.mp hd
      exact ⟨_, rfl⟩
    · refine cnt_perm ?_ d
      have p := (spitzer (fun p q => (hp p q).2) (vecsV xs) v2 v4).map (sumD (wideV xs))
      unfold topsD ringD
      rw [List.take_length]
      rw [List.map_map, List.map_map] at p
      exact p
  · simp only [List.mem_cons, List.not_mem_nil, or_false] at hx
    rcases hx with rfl | rfl | rfl | rfl <;> exact ⟨rfl, fun n => rfl⟩
end Mine
namespace Mine
open PySem PySem.W PyProof.Rows PySem.Calls PySem.Spec
variable {C : Cfg} {k : Nat} {ec : EC} {σ : Sto} {W W' : List Str}

def fdOf (K : Frag) (a : Addr) : FuncData := match K.lookup a with
  | some ⟨_, _, .func fd, _⟩ => fd
  | _ => default
abbrev fnObj (K : Frag) (a : Addr) : Obj := { cls := .type "function", data := .func (fdOf K a) }
/-- what is to be looked up of a def -/
structure Chk (K : Frag) (a : Addr) (body : List Stmt) (scope : Scope) (params : List Str) : Prop where
  at_ : K.lookup a = some (fnObj K a)
  stmts : (fdOf K a).body = .stmts body
  sc : (fdOf K a).scope = scope
  code : codeIn K (fdOf K a).code (fdOf K a).qualname = true
  gl : (fdOf K a).globals = mainGlobals
  bi : (fdOf K a).builtins = builtinsNs
  clo : (fdOf K a).closure = []
  bind : ∀ (S : Setting) (vs : List Value), vs.length = params.length → peek K S (bindArgs (fdOf K a) ⟨vs, []⟩) = some (params.zip vs)
theorem Chk.ok {a : Addr} {body : List Stmt} {scope : Scope} {params : List Str} (c : Chk C.K a body scope params)
    (kinds : ∀ p ∈ params, scope.names.lookup p = some .local ∨ (scope.names.lookup p = some .cell ∧ ∀ n, ((cellsFrom n scope.names []).lookup p).isSome = true)) (nodup : params.Nodup)
    (co : scope.isCoroutine = false := by rfl) (gen : scope.isGenerator = false := by rfl) (kind : scope.kind = .function := by rfl) : DefOK C a (fnObj C.K a) (fdOf C.K a) body params where
  at_ := c.at_
  data := rfl
  co := by rw [c.sc]; exact co
  gen := by rw [c.sc]; exact gen
  kind := by rw [c.sc]; exact kind
  stmts := c.stmts
  code := c.code
  gl := c.gl
  bi := c.bi
  clo := c.clo
  kinds := by rw [c.sc]; exact kinds
  nodup := nodup
  bind := fun s vs X hl M A E Q q => (Looks.of_peek (M := M) X (c.bind _ vs hl)).here q
theorem len1 {α : Type} {l : List α} (h : l.length = 1) : ∃ a, l = [a] := by
  match l, h with
  | [a], _ => exact ⟨a, rfl⟩
theorem len2 {α : Type} {l : List α} (h : l.length = 2) : ∃ a b, l = [a, b] := by
  match l, h with
  | [a, b], _ => exact ⟨a, b, rfl⟩
theorem len3 {α : Type} {l : List α} (h : l.length = 3) : ∃ a b c, l = [a, b, c] := by
  match l, h with
  | [a, b, c], _ => exact ⟨a, b, c, rfl⟩
theorem len4 {α : Type} {l : List α} (h : l.length = 4) : ∃ a b c d, l = [a, b, c, d] := by
  match l, h with
  | [a, b, c, d], _ => exact ⟨a, b, c, d, rfl⟩

/-- the script as the claim lays it -/
theorem well_ints {P : Params} {h : Heap} : ∀ {xs : List Int} {vs : List Value}, WellAll P h vs (xs.map fun i => WData.int i) → RepL C h [] (xs.map .int) vs
  | [], vs, r => by cases r; exact .nil
  | x :: xs, vs, r => by
    cases r with
    | cons r1 r2 =>
      cases r1
      exact .cons (by simp only [Rep]; exact ⟨_, rfl⟩) (well_ints r2)
theorem well_list {P : Params} {h : Heap} {xs : List Int} {v : Value} (r : Well P h v (.list (xs.map fun i => WData.int i))) : Rep C h [] (.lst (xs.map .int)) v := by
  cases r with
  | list h1 h2 =>
    simp only [Rep]
    exact ⟨_, _, 0, rfl, List.not_mem_nil, h1, well_ints h2⟩

theorem room_caller : Room 5 callerA := ⟨rfl, by decide +kernel, by decide +kernel⟩
theorem bi_of {p : Program} {loose : List Str} {mean : ExcName → Option Value} {mg mb : Str → Option Value} {h : Heap} {P : Addr} {ps : Array Value} (T : Top p loose mean mg mb h) (hP : h.get? P = some (tabObj ps)) : h.BuiltinsAt mg P := by
  obtain ⟨bm, ob, b1, b2, b3, b4, b5, b6⟩ := T.bmain
  have hbP : bm ≠ P := fun q => by
    rw [q, hP] at b3; cases b3; cases b4
  have hbG : bm ≠ mainGlobals := fun q => by
    obtain ⟨o, es, ep, e, hd, _⟩ := T.g
    rw [q, e] at b3; cases b3; rw [hd] at b6; cases b6
  exact ⟨bm, ob, b1, b2, hbG, hbP, b3, b4, b5, b6⟩
theorem old_of {s s' : Shared} (g : Go C s s') (hd : CodeHd s.heap C.cA C.P) (hP : s.heap.get? C.P = some (tabObj #[])) : OldK s.heap s'.heap := by
  obtain ⟨ps, hp, _⟩ := g.tab ⟨#[], hP, .inl rfl⟩
  refine ⟨fun b o e => ?_, fun b o e => ?_⟩
  · by_cases hb : b = C.P
    · subst hb
      rw [hP] at e
      cases e
      exact .inr (.inl ⟨(hd.tab hP).isCodeTable, rfl, #[], ps, rfl, by rw [Array.empty_append]; exact hp⟩)
    · exact .inl (g.ext b o hb e)
  · by_cases hb : b = C.P
    · exact ⟨_, hb ▸ hp⟩
    · exact ⟨o, g.ext b o hb e⟩
theorem law_end {c : ClaimW} {cl : Str → Option Addr} {mean : ExcName → Option Value} {args : List WData} {s₁ : Shared} {fa : Addr} {v : Value} {xs : List Int} (hf : Fv C 5 (.ref fa) [.lst (xs.map .int)] (.bool true))
    (g1 : G1 C s₁.heap) (hP : s₁.heap.get? C.P = some (tabObj #[])) (hg : s₁.gens = #[]) (hv : Rep C s₁.heap [] (.lst (xs.map .int)) v) (hr : ∀ cls, c.raises args cls = false) (hp : c.post args (.bool true) args = true) :
    wpAny (model C.prog C.w) callerA (call (.ref fa) [v]) (fun v s' => GoodWG c cl mean args s₁ (.ok (.ret v)) s') (fun e s' => GoodWG c cl mean args s₁ (.error e) s') s₁ := by
  refine hf.run _ [] _ _ _ _ ⟨room_caller, g1, ⟨#[], hP, .inl rfl⟩, fun a ha => nomatch ha⟩ List.nodup_nil (RepL.one hv) fun r s' g rr => ?_
  simp only [Rep] at rr
  subst rr
  exact ⟨.inl ⟨_, .bool true, [], rfl, hr, .bool true, hp, fun _ => ⟨List.nodup_nil, fun a ha => nomatch ha⟩⟩, old_of g g1.hd hP, g.os, g.bare (.of_eq hg)⟩
end Mine
namespace Mine
open PySem PySem.W PyProof.Rows PySem.Calls PySem.Spec Builtin Builtin.ObjectAttr

abbrev pw : Program := PySem.Challenge.rw_ij0073_01.row.prog
def lawView : Program := view pw [22]
def lawLoose : List Str := ["_wall", "TupleComp", "add_func_stats", "add_callers", "_tuplegetter", "Mismatch", "_Mismatch", "_count_diff_all_purpose", "_law_vector", "_law_entry", "_law_together", "_law_orders", "_law_along", "_law_greatest", "_law_rings", "_law_above", "_law_sign", "_law_whole", "_law_rows"]
def lawXt (s : Shared) : Bool := xlAt lawView [] s && recOk PySem.Challenge.rw_ij0073_01.row.records s
def asL : List Addr := [2, 3, 15, 17, 18, 20, 21, 29, 31, 32, 34, 35, 36, 38, 39, 41, 42, 43, 44, 45, 46, 47, 50, 52, 53, 55, 56, 57, 59, 60, 62, 63, 71, 73, 74, 76, 77, 78, 79, 81, 82, 84, 85, 86, 88, 89, 91, 92, 93, 95, 96, 98, 99, 100, 101, 102, 103, 104, 107, 110, 115, 116, 117, 118, 120, 121, 123, 124, 125, 127, 128, 130, 131, 132, 133, 134, 135, 136, 138, 139, 141, 142, 143, 145, 146, 148, 149, 150, 152, 153, 155, 156, 157, 159, 160, 162, 163, 164, 165, 166, 168, 169, 171, 172, 174, 176, 177, 178, 181, 183, 184, 186, 187, 188, 190, 191, 193, 194, 195, 197, 198, 200, 201, 202, 205, 206, 207, 210, 211, 212, 214, 215, 217, 218, 219, 221, 222, 224, 225, 226, 229, 230, 231, 234, 235, 236, 239, 240, 241, 243, 244, 246, 247, 248, 250, 251, 253, 254, 255, 258, 259]
def fragOf (h : Heap) : Frag := asL.filterMap fun a => (h.get? a).map fun o => (a, o)
def fnL : List Addr := [56, 63, 194, 201, 206, 211, 218, 225, 230, 235, 240, 247, 254, 187, 259, 35, 42, 85, 124]
def fnB (K : Frag) (a : Addr) : Bool := (match K.lookup a with
    | some ⟨.type t, none, .func _, sl⟩ => t == "function" && sl.toList.isEmpty
    | _ => false) && codeIn K (fdOf K a).code (fdOf K a).qualname && (fdOf K a).globals == mainGlobals && (fdOf K a).builtins == builtinsNs && (fdOf K a).closure.isEmpty
def descrB (K : Frag) (da dx : Addr) : Bool := (match K.lookup da with
    | some o => o.cls == .ref 102 && notCls o && o.dict == some dx
    | none => false) && (K.lookup dx).isSome
def objAt (K : Frag) (a : Addr) : Obj := (K.lookup a).getD emptyDict
def idxAt (K : Frag) (dx : Addr) : Option Int := match findObj K 102 (some (objAt K dx)) "index" with
  | some (Found.value (.int i _)) => some i
  | _ => none
abbrev Bd := Option (List (Str × Value))
def see0 (K : Frag) : Bool := noTabs K && codeHdIn K 62 58 && fnL.all (fnB K) && plainGet K 45 cCmp && plainGet K 45 cSel && hasDictIn K 45 && makesIn K 45 && isFn K (.ref 42) && keepIn K (.ref 42) && keepIn K (.ref 45) && plainOver K 45 && misIn K 177 && readsIn K 177 (.type "type") && keepIn K (.ref 177) && plainGet K 102 "index" && descrB K 166 165 && descrB K 169 168 && descrB K 172 171
def due0 : Bool := true
def see1 (K : Frag) : List (FuncBody × Scope) := fnL.map fun a => ((fdOf K a).body, (fdOf K a).scope)
def due1 : List (FuncBody × Scope) := [(.stmts stats_body, stats_scope), (.stmts callers_body, callers_scope), (.stmts vector_body, vector_scope), (.stmts entry_body, entry_scope), (.stmts together_body, together_scope), (.stmts orders_body, orders_scope), (.stmts along_body, along_scope), (.stmts greatest_body, greatest_scope), (.stmts rings_body, rings_scope), (.stmts above_body, above_scope), (.stmts sign_body, sign_scope), (.stmts whole_body, whole_scope), (.stmts rows_body, rows_scope), (.stmts diff_body, diff_scope), (.stmts law_body, law_scope), (.stmts init_body, init_scope), (.stmts compare_body, compare_scope), (.stmts get_body, get_scope), (.stmts new_body, new_scope)]
def see2 (K : Frag) : List (Setting → Value → Bd) := [fun S x => peek K S (bindArgs (fdOf K 194) ⟨[x], []⟩), fun S x => peek K S (bindArgs (fdOf K 206) ⟨[x], []⟩), fun S x => peek K S (bindArgs (fdOf K 211) ⟨[x], []⟩), fun S x => peek K S (bindArgs (fdOf K 218) ⟨[x], []⟩), fun S x => peek K S (bindArgs (fdOf K 230) ⟨[x], []⟩), fun S x => peek K S (bindArgs (fdOf K 247) ⟨[x], []⟩), fun S x => peek K S (bindArgs (fdOf K 259) ⟨[x], []⟩)]
def due2 : List (Setting → Value → Bd) := [fun S x => some ((["x"] : List Str).zip [x]), fun S x => some ((["vectors"] : List Str).zip [x]), fun S x => some ((["n"] : List Str).zip [x]), fun S x => some ((["entries"] : List Str).zip [x]), fun S x => some ((["order"] : List Str).zip [x]), fun S x => some ((["x"] : List Str).zip [x]), fun S x => some ((["script"] : List Str).zip [x])]
def see3 (K : Frag) : List (Setting → Value → Value → Bd) := [fun S x y => peek K S (bindArgs (fdOf K 56) ⟨[x, y], []⟩), fun S x y => peek K S (bindArgs (fdOf K 63) ⟨[x, y], []⟩), fun S x y => peek K S (bindArgs (fdOf K 201) ⟨[x, y], []⟩), fun S x y => peek K S (bindArgs (fdOf K 225) ⟨[x, y], []⟩), fun S x y => peek K S (bindArgs (fdOf K 254) ⟨[x, y], []⟩), fun S x y => peek K S (bindArgs (fdOf K 187) ⟨[x, y], []⟩), fun S x y => peek K S (bindArgs (fdOf K 35) ⟨[x, y], []⟩)]
def due3 : List (Setting → Value → Value → Bd) := [fun S x y => some ((["target", "source"] : List Str).zip [x, y]), fun S x y => some ((["target", "source"] : List Str).zip [x, y]), fun S x y => some ((["vector", "wide"] : List Str).zip [x, y]), fun S x y => some ((["sums", "comp"] : List Str).zip [x, y]), fun S x y => some ((["one", "other"] : List Str).zip [x, y]), fun S x y => some ((["actual", "expected"] : List Str).zip [x, y]), fun S x y => some ((["self", "comp_select_list"] : List Str).zip [x, y])]
def see4 (K : Frag) : List (Setting → Value → Value → Value → Bd) := [fun S x y z => peek K S (bindArgs (fdOf K 235) ⟨[x, y, z], []⟩), fun S x y z => peek K S (bindArgs (fdOf K 240) ⟨[x, y, z], []⟩), fun S x y z => peek K S (bindArgs (fdOf K 42) ⟨[x, y, z], []⟩), fun S x y z => peek K S (bindArgs (fdOf K 85) ⟨[x, y, z], []⟩)]
def due4 : List (Setting → Value → Value → Value → Bd) := [fun S x y z => some ((["entries", "order", "comp"] : List Str).zip [x, y, z]), fun S x y z => some ((["one", "other", "picks"] : List Str).zip [x, y, z]), fun S x y z => some ((["self", "left", "right"] : List Str).zip [x, y, z]), fun S x y z => some ((["self", "obj", "objtype"] : List Str).zip [x, y, z])]
def see5 (K : Frag) : List (Setting → Value → Value → Value → Value → Bd) := [fun S x y z u => peek K S (bindArgs (fdOf K 124) ⟨[x, y, z, u], []⟩)]
def due5 : List (Setting → Value → Value → Value → Value → Bd) := [fun S x y z u => some ((["_cls", "actual", "expected", "value"] : List Str).zip [x, y, z, u])]
def see6 (K : Frag) : List (Option (Option Value)) := [findIn K (.ref 45) cCmp, findIn K (.ref 45) cSel, findIn K (.ref 45) "__init__", findIn K (.ref 45) "__setattr__", takerIn K 45 cSel, findIn K (.ref 177) "__getattribute__", findIn K (.ref 177) "__getattr__", nsIn K mainGlobals "TupleComp", nsIn K mainGlobals "_Mismatch", nsIn K mainGlobals "law", nsIn K mainGlobals "add_func_stats", nsIn K mainGlobals "add_callers", nsIn K mainGlobals "_law_vector", nsIn K mainGlobals "_law_entry", nsIn K mainGlobals "_law_together", nsIn K mainGlobals "_law_orders", nsIn K mainGlobals "_law_along", nsIn K mainGlobals "_law_greatest", nsIn K mainGlobals "_law_rings", nsIn K mainGlobals "_law_above", nsIn K mainGlobals "_law_sign", nsIn K mainGlobals "_law_whole", nsIn K mainGlobals "_law_rows", nsIn K mainGlobals "_count_diff_all_purpose", nsIn K mainGlobals "len", nsIn K mainGlobals "sum", nsIn K mainGlobals "min", nsIn K mainGlobals "abs", nsIn K mainGlobals "isinstance", nsIn K mainGlobals "list", nsIn K mainGlobals "range", nsIn K mainGlobals "tuple", nsIn K mainGlobals "zip", nsIn K mainGlobals "enumerate", nsIn K mainGlobals "object", nsIn K mainGlobals "int", nsIn K mainGlobals "bool", nsIn K mainGlobals "type", nsIn K mainGlobals "issubclass"]
def due6 : List (Option (Option Value)) := [some (some (.ref 42)), some none, some (some (.ref 35)), some (some (.builtin "object.__setattr__")), some none, some (some (.builtin "tuple.__getattribute__")), some none, some (some (.ref 45)), some (some (.ref 177)), some (some (.ref 259)), some (some (.ref 56)), some (some (.ref 63)), some (some (.ref 194)), some (some (.ref 201)), some (some (.ref 206)), some (some (.ref 211)), some (some (.ref 218)), some (some (.ref 225)), some (some (.ref 230)), some (some (.ref 235)), some (some (.ref 240)), some (some (.ref 247)), some (some (.ref 254)), some (some (.ref 187)), some none, some none, some none, some none, some none, some none, some none, some none, some none, some none, some none, some none, some none, some none, some none]
def see7 (K : Frag) : List (Option Value) := [typeIn K (.ref 35), some (fdOf K 63).code, (recIn K 178 "staticmethod").bind fun l => l.head?]
def due7 : List (Option Value) := [some (.type "function"), some (.ref 62), some (.ref 124)]
def see8 (K : Frag) : Option CFound := findCls K (.ref 177) (.type "type") "__new__"
def due8 : Option CFound := some (.get (.builtin "staticmethod.__get__") (.ref 178) .none (.ref 177))
def see9 (K : Frag) : List (Option Int) := [idxAt K 165, idxAt K 168, idxAt K 171]
def due9 : List (Option Int) := [some 0, some 1, some 2]
def see10 (K : Frag) : List (Option Found) := [findObj K 177 (some emptyDict) "actual", findObj K 177 (some emptyDict) "expected", findObj K 177 (some emptyDict) "value"]
def due10 : List (Option Found) := [some (.bind (.ref 85) (.ref 166)), some (.bind (.ref 85) (.ref 169)), some (.bind (.ref 85) (.ref 172))]
abbrev Sight := (Bool) × (List (FuncBody × Scope)) × (List (Setting → Value → Bd)) × (List (Setting → Value → Value → Bd)) × (List (Setting → Value → Value → Value → Bd)) × (List (Setting → Value → Value → Value → Value → Bd)) × (List (Option (Option Value))) × (List (Option Value)) × (Option CFound) × (List (Option Int)) × (List (Option Found)) × Option Obj
def sees (h : Heap) : Sight := (see0 (fragOf h), see1 (fragOf h), see2 (fragOf h), see3 (fragOf h), see4 (fragOf h), see5 (fragOf h), see6 (fragOf h), see7 (fragOf h), see8 (fragOf h), see9 (fragOf h), see10 (fragOf h), h.get? 58)
def dues : Sight := (due0, due1, due2, due3, due4, due5, due6, due7, due8, due9, due10, some (tabObj #[]))
/-- the heap between the top's pieces, text by place -/
def sV (s : Str) (t : Tok) : Value := .str s t
def dE (P : Params) (s : Str) (t : Tok) (v : Value) : DictEntry := ⟨PyData.keyHash P s, .str s t, v⟩
def docS (st : Stmt) : Str := (docOf (bodyOf st)).getD Str.empty
/-- the long docstring, spelt out once: the kernel is slow at a long string literal -/
def codesOf {x : Str} {s : String} {cs : List Char} (_ : x = Str.ofString s) (_ : s = String.ofList cs) : List Char := cs
theorem of_codes {x : Str} {s : String} {cs : List Char} (h1 : x = Str.ofString s) (h2 : s = String.ofList cs) : x = ⟨((codesOf h1 h2).map Char.toNat).toArray⟩ := by
  subst h1 h2; exact PySem.W.Fast.ofString_ofList cs
def docD : Str := ⟨((codesOf (x := docS (topAt 2)) (s := _) (cs := _) rfl rfl).map Char.toNat).toArray⟩
theorem docD_eq : docS (topAt 2) = docD := of_codes (x := docS (topAt 2)) (s := _) (cs := _) rfl rfl
def setDoc (d : Str) : Stmt → Stmt
  | .ClassDef a b c (.Expr (.Constant (.str _) n p) q :: r) e f g h i j k => .ClassDef a b c (.Expr (.Constant (.str d) n p) q :: r) e f g h i j k
  | st => st
theorem tc_eq : topAt 2 = setDoc docD (topAt 2) := by
  have h : setDoc (docS (topAt 2)) (topAt 2) = topAt 2 := by kernel_rfl
  rw [docD_eq] at h
  exact h.symm
def argS : Stmt → Str
  | .Assign _ (.Call _ [_, .Constant (.str s) _ _] _ _) _ => s
  | _ => Str.empty
def paramsOf : Stmt → Arguments
  | .FunctionDef _ p _ _ _ _ _ _ _ _ => p
  | _ => default
noncomputable def obA11 (P : Params) : Obj := ⟨(.type "tuple"), none, (.seq #[] 0), #[]⟩
noncomputable def obA12 (P : Params) : Obj := ⟨.none, none, (.fields #[]), #[]⟩
noncomputable def obA13 (P : Params) : Obj := ⟨(.type "code"), none, (.fields #[(sV "<module>" 182), (sV "<module>" 183), (sV "/claim/cut.py" 184), (.int 1 0), (.int 0 0), (.int 0 0), (.int 0 0), (.int 0 0), (.ref 11), (.bool false), (.int 181 0), (.ref 12), .none, .none, .none, .none, (.int 185 0), (.int 1 0), (sV "/claim/cut.py" 186)]), #[]⟩
noncomputable def obA14 (P : Params) : Obj := ⟨(.type "frame"), none, .plain, #[some (.ref 13), some (.ref 3), some (.ref 3), none, some (sV "__main__" 164), none, some (.ref 0)]⟩
noncomputable def heapA (P : Params) : Heap := ⟨#[boot_o_0 P, boot_o_1 P, boot_o_2 P, boot_o_3 P, boot_o_4 P, boot_o_5 P, boot_o_6 P, boot_o_7 P, boot_o_8 P, boot_o_9 P, boot_o_10 P, obA11 P, obA12 P, obA13 P, obA14 P], {}⟩
noncomputable def obC3 (P : Params) : Obj := ⟨(.type "dict"), none, (.dict #[dE P "__name__" 165 (sV "cpy313.pstats" 194), dE P "__doc__" 166 .none, dE P "__package__" 167 .none, dE P "__loader__" 168 (.builtin "__main__.__loader__#opaque"), dE P "__spec__" 169 .none, dE P "__annotations__" 170 (.ref 6), dE P "__builtins__" 171 (.ref 4), dE P "__file__" 173 (sV "/claim/cut.py" 172), dE P "__cached__" 174 .none, dE P "_wall" 193 (.ref 21), dE P "TupleComp" 239 (.ref 45)] 11), #[]⟩
noncomputable def obC12 (P : Params) : Obj := ⟨.none, none, (.fields #[(.int 1 0), (.int 0 0), (.ref 20), (.int 5 0), (.int 0 0), (.ref 27)]), #[]⟩
noncomputable def obC15 (P : Params) : Obj := ⟨(.type "tuple"), none, (.seq #[] 0), #[]⟩
noncomputable def obC16 (P : Params) : Obj := ⟨.none, none, (.fields #[]), #[]⟩
noncomputable def obC17 (P : Params) : Obj := ⟨(.type "tuple"), none, (.seq #[(sV "k" 190)] 0), #[]⟩
noncomputable def obC18 (P : Params) : Obj := ⟨(.type "tuple"), none, (.seq #[] 0), #[]⟩
noncomputable def obC19 (P : Params) : Obj := ⟨.none, none, (.func ⟨"_wall", "_wall", paramsOf (topAt 0), .stmts (bodyOf (topAt 0)), scopeOf (topAt 0), 0, [], .none, .none, .none, .none, none, .none, .none, 0⟩), #[]⟩
noncomputable def obC20 (P : Params) : Obj := ⟨(.type "code"), none, (.fields #[(sV "_wall" 187), (sV "_wall" 188), (sV "/claim/cut.py" 189), (.int 1 0), (.int 1 0), (.int 0 0), (.int 0 0), (.int 3 0), (.ref 15), (.bool true), (.int 181 0), (.ref 16), .none, (.ref 17), (.ref 18), (.ref 19), (.int 191 0), (.int 1 0), (sV "/claim/cut.py" 192)]), #[]⟩
noncomputable def obC21 (P : Params) : Obj := ⟨(.type "function"), none, (.func ⟨"_wall", "_wall", paramsOf (topAt 0), .stmts (bodyOf (topAt 0)), scopeOf (topAt 0), 3, [], .none, .none, .none, (sV "__main__" 164), none, (.ref 20), .none, 0⟩), #[]⟩
noncomputable def obC22 (P : Params) : Obj := ⟨(.type "tuple"), none, (.seq #[] 0), #[]⟩
noncomputable def obC23 (P : Params) : Obj := ⟨(.type "builtin_function_or_method"), none, (.fields #[(.builtin "type.__prepare__"), (.type "type")]), #[]⟩
noncomputable def obC24 (P : Params) : Obj := ⟨(.type "dict"), none, (.dict #[dE P "__module__" 203 (sV "cpy313.pstats" 194), dE P "__qualname__" 205 (sV "TupleComp" 204), dE P "__firstlineno__" 207 (.int 5 206), dE P "__doc__" 209 (sV docD 208), dE P "__init__" 218 (.ref 35), dE P "compare" 231 (.ref 42), dE P "__static_attributes__" 233 (.ref 43)] 7), #[]⟩
noncomputable def obC25 (P : Params) : Obj := ⟨(.type "tuple"), none, (.seq #[] 0), #[]⟩
noncomputable def obC26 (P : Params) : Obj := ⟨.none, none, (.fields #[(.int 13 0), (.int 4 0), (.ref 34), (.int 16 0), (.int 4 0), (.ref 41)]), #[]⟩
noncomputable def obC27 (P : Params) : Obj := ⟨(.type "code"), none, (.fields #[(sV "TupleComp" 198), (sV "TupleComp" 199), (sV "/claim/cut.py" 200), (.int 5 0), (.int 0 0), (.int 0 0), (.int 0 0), (.int 0 0), (.ref 25), (.bool false), (.int 181 0), (.ref 26), .none, .none, .none, .none, (.int 201 0), (.int 5 0), (sV "/claim/cut.py" 202)]), #[]⟩
noncomputable def obC28 (P : Params) : Obj := ⟨(.type "frame"), none, .plain, #[some (.ref 27), some (.ref 3), some (.ref 24), none, some (sV "cpy313.pstats" 194), none, some (.ref 0)]⟩
noncomputable def obC29 (P : Params) : Obj := ⟨(.type "tuple"), none, (.seq #[] 0), #[]⟩
noncomputable def obC30 (P : Params) : Obj := ⟨.none, none, (.fields #[]), #[]⟩
noncomputable def obC31 (P : Params) : Obj := ⟨(.type "tuple"), none, (.seq #[(sV "self" 214), (sV "comp_select_list" 215)] 0), #[]⟩
noncomputable def obC32 (P : Params) : Obj := ⟨(.type "tuple"), none, (.seq #[] 0), #[]⟩
noncomputable def obC33 (P : Params) : Obj := ⟨.none, none, (.func ⟨"__init__", "TupleComp.__init__", paramsOf (inClass 2 1), .stmts (bodyOf (inClass 2 1)), scopeOf (inClass 2 1), 0, [], .none, .none, .none, .none, none, .none, .none, 0⟩), #[]⟩
noncomputable def obC34 (P : Params) : Obj := ⟨(.type "code"), none, (.fields #[(sV "__init__" 211), (sV "TupleComp.__init__" 212), (sV "/claim/cut.py" 213), (.int 13 0), (.int 2 0), (.int 0 0), (.int 0 0), (.int 3 0), (.ref 29), (.bool true), (.int 181 0), (.ref 30), .none, (.ref 31), (.ref 32), (.ref 33), (.int 216 0), (.int 13 0), (sV "/claim/cut.py" 217)]), #[]⟩
noncomputable def obC35 (P : Params) : Obj := ⟨(.type "function"), none, (.func ⟨"__init__", "TupleComp.__init__", paramsOf (inClass 2 1), .stmts (bodyOf (inClass 2 1)), scopeOf (inClass 2 1), 3, [], .none, .none, .none, (sV "cpy313.pstats" 194), none, (.ref 34), .none, 0⟩), #[]⟩
noncomputable def obC36 (P : Params) : Obj := ⟨(.type "tuple"), none, (.seq #[] 0), #[]⟩
noncomputable def obC37 (P : Params) : Obj := ⟨.none, none, (.fields #[]), #[]⟩
noncomputable def obC38 (P : Params) : Obj := ⟨(.type "tuple"), none, (.seq #[(sV "self" 222), (sV "left" 223), (sV "right" 224), (sV "index" 225), (sV "direction" 226), (sV "l" 227), (sV "r" 228)] 0), #[]⟩
noncomputable def obC39 (P : Params) : Obj := ⟨(.type "tuple"), none, (.seq #[] 0), #[]⟩
noncomputable def obC40 (P : Params) : Obj := ⟨.none, none, (.func ⟨"compare", "TupleComp.compare", paramsOf (inClass 2 2), .stmts (bodyOf (inClass 2 2)), scopeOf (inClass 2 2), 0, [], .none, .none, .none, .none, none, .none, .none, 0⟩), #[]⟩
noncomputable def obC41 (P : Params) : Obj := ⟨(.type "code"), none, (.fields #[(sV "compare" 219), (sV "TupleComp.compare" 220), (sV "/claim/cut.py" 221), (.int 16 0), (.int 3 0), (.int 0 0), (.int 0 0), (.int 3 0), (.ref 36), (.bool true), (.int 181 0), (.ref 37), .none, (.ref 38), (.ref 39), (.ref 40), (.int 229 0), (.int 16 0), (sV "/claim/cut.py" 230)]), #[]⟩
noncomputable def obC42 (P : Params) : Obj := ⟨(.type "function"), none, (.func ⟨"compare", "TupleComp.compare", paramsOf (inClass 2 2), .stmts (bodyOf (inClass 2 2)), scopeOf (inClass 2 2), 3, [], .none, .none, .none, (sV "cpy313.pstats" 194), none, (.ref 41), .none, 0⟩), #[]⟩
noncomputable def obC43 (P : Params) : Obj := ⟨(.type "tuple"), none, (.seq #[(sV "comp_select_list" 232)] 0), #[]⟩
noncomputable def obC44 (P : Params) : Obj := ⟨(.type "dict"), none, (.dict #[dE P "__module__" 203 (sV "cpy313.pstats" 194), dE P "__firstlineno__" 207 (.int 5 206), dE P "__doc__" 209 (sV docD 208), dE P "__init__" 218 (.ref 35), dE P "compare" 231 (.ref 42), dE P "__static_attributes__" 233 (.ref 43), dE P "__dict__" 235 (.ref 46), dE P "__weakref__" 237 (.ref 47)] 3), #[]⟩
noncomputable def obC45 (P : Params) : Obj := ⟨(.type "type"), none, (.cls ⟨"TupleComp", [(.type "object")], [(.ref 45), (.type "object")], 44, "TupleComp", true, [], [], false, none, false⟩), #[none, none, some (sV "TupleComp" 196), some (sV "TupleComp" 204), some (.builtin "object.__new__"), some (.bool true)]⟩
noncomputable def obC46 (P : Params) : Obj := ⟨(.type "getset_descriptor"), none, (.fields #[(sV "__dict__" 234), (.ref 45), (.builtin "function.__dict__"), (.builtin "function.__dict__#set")]), #[]⟩
noncomputable def obC47 (P : Params) : Obj := ⟨(.type "getset_descriptor"), none, (.fields #[(sV "__weakref__" 236), (.ref 45), (.builtin "ExceptionGroup.__weakref__"), .none]), #[]⟩
noncomputable def obC48 (P : Params) : Obj := ⟨(.type "super"), none, (.fields #[(.ref 45), (.ref 45), (.ref 45)]), #[]⟩
noncomputable def obC49 (P : Params) : Obj := ⟨(.type "builtin_function_or_method"), none, (.fields #[(.builtin "object.__init_subclass__"), (.ref 45)]), #[]⟩
noncomputable def heapC (P : Params) : Heap := ⟨#[boot_o_0 P, boot_o_1 P, boot_o_2 P, obC3 P, boot_o_4 P, boot_o_5 P, boot_o_6 P, boot_o_7 P, boot_o_8 P, boot_o_9 P, boot_o_10 P, obA11 P, obC12 P, obA13 P, obA14 P, obC15 P, obC16 P, obC17 P, obC18 P, obC19 P, obC20 P, obC21 P, obC22 P, obC23 P, obC24 P, obC25 P, obC26 P, obC27 P, obC28 P, obC29 P, obC30 P, obC31 P, obC32 P, obC33 P, obC34 P, obC35 P, obC36 P, obC37 P, obC38 P, obC39 P, obC40 P, obC41 P, obC42 P, obC43 P, obC44 P, obC45 P, obC46 P, obC47 P, obC48 P, obC49 P], {}⟩
noncomputable def obD3 (P : Params) : Obj := ⟨(.type "dict"), none, (.dict #[dE P "__name__" 165 (sV "cpy313.unittest.util" 271), dE P "__doc__" 166 .none, dE P "__package__" 167 .none, dE P "__loader__" 168 (.builtin "__main__.__loader__#opaque"), dE P "__spec__" 169 .none, dE P "__annotations__" 170 (.ref 6), dE P "__builtins__" 171 (.ref 4), dE P "__file__" 173 (sV "/claim/cut.py" 172), dE P "__cached__" 174 .none, dE P "_wall" 193 (.ref 21), dE P "TupleComp" 239 (.ref 45), dE P "add_func_stats" 258 (.ref 56), dE P "add_callers" 270 (.ref 63), dE P "_tuplegetter" 329 (.ref 102)] 14), #[]⟩
noncomputable def obD12 (P : Params) : Obj := ⟨.none, none, (.fields #[(.int 1 0), (.int 0 0), (.ref 20), (.int 5 0), (.int 0 0), (.ref 27), (.int 25 0), (.int 0 0), (.ref 55), (.int 30 0), (.int 0 0), (.ref 62), (.int 45 0), (.int 0 0), (.ref 69)]), #[]⟩
noncomputable def obD50 (P : Params) : Obj := ⟨(.type "tuple"), none, (.seq #[] 0), #[]⟩
noncomputable def obD51 (P : Params) : Obj := ⟨.none, none, (.fields #[]), #[]⟩
noncomputable def obD52 (P : Params) : Obj := ⟨(.type "tuple"), none, (.seq #[(sV "target" 243), (sV "source" 244), (sV "cc" 245), (sV "nc" 246), (sV "tt" 247), (sV "ct" 248), (sV "callers" 249), (sV "t_cc" 250), (sV "t_nc" 251), (sV "t_tt" 252), (sV "t_ct" 253), (sV "t_callers" 254)] 0), #[]⟩
noncomputable def obD53 (P : Params) : Obj := ⟨(.type "tuple"), none, (.seq #[] 0), #[]⟩
noncomputable def obD54 (P : Params) : Obj := ⟨.none, none, (.func ⟨"add_func_stats", "add_func_stats", paramsOf (topAt 3), .stmts (bodyOf (topAt 3)), scopeOf (topAt 3), 0, [], .none, .none, .none, .none, none, .none, .none, 0⟩), #[]⟩
noncomputable def obD55 (P : Params) : Obj := ⟨(.type "code"), none, (.fields #[(sV "add_func_stats" 240), (sV "add_func_stats" 241), (sV "/claim/cut.py" 242), (.int 25 0), (.int 2 0), (.int 0 0), (.int 0 0), (.int 3 0), (.ref 50), (.bool true), (.int 181 0), (.ref 51), .none, (.ref 52), (.ref 53), (.ref 54), (.int 255 0), (.int 25 0), (sV "/claim/cut.py" 256)]), #[]⟩
noncomputable def obD56 (P : Params) : Obj := ⟨(.type "function"), none, (.func ⟨"add_func_stats", "add_func_stats", paramsOf (topAt 3), .stmts (bodyOf (topAt 3)), scopeOf (topAt 3), 3, [], .none, .none, (sV (docS (topAt 3)) 257), (sV "cpy313.pstats" 194), none, (.ref 55), .none, 0⟩), #[]⟩
noncomputable def obD57 (P : Params) : Obj := ⟨(.type "tuple"), none, (.seq #[] 0), #[]⟩
noncomputable def obD58 (P : Params) : Obj := ⟨.none, none, (.fields #[]), #[]⟩
noncomputable def obD59 (P : Params) : Obj := ⟨(.type "tuple"), none, (.seq #[(sV "target" 262), (sV "source" 263), (sV "new_callers" 264), (sV "func" 265), (sV "caller" 266)] 0), #[]⟩
noncomputable def obD60 (P : Params) : Obj := ⟨(.type "tuple"), none, (.seq #[] 0), #[]⟩
noncomputable def obD61 (P : Params) : Obj := ⟨.none, none, (.func ⟨"add_callers", "add_callers", paramsOf (topAt 4), .stmts (bodyOf (topAt 4)), scopeOf (topAt 4), 0, [], .none, .none, .none, .none, none, .none, .none, 0⟩), #[]⟩
noncomputable def obD62 (P : Params) : Obj := ⟨(.type "code"), none, (.fields #[(sV "add_callers" 259), (sV "add_callers" 260), (sV "/claim/cut.py" 261), (.int 30 0), (.int 2 0), (.int 0 0), (.int 0 0), (.int 3 0), (.ref 57), (.bool true), (.int 181 0), (.ref 58), .none, (.ref 59), (.ref 60), (.ref 61), (.int 267 0), (.int 30 0), (sV "/claim/cut.py" 268)]), #[]⟩
noncomputable def obD63 (P : Params) : Obj := ⟨(.type "function"), none, (.func ⟨"add_callers", "add_callers", paramsOf (topAt 4), .stmts (bodyOf (topAt 4)), scopeOf (topAt 4), 3, [], .none, .none, (sV (docS (topAt 4)) 269), (sV "cpy313.pstats" 194), none, (.ref 62), .none, 0⟩), #[]⟩
noncomputable def obD64 (P : Params) : Obj := ⟨(.type "tuple"), none, (.seq #[] 0), #[]⟩
noncomputable def obD65 (P : Params) : Obj := ⟨(.type "builtin_function_or_method"), none, (.fields #[(.builtin "type.__prepare__"), (.type "type")]), #[]⟩
noncomputable def obD66 (P : Params) : Obj := ⟨(.type "dict"), none, (.dict #[dE P "__module__" 280 (sV "cpy313.unittest.util" 271), dE P "__qualname__" 282 (sV "_tuplegetter" 281), dE P "__firstlineno__" 284 (.int 45 283), dE P "__init__" 293 (.ref 77), dE P "__get__" 302 (.ref 85), dE P "__set__" 311 (.ref 92), dE P "__delete__" 319 (.ref 99), dE P "__static_attributes__" 322 (.ref 100)] 8), #[]⟩
noncomputable def obD67 (P : Params) : Obj := ⟨(.type "tuple"), none, (.seq #[] 0), #[]⟩
noncomputable def obD68 (P : Params) : Obj := ⟨.none, none, (.fields #[(.int 47 0), (.int 4 0), (.ref 76), (.int 51 0), (.int 4 0), (.ref 84), (.int 58 0), (.int 4 0), (.ref 91), (.int 61 0), (.int 4 0), (.ref 98)]), #[]⟩
noncomputable def obD69 (P : Params) : Obj := ⟨(.type "code"), none, (.fields #[(sV "_tuplegetter" 275), (sV "_tuplegetter" 276), (sV "/claim/cut.py" 277), (.int 45 0), (.int 0 0), (.int 0 0), (.int 0 0), (.int 0 0), (.ref 67), (.bool false), (.int 181 0), (.ref 68), .none, .none, .none, .none, (.int 278 0), (.int 45 0), (sV "/claim/cut.py" 279)]), #[]⟩
noncomputable def obD70 (P : Params) : Obj := ⟨(.type "frame"), none, .plain, #[some (.ref 69), some (.ref 3), some (.ref 66), none, some (sV "cpy313.unittest.util" 271), none, some (.ref 0)]⟩
noncomputable def obD71 (P : Params) : Obj := ⟨(.type "tuple"), none, (.seq #[] 0), #[]⟩
noncomputable def obD72 (P : Params) : Obj := ⟨.none, none, (.fields #[]), #[]⟩
noncomputable def obD73 (P : Params) : Obj := ⟨(.type "tuple"), none, (.seq #[(sV "self" 288), (sV "index" 289), (sV "doc" 290)] 0), #[]⟩
noncomputable def obD74 (P : Params) : Obj := ⟨(.type "tuple"), none, (.seq #[] 0), #[]⟩
noncomputable def obD75 (P : Params) : Obj := ⟨.none, none, (.func ⟨"__init__", "_tuplegetter.__init__", paramsOf (inClass 6 0), .stmts (bodyOf (inClass 6 0)), scopeOf (inClass 6 0), 0, [], .none, .none, .none, .none, none, .none, .none, 0⟩), #[]⟩
noncomputable def obD76 (P : Params) : Obj := ⟨(.type "code"), none, (.fields #[(sV "__init__" 285), (sV "_tuplegetter.__init__" 286), (sV "/claim/cut.py" 287), (.int 47 0), (.int 3 0), (.int 0 0), (.int 0 0), (.int 3 0), (.ref 71), (.bool true), (.int 181 0), (.ref 72), .none, (.ref 73), (.ref 74), (.ref 75), (.int 291 0), (.int 47 0), (sV "/claim/cut.py" 292)]), #[]⟩
noncomputable def obD77 (P : Params) : Obj := ⟨(.type "function"), none, (.func ⟨"__init__", "_tuplegetter.__init__", paramsOf (inClass 6 0), .stmts (bodyOf (inClass 6 0)), scopeOf (inClass 6 0), 3, [], .none, .none, .none, (sV "cpy313.unittest.util" 271), none, (.ref 76), .none, 0⟩), #[]⟩
noncomputable def obD78 (P : Params) : Obj := ⟨(.type "tuple"), none, (.seq #[.none] 0), #[]⟩
noncomputable def obD79 (P : Params) : Obj := ⟨(.type "tuple"), none, (.seq #[] 0), #[]⟩
noncomputable def obD80 (P : Params) : Obj := ⟨.none, none, (.fields #[]), #[]⟩
noncomputable def obD81 (P : Params) : Obj := ⟨(.type "tuple"), none, (.seq #[(sV "self" 297), (sV "obj" 298), (sV "objtype" 299)] 0), #[]⟩
noncomputable def obD82 (P : Params) : Obj := ⟨(.type "tuple"), none, (.seq #[] 0), #[]⟩
noncomputable def obD83 (P : Params) : Obj := ⟨.none, none, (.func ⟨"__get__", "_tuplegetter.__get__", paramsOf (inClass 6 1), .stmts (bodyOf (inClass 6 1)), scopeOf (inClass 6 1), 0, [], .none, .none, .none, .none, none, .none, .none, 0⟩), #[]⟩
noncomputable def obD84 (P : Params) : Obj := ⟨(.type "code"), none, (.fields #[(sV "__get__" 294), (sV "_tuplegetter.__get__" 295), (sV "/claim/cut.py" 296), (.int 51 0), (.int 3 0), (.int 0 0), (.int 0 0), (.int 3 0), (.ref 79), (.bool true), (.int 181 0), (.ref 80), .none, (.ref 81), (.ref 82), (.ref 83), (.int 300 0), (.int 51 0), (sV "/claim/cut.py" 301)]), #[]⟩
noncomputable def obD85 (P : Params) : Obj := ⟨(.type "function"), none, (.func ⟨"__get__", "_tuplegetter.__get__", paramsOf (inClass 6 1), .stmts (bodyOf (inClass 6 1)), scopeOf (inClass 6 1), 3, [], (.ref 78), .none, .none, (sV "cpy313.unittest.util" 271), none, (.ref 84), .none, 0⟩), #[]⟩
noncomputable def obD86 (P : Params) : Obj := ⟨(.type "tuple"), none, (.seq #[] 0), #[]⟩
noncomputable def obD87 (P : Params) : Obj := ⟨.none, none, (.fields #[]), #[]⟩
noncomputable def obD88 (P : Params) : Obj := ⟨(.type "tuple"), none, (.seq #[(sV "self" 306), (sV "obj" 307), (sV "value" 308)] 0), #[]⟩
noncomputable def obD89 (P : Params) : Obj := ⟨(.type "tuple"), none, (.seq #[] 0), #[]⟩
noncomputable def obD90 (P : Params) : Obj := ⟨.none, none, (.func ⟨"__set__", "_tuplegetter.__set__", paramsOf (inClass 6 2), .stmts (bodyOf (inClass 6 2)), scopeOf (inClass 6 2), 0, [], .none, .none, .none, .none, none, .none, .none, 0⟩), #[]⟩
noncomputable def obD91 (P : Params) : Obj := ⟨(.type "code"), none, (.fields #[(sV "__set__" 303), (sV "_tuplegetter.__set__" 304), (sV "/claim/cut.py" 305), (.int 58 0), (.int 3 0), (.int 0 0), (.int 0 0), (.int 3 0), (.ref 86), (.bool true), (.int 181 0), (.ref 87), .none, (.ref 88), (.ref 89), (.ref 90), (.int 309 0), (.int 58 0), (sV "/claim/cut.py" 310)]), #[]⟩
noncomputable def obD92 (P : Params) : Obj := ⟨(.type "function"), none, (.func ⟨"__set__", "_tuplegetter.__set__", paramsOf (inClass 6 2), .stmts (bodyOf (inClass 6 2)), scopeOf (inClass 6 2), 3, [], .none, .none, .none, (sV "cpy313.unittest.util" 271), none, (.ref 91), .none, 0⟩), #[]⟩
noncomputable def obD93 (P : Params) : Obj := ⟨(.type "tuple"), none, (.seq #[] 0), #[]⟩
noncomputable def obD94 (P : Params) : Obj := ⟨.none, none, (.fields #[]), #[]⟩
noncomputable def obD95 (P : Params) : Obj := ⟨(.type "tuple"), none, (.seq #[(sV "self" 315), (sV "obj" 316)] 0), #[]⟩
noncomputable def obD96 (P : Params) : Obj := ⟨(.type "tuple"), none, (.seq #[] 0), #[]⟩
noncomputable def obD97 (P : Params) : Obj := ⟨.none, none, (.func ⟨"__delete__", "_tuplegetter.__delete__", paramsOf (inClass 6 3), .stmts (bodyOf (inClass 6 3)), scopeOf (inClass 6 3), 0, [], .none, .none, .none, .none, none, .none, .none, 0⟩), #[]⟩
noncomputable def obD98 (P : Params) : Obj := ⟨(.type "code"), none, (.fields #[(sV "__delete__" 312), (sV "_tuplegetter.__delete__" 313), (sV "/claim/cut.py" 314), (.int 61 0), (.int 2 0), (.int 0 0), (.int 0 0), (.int 3 0), (.ref 93), (.bool true), (.int 181 0), (.ref 94), .none, (.ref 95), (.ref 96), (.ref 97), (.int 317 0), (.int 61 0), (sV "/claim/cut.py" 318)]), #[]⟩
noncomputable def obD99 (P : Params) : Obj := ⟨(.type "function"), none, (.func ⟨"__delete__", "_tuplegetter.__delete__", paramsOf (inClass 6 3), .stmts (bodyOf (inClass 6 3)), scopeOf (inClass 6 3), 3, [], .none, .none, .none, (sV "cpy313.unittest.util" 271), none, (.ref 98), .none, 0⟩), #[]⟩
noncomputable def obD100 (P : Params) : Obj := ⟨(.type "tuple"), none, (.seq #[(sV "__doc__" 320), (sV "index" 321)] 0), #[]⟩
noncomputable def obD101 (P : Params) : Obj := ⟨(.type "dict"), none, (.dict #[dE P "__module__" 280 (sV "cpy313.unittest.util" 271), dE P "__firstlineno__" 284 (.int 45 283), dE P "__init__" 293 (.ref 77), dE P "__get__" 302 (.ref 85), dE P "__set__" 311 (.ref 92), dE P "__delete__" 319 (.ref 99), dE P "__static_attributes__" 322 (.ref 100), dE P "__dict__" 324 (.ref 103), dE P "__weakref__" 326 (.ref 104), dE P "__doc__" 327 .none] 4), #[]⟩
noncomputable def obD102 (P : Params) : Obj := ⟨(.type "type"), none, (.cls ⟨"_tuplegetter", [(.type "object")], [(.ref 102), (.type "object")], 101, "_tuplegetter", true, [], [], false, none, false⟩), #[none, none, some (sV "_tuplegetter" 273), some (sV "_tuplegetter" 281), some (.builtin "object.__new__"), some (.bool true)]⟩
noncomputable def obD103 (P : Params) : Obj := ⟨(.type "getset_descriptor"), none, (.fields #[(sV "__dict__" 323), (.ref 102), (.builtin "function.__dict__"), (.builtin "function.__dict__#set")]), #[]⟩
noncomputable def obD104 (P : Params) : Obj := ⟨(.type "getset_descriptor"), none, (.fields #[(sV "__weakref__" 325), (.ref 102), (.builtin "ExceptionGroup.__weakref__"), .none]), #[]⟩
noncomputable def obD105 (P : Params) : Obj := ⟨(.type "super"), none, (.fields #[(.ref 102), (.ref 102), (.ref 102)]), #[]⟩
noncomputable def obD106 (P : Params) : Obj := ⟨(.type "builtin_function_or_method"), none, (.fields #[(.builtin "object.__init_subclass__"), (.ref 102)]), #[]⟩
noncomputable def heapD (P : Params) : Heap := ⟨#[boot_o_0 P, boot_o_1 P, boot_o_2 P, obD3 P, boot_o_4 P, boot_o_5 P, boot_o_6 P, boot_o_7 P, boot_o_8 P, boot_o_9 P, boot_o_10 P, obA11 P, obD12 P, obA13 P, obA14 P, obC15 P, obC16 P, obC17 P, obC18 P, obC19 P, obC20 P, obC21 P, obC22 P, obC23 P, obC24 P, obC25 P, obC26 P, obC27 P, obC28 P, obC29 P, obC30 P, obC31 P, obC32 P, obC33 P, obC34 P, obC35 P, obC36 P, obC37 P, obC38 P, obC39 P, obC40 P, obC41 P, obC42 P, obC43 P, obC44 P, obC45 P, obC46 P, obC47 P, obC48 P, obC49 P, obD50 P, obD51 P, obD52 P, obD53 P, obD54 P, obD55 P, obD56 P, obD57 P, obD58 P, obD59 P, obD60 P, obD61 P, obD62 P, obD63 P, obD64 P, obD65 P, obD66 P, obD67 P, obD68 P, obD69 P, obD70 P, obD71 P, obD72 P, obD73 P, obD74 P, obD75 P, obD76 P, obD77 P, obD78 P, obD79 P, obD80 P, obD81 P, obD82 P, obD83 P, obD84 P, obD85 P, obD86 P, obD87 P, obD88 P, obD89 P, obD90 P, obD91 P, obD92 P, obD93 P, obD94 P, obD95 P, obD96 P, obD97 P, obD98 P, obD99 P, obD100 P, obD101 P, obD102 P, obD103 P, obD104 P, obD105 P, obD106 P], {}⟩
noncomputable def obE3 (P : Params) : Obj := ⟨(.type "dict"), none, (.dict #[dE P "__name__" 165 (sV "cpy313.unittest.util" 271), dE P "__doc__" 166 .none, dE P "__package__" 167 .none, dE P "__loader__" 168 (.builtin "__main__.__loader__#opaque"), dE P "__spec__" 169 .none, dE P "__annotations__" 170 (.ref 6), dE P "__builtins__" 171 (.ref 4), dE P "__file__" 173 (sV "/claim/cut.py" 172), dE P "__cached__" 174 .none, dE P "_wall" 193 (.ref 21), dE P "TupleComp" 239 (.ref 45), dE P "add_func_stats" 258 (.ref 56), dE P "add_callers" 270 (.ref 63), dE P "_tuplegetter" 329 (.ref 102), dE P "Mismatch" 457 (.ref 177)] 15), #[]⟩
noncomputable def obE12 (P : Params) : Obj := ⟨.none, none, (.fields #[(.int 1 0), (.int 0 0), (.ref 20), (.int 5 0), (.int 0 0), (.ref 27), (.int 25 0), (.int 0 0), (.ref 55), (.int 30 0), (.int 0 0), (.ref 62), (.int 45 0), (.int 0 0), (.ref 69), (.int 63 0), (.int 0 0), (.ref 113)]), #[]⟩
noncomputable def obE107 (P : Params) : Obj := ⟨(.type "tuple"), none, (.seq #[(.type "tuple")] 0), #[]⟩
noncomputable def obE108 (P : Params) : Obj := ⟨(.type "builtin_function_or_method"), none, (.fields #[(.builtin "type.__prepare__"), (.type "type")]), #[]⟩
noncomputable def obE109 (P : Params) : Obj := ⟨(.type "dict"), none, (.dict #[dE P "__module__" 337 (sV "cpy313.unittest.util" 271), dE P "__qualname__" 339 (sV "Mismatch" 338), dE P "__firstlineno__" 341 (.int 63 340), dE P "__doc__" 343 (sV (docS (topAt 7)) 342), dE P "__slots__" 345 (.ref 115), dE P "_fields" 349 (.ref 116), dE P "_field_defaults" 350 (.ref 117), dE P "__new__" 361 (.ref 124), dE P "_make" 383 (.ref 133), dE P "_replace" 394 (.ref 142), dE P "__replace__" 395 (.ref 142), dE P "__repr__" 403 (.ref 149), dE P "_asdict" 410 (.ref 156), dE P "__getnewargs__" 418 (.ref 163), dE P "__match_args__" 422 (.ref 164), dE P "actual" 432 (.ref 166), dE P "expected" 442 (.ref 169), dE P "value" 452 (.ref 172), dE P "__static_attributes__" 453 (.ref 174), dE P "__classcell__" 454 (.ref 110)] 20), #[]⟩
noncomputable def obE110 (P : Params) : Obj := ⟨(.type "cell"), none, (.cell (some (.ref 177))), #[]⟩
noncomputable def obE111 (P : Params) : Obj := ⟨(.type "tuple"), none, (.seq #[] 0), #[]⟩
noncomputable def obE112 (P : Params) : Obj := ⟨.none, none, (.fields #[(.int 69 0), (.int 4 0), (.ref 123), (.int 74 0), (.int 4 0), (.ref 130), (.int 81 0), (.int 4 0), (.ref 141), (.int 92 0), (.int 4 0), (.ref 148), (.int 96 0), (.int 4 0), (.ref 155), (.int 99 0), (.int 4 0), (.ref 162)]), #[]⟩
noncomputable def obE113 (P : Params) : Obj := ⟨(.type "code"), none, (.fields #[(sV "Mismatch" 332), (sV "Mismatch" 333), (sV "/claim/cut.py" 334), (.int 63 0), (.int 0 0), (.int 0 0), (.int 0 0), (.int 0 0), (.ref 111), (.bool false), (.int 181 0), (.ref 112), .none, .none, .none, .none, (.int 335 0), (.int 63 0), (sV "/claim/cut.py" 336)]), #[]⟩
noncomputable def obE114 (P : Params) : Obj := ⟨(.type "frame"), none, .plain, #[some (.ref 113), some (.ref 3), some (.ref 109), none, some (sV "cpy313.unittest.util" 271), none, some (.ref 0)]⟩
noncomputable def obE115 (P : Params) : Obj := ⟨(.type "tuple"), none, (.seq #[] 0), #[]⟩
noncomputable def obE116 (P : Params) : Obj := ⟨(.type "tuple"), none, (.seq #[(sV "actual" 346), (sV "expected" 347), (sV "value" 348)] 0), #[]⟩
noncomputable def obE117 (P : Params) : Obj := ⟨(.type "dict"), none, (.dict #[] 0), #[]⟩
noncomputable def obE118 (P : Params) : Obj := ⟨(.type "tuple"), none, (.seq #[] 0), #[]⟩
noncomputable def obE119 (P : Params) : Obj := ⟨.none, none, (.fields #[]), #[]⟩
noncomputable def obE120 (P : Params) : Obj := ⟨(.type "tuple"), none, (.seq #[(sV "_cls" 354), (sV "actual" 355), (sV "expected" 356), (sV "value" 357)] 0), #[]⟩
noncomputable def obE121 (P : Params) : Obj := ⟨(.type "tuple"), none, (.seq #[] 0), #[]⟩
noncomputable def obE122 (P : Params) : Obj := ⟨.none, none, (.func ⟨"__new__", "Mismatch.__new__", paramsOf (inClass 7 4), .stmts (bodyOf (inClass 7 4)), scopeOf (inClass 7 4), 0, [], .none, .none, .none, .none, none, .none, .none, 0⟩), #[]⟩
noncomputable def obE123 (P : Params) : Obj := ⟨(.type "code"), none, (.fields #[(sV "__new__" 351), (sV "Mismatch.__new__" 352), (sV "/claim/cut.py" 353), (.int 69 0), (.int 4 0), (.int 0 0), (.int 0 0), (.int 3 0), (.ref 118), (.bool true), (.int 181 0), (.ref 119), .none, (.ref 120), (.ref 121), (.ref 122), (.int 358 0), (.int 69 0), (sV "/claim/cut.py" 359)]), #[]⟩
noncomputable def obE124 (P : Params) : Obj := ⟨(.type "function"), none, (.func ⟨"__new__", "Mismatch.__new__", paramsOf (inClass 7 4), .stmts (bodyOf (inClass 7 4)), scopeOf (inClass 7 4), 3, [], .none, .none, (sV (docS (inClass 7 4)) 360), (sV "cpy313.unittest.util" 271), none, (.ref 123), .none, 0⟩), #[]⟩
noncomputable def obE125 (P : Params) : Obj := ⟨(.type "tuple"), none, (.seq #[] 0), #[]⟩
noncomputable def obE126 (P : Params) : Obj := ⟨.none, none, (.fields #[]), #[]⟩
noncomputable def obE127 (P : Params) : Obj := ⟨(.type "tuple"), none, (.seq #[(sV "cls" 365), (sV "iterable" 366), (sV "result" 367)] 0), #[]⟩
noncomputable def obE128 (P : Params) : Obj := ⟨(.type "tuple"), none, (.seq #[] 0), #[]⟩
noncomputable def obE129 (P : Params) : Obj := ⟨.none, none, (.func ⟨"_make", "Mismatch._make", paramsOf (inClass 7 5), .stmts (bodyOf (inClass 7 5)), scopeOf (inClass 7 5), 0, [], .none, .none, .none, .none, none, .none, .none, 0⟩), #[]⟩
noncomputable def obE130 (P : Params) : Obj := ⟨(.type "code"), none, (.fields #[(sV "_make" 362), (sV "Mismatch._make" 363), (sV "/claim/cut.py" 364), (.int 73 0), (.int 2 0), (.int 0 0), (.int 0 0), (.int 3 0), (.ref 125), (.bool true), (.int 181 0), (.ref 126), .none, (.ref 127), (.ref 128), (.ref 129), (.int 368 0), (.int 73 0), (sV "/claim/cut.py" 369)]), #[]⟩
noncomputable def obE131 (P : Params) : Obj := ⟨(.type "function"), none, (.func ⟨"_make", "Mismatch._make", paramsOf (inClass 7 5), .stmts (bodyOf (inClass 7 5)), scopeOf (inClass 7 5), 3, [], .none, .none, (sV (docS (inClass 7 5)) 370), (sV "cpy313.unittest.util" 271), (some 134), (.ref 130), .none, 0⟩), #[]⟩
noncomputable def obE132 (P : Params) : Obj := ⟨(.type "dict"), none, (.dict #[dE P "__module__" 372 (sV "cpy313.unittest.util" 271), dE P "__name__" 375 (sV "_make" 374), dE P "__qualname__" 378 (sV "Mismatch._make" 377), dE P "__doc__" 380 (sV (docS (inClass 7 5)) 370), dE P "__annotations__" 382 (.ref 134)] 5), #[]⟩
noncomputable def obE133 (P : Params) : Obj := ⟨(.type "classmethod"), (some 132), (.fields #[(.ref 131), (.bool false)]), #[]⟩
noncomputable def obE134 (P : Params) : Obj := ⟨(.type "dict"), none, (.dict #[] 0), #[]⟩
noncomputable def obE135 (P : Params) : Obj := ⟨(.type "tuple"), none, (.seq #[(.ref 110)] 0), #[]⟩
noncomputable def obE136 (P : Params) : Obj := ⟨(.type "tuple"), none, (.seq #[(sV "__class__" 387)] 0), #[]⟩
noncomputable def obE137 (P : Params) : Obj := ⟨.none, none, (.fields #[]), #[]⟩
noncomputable def obE138 (P : Params) : Obj := ⟨(.type "tuple"), none, (.seq #[(sV "self" 388), (sV "kwds" 389), (sV "result" 390)] 0), #[]⟩
noncomputable def obE139 (P : Params) : Obj := ⟨(.type "tuple"), none, (.seq #[] 0), #[]⟩
noncomputable def obE140 (P : Params) : Obj := ⟨.none, none, (.func ⟨"_replace", "Mismatch._replace", paramsOf (inClass 7 6), .stmts (bodyOf (inClass 7 6)), scopeOf (inClass 7 6), 0, [], .none, .none, .none, .none, none, .none, .none, 0⟩), #[]⟩
noncomputable def obE141 (P : Params) : Obj := ⟨(.type "code"), none, (.fields #[(sV "_replace" 384), (sV "Mismatch._replace" 385), (sV "/claim/cut.py" 386), (.int 81 0), (.int 1 0), (.int 1 0), (.int 0 0), (.int 11 0), (.ref 136), (.bool true), (.int 181 0), (.ref 137), .none, (.ref 138), (.ref 139), (.ref 140), (.int 391 0), (.int 81 0), (sV "/claim/cut.py" 392)]), #[]⟩
noncomputable def obE142 (P : Params) : Obj := ⟨(.type "function"), none, (.func ⟨"_replace", "Mismatch._replace", paramsOf (inClass 7 6), .stmts (bodyOf (inClass 7 6)), scopeOf (inClass 7 6), 3, [("__class__", 110)], .none, .none, (sV (docS (inClass 7 6)) 393), (sV "cpy313.unittest.util" 271), none, (.ref 141), (.ref 135), 0⟩), #[]⟩
noncomputable def obE143 (P : Params) : Obj := ⟨(.type "tuple"), none, (.seq #[] 0), #[]⟩
noncomputable def obE144 (P : Params) : Obj := ⟨.none, none, (.fields #[]), #[]⟩
noncomputable def obE145 (P : Params) : Obj := ⟨(.type "tuple"), none, (.seq #[(sV "self" 399)] 0), #[]⟩
noncomputable def obE146 (P : Params) : Obj := ⟨(.type "tuple"), none, (.seq #[] 0), #[]⟩
noncomputable def obE147 (P : Params) : Obj := ⟨.none, none, (.func ⟨"__repr__", "Mismatch.__repr__", paramsOf (inClass 7 8), .stmts (bodyOf (inClass 7 8)), scopeOf (inClass 7 8), 0, [], .none, .none, .none, .none, none, .none, .none, 0⟩), #[]⟩
noncomputable def obE148 (P : Params) : Obj := ⟨(.type "code"), none, (.fields #[(sV "__repr__" 396), (sV "Mismatch.__repr__" 397), (sV "/claim/cut.py" 398), (.int 92 0), (.int 1 0), (.int 0 0), (.int 0 0), (.int 3 0), (.ref 143), (.bool true), (.int 181 0), (.ref 144), .none, (.ref 145), (.ref 146), (.ref 147), (.int 400 0), (.int 92 0), (sV "/claim/cut.py" 401)]), #[]⟩
noncomputable def obE149 (P : Params) : Obj := ⟨(.type "function"), none, (.func ⟨"__repr__", "Mismatch.__repr__", paramsOf (inClass 7 8), .stmts (bodyOf (inClass 7 8)), scopeOf (inClass 7 8), 3, [], .none, .none, (sV (docS (inClass 7 8)) 402), (sV "cpy313.unittest.util" 271), none, (.ref 148), .none, 0⟩), #[]⟩
noncomputable def obE150 (P : Params) : Obj := ⟨(.type "tuple"), none, (.seq #[] 0), #[]⟩
noncomputable def obE151 (P : Params) : Obj := ⟨.none, none, (.fields #[]), #[]⟩
noncomputable def obE152 (P : Params) : Obj := ⟨(.type "tuple"), none, (.seq #[(sV "self" 407)] 0), #[]⟩
noncomputable def obE153 (P : Params) : Obj := ⟨(.type "tuple"), none, (.seq #[] 0), #[]⟩
noncomputable def obE154 (P : Params) : Obj := ⟨.none, none, (.func ⟨"_asdict", "Mismatch._asdict", paramsOf (inClass 7 9), .stmts (bodyOf (inClass 7 9)), scopeOf (inClass 7 9), 0, [], .none, .none, .none, .none, none, .none, .none, 0⟩), #[]⟩
noncomputable def obE155 (P : Params) : Obj := ⟨(.type "code"), none, (.fields #[(sV "_asdict" 404), (sV "Mismatch._asdict" 405), (sV "/claim/cut.py" 406), (.int 96 0), (.int 1 0), (.int 0 0), (.int 0 0), (.int 3 0), (.ref 150), (.bool true), (.int 181 0), (.ref 151), .none, (.ref 152), (.ref 153), (.ref 154), (.int 408 0), (.int 96 0), (sV "/claim/cut.py" 409)]), #[]⟩
noncomputable def obE156 (P : Params) : Obj := ⟨(.type "function"), none, (.func ⟨"_asdict", "Mismatch._asdict", paramsOf (inClass 7 9), .stmts (bodyOf (inClass 7 9)), scopeOf (inClass 7 9), 3, [], .none, .none, .none, (sV "cpy313.unittest.util" 271), none, (.ref 155), .none, 0⟩), #[]⟩
noncomputable def obE157 (P : Params) : Obj := ⟨(.type "tuple"), none, (.seq #[] 0), #[]⟩
noncomputable def obE158 (P : Params) : Obj := ⟨.none, none, (.fields #[]), #[]⟩
noncomputable def obE159 (P : Params) : Obj := ⟨(.type "tuple"), none, (.seq #[(sV "self" 414)] 0), #[]⟩
noncomputable def obE160 (P : Params) : Obj := ⟨(.type "tuple"), none, (.seq #[] 0), #[]⟩
noncomputable def obE161 (P : Params) : Obj := ⟨.none, none, (.func ⟨"__getnewargs__", "Mismatch.__getnewargs__", paramsOf (inClass 7 10), .stmts (bodyOf (inClass 7 10)), scopeOf (inClass 7 10), 0, [], .none, .none, .none, .none, none, .none, .none, 0⟩), #[]⟩
noncomputable def obE162 (P : Params) : Obj := ⟨(.type "code"), none, (.fields #[(sV "__getnewargs__" 411), (sV "Mismatch.__getnewargs__" 412), (sV "/claim/cut.py" 413), (.int 99 0), (.int 1 0), (.int 0 0), (.int 0 0), (.int 3 0), (.ref 157), (.bool true), (.int 181 0), (.ref 158), .none, (.ref 159), (.ref 160), (.ref 161), (.int 415 0), (.int 99 0), (sV "/claim/cut.py" 416)]), #[]⟩
noncomputable def obE163 (P : Params) : Obj := ⟨(.type "function"), none, (.func ⟨"__getnewargs__", "Mismatch.__getnewargs__", paramsOf (inClass 7 10), .stmts (bodyOf (inClass 7 10)), scopeOf (inClass 7 10), 3, [], .none, .none, (sV (docS (inClass 7 10)) 417), (sV "cpy313.unittest.util" 271), none, (.ref 162), .none, 0⟩), #[]⟩
noncomputable def obE164 (P : Params) : Obj := ⟨(.type "tuple"), none, (.seq #[(sV "actual" 419), (sV "expected" 420), (sV "value" 421)] 0), #[]⟩
noncomputable def obE165 (P : Params) : Obj := ⟨(.type "dict"), none, (.dict #[dE P "index" 429 (.int 0 423), dE P "__doc__" 431 (sV (argS (inClass 7 12)) 424)] 2), #[]⟩
noncomputable def obE166 (P : Params) : Obj := ⟨(.ref 102), (some 165), .plain, #[]⟩
noncomputable def obE167 (P : Params) : Obj := ⟨(.type "frame"), none, (.dict #[dE P "self" 425 (.ref 166), dE P "index" 426 (.int 0 423), dE P "doc" 427 (sV (argS (inClass 7 12)) 424)] 3), #[]⟩
noncomputable def obE168 (P : Params) : Obj := ⟨(.type "dict"), none, (.dict #[dE P "index" 439 (.int 1 433), dE P "__doc__" 441 (sV (argS (inClass 7 13)) 434)] 2), #[]⟩
noncomputable def obE169 (P : Params) : Obj := ⟨(.ref 102), (some 168), .plain, #[]⟩
noncomputable def obE170 (P : Params) : Obj := ⟨(.type "frame"), none, (.dict #[dE P "self" 435 (.ref 169), dE P "index" 436 (.int 1 433), dE P "doc" 437 (sV (argS (inClass 7 13)) 434)] 3), #[]⟩
noncomputable def obE171 (P : Params) : Obj := ⟨(.type "dict"), none, (.dict #[dE P "index" 449 (.int 2 443), dE P "__doc__" 451 (sV (argS (inClass 7 14)) 444)] 2), #[]⟩
noncomputable def obE172 (P : Params) : Obj := ⟨(.ref 102), (some 171), .plain, #[]⟩
noncomputable def obE173 (P : Params) : Obj := ⟨(.type "frame"), none, (.dict #[dE P "self" 445 (.ref 172), dE P "index" 446 (.int 2 443), dE P "doc" 447 (sV (argS (inClass 7 14)) 444)] 3), #[]⟩
noncomputable def obE174 (P : Params) : Obj := ⟨(.type "tuple"), none, (.seq #[] 0), #[]⟩
noncomputable def obE175 (P : Params) : Obj := ⟨(.type "list"), none, (.seq #[] 0), #[]⟩
noncomputable def obE176 (P : Params) : Obj := ⟨(.type "dict"), none, (.dict #[dE P "__module__" 337 (sV "cpy313.unittest.util" 271), dE P "__firstlineno__" 341 (.int 63 340), dE P "__doc__" 343 (sV (docS (topAt 7)) 342), dE P "__slots__" 345 (.ref 115), dE P "_fields" 349 (.ref 116), dE P "_field_defaults" 350 (.ref 117), dE P "__new__" 361 (.ref 178), dE P "_make" 383 (.ref 133), dE P "_replace" 394 (.ref 142), dE P "__replace__" 395 (.ref 142), dE P "__repr__" 403 (.ref 149), dE P "_asdict" 410 (.ref 156), dE P "__getnewargs__" 418 (.ref 163), dE P "__match_args__" 422 (.ref 164), dE P "actual" 432 (.ref 166), dE P "expected" 442 (.ref 169), dE P "value" 452 (.ref 172), dE P "__static_attributes__" 453 (.ref 174)] 2), #[]⟩
noncomputable def obE177 (P : Params) : Obj := ⟨(.type "type"), none, (.cls ⟨"Mismatch", [(.type "tuple")], [(.ref 177), (.type "tuple"), (.type "object")], 176, "Mismatch", false, [], [], false, none, false⟩), #[some (.ref 107), none, some (sV "Mismatch" 330), some (sV "Mismatch" 338), some .none, some (.bool false)]⟩
noncomputable def obE178 (P : Params) : Obj := ⟨(.type "staticmethod"), none, (.fields #[(.ref 124)]), #[]⟩
noncomputable def obE179 (P : Params) : Obj := ⟨(.type "super"), none, (.fields #[(.ref 177), (.ref 177), (.ref 177)]), #[]⟩
noncomputable def obE180 (P : Params) : Obj := ⟨(.type "builtin_function_or_method"), none, (.fields #[(.builtin "object.__init_subclass__"), (.ref 177)]), #[]⟩
noncomputable def heapE (P : Params) : Heap := ⟨#[boot_o_0 P, boot_o_1 P, boot_o_2 P, obE3 P, boot_o_4 P, boot_o_5 P, boot_o_6 P, boot_o_7 P, boot_o_8 P, boot_o_9 P, boot_o_10 P, obA11 P, obE12 P, obA13 P, obA14 P, obC15 P, obC16 P, obC17 P, obC18 P, obC19 P, obC20 P, obC21 P, obC22 P, obC23 P, obC24 P, obC25 P, obC26 P, obC27 P, obC28 P, obC29 P, obC30 P, obC31 P, obC32 P, obC33 P, obC34 P, obC35 P, obC36 P, obC37 P, obC38 P, obC39 P, obC40 P, obC41 P, obC42 P, obC43 P, obC44 P, obC45 P, obC46 P, obC47 P, obC48 P, obC49 P, obD50 P, obD51 P, obD52 P, obD53 P, obD54 P, obD55 P, obD56 P, obD57 P, obD58 P, obD59 P, obD60 P, obD61 P, obD62 P, obD63 P, obD64 P, obD65 P, obD66 P, obD67 P, obD68 P, obD69 P, obD70 P, obD71 P, obD72 P, obD73 P, obD74 P, obD75 P, obD76 P, obD77 P, obD78 P, obD79 P, obD80 P, obD81 P, obD82 P, obD83 P, obD84 P, obD85 P, obD86 P, obD87 P, obD88 P, obD89 P, obD90 P, obD91 P, obD92 P, obD93 P, obD94 P, obD95 P, obD96 P, obD97 P, obD98 P, obD99 P, obD100 P, obD101 P, obD102 P, obD103 P, obD104 P, obD105 P, obD106 P, obE107 P, obE108 P, obE109 P, obE110 P, obE111 P, obE112 P, obE113 P, obE114 P, obE115 P, obE116 P, obE117 P, obE118 P, obE119 P, obE120 P, obE121 P, obE122 P, obE123 P, obE124 P, obE125 P, obE126 P, obE127 P, obE128 P, obE129 P, obE130 P, obE131 P, obE132 P, obE133 P, obE134 P, obE135 P, obE136 P, obE137 P, obE138 P, obE139 P, obE140 P, obE141 P, obE142 P, obE143 P, obE144 P, obE145 P, obE146 P, obE147 P, obE148 P, obE149 P, obE150 P, obE151 P, obE152 P, obE153 P, obE154 P, obE155 P, obE156 P, obE157 P, obE158 P, obE159 P, obE160 P, obE161 P, obE162 P, obE163 P, obE164 P, obE165 P, obE166 P, obE167 P, obE168 P, obE169 P, obE170 P, obE171 P, obE172 P, obE173 P, obE174 P, obE175 P, obE176 P, obE177 P, obE178 P, obE179 P, obE180 P], {}⟩
/-- the top's run, cut at four statements -/
def topEnv : Env := { scope := pw.main.scope, locals := mainNs, globals := mainNs, cells := [], code := .ref 13, frame := some 14 }
def topBody : List Stmt := behindTheImports pw
abbrev q0 : Pos := ⟨0, 0, 0, 0⟩
def topC : Code := .body topBody topEnv
abbrev annV : Option Value := some (.ref 6)
noncomputable abbrev stO (w : World) (os : OsState) : Shared := ⟨boot_heap w.params, Array.mk [], boot_drawn, boot_toks, os⟩
noncomputable abbrev stA (w : World) (os : OsState) : Shared := ⟨heapA w.params, Array.mk [], {}, 187, os⟩
noncomputable abbrev stC (w : World) (os : OsState) : Shared := ⟨heapC w.params, Array.mk [], {}, 240, os⟩
noncomputable abbrev stD (w : World) (os : OsState) : Shared := ⟨heapD w.params, Array.mk [], {}, 330, os⟩
noncomputable abbrev stE (w : World) (os : OsState) : Shared := ⟨heapE w.params, Array.mk [], {}, 458, os⟩
abbrev posC : Pos := ⟨5, 0, 24, 16⟩
abbrev posD : Pos := ⟨45, 0, 62, 54⟩
abbrev posE : Pos := ⟨63, 0, 105, 55⟩
def part1 : List Stmt := topBody.take 3
def part2 : List Stmt := (topBody.drop 3).take 4
def part3 : List Stmt := (topBody.drop 7).take 1
def part4 : List Stmt := topBody.drop 8
def part1' : List Stmt := [topAt 0, topAt 1, setDoc docD (topAt 2)]
theorem part1_eq : part1 = part1' := by
  have h : part1 = [topAt 0, topAt 1, topAt 2] := by kernel_rfl
  rw [h]
  unfold part1'
  rw [← tc_eq]
theorem parts_eq : topBody = part1 ++ (part2 ++ (part3 ++ part4)) := by kernel_rfl
theorem runA (w : World) (os : OsState) : topGo treeTable pw w 11 annV 12 (stO w os) (topStub pw) = some (stA w os, ⟨denote treeTable topC, topC, q0, [topFrame q0]⟩) := by
  kernel_rfl
theorem runB (w : World) (os : OsState) : segRun treeTable pw w 11 annV 1 1 (stA w os) (blockOf topBody topEnv topC q0 [topFrame q0]) = some (.next, stA w os, topC, q0) := by kernel_rfl
theorem runC (w : World) (os : OsState) : segRun treeTable pw w 11 annV 1 302 (stA w os) (piecesOf part1 topEnv topC q0 [topFrame q0]) = some (.next, stC w os, topC, posC) := by
  rw [part1_eq]
  first | rw [PySem.W.Fast.te14374325043358763698, PySem.W.Fast.te14364793385576792824] | skip
  kernel_rfl
theorem runD (w : World) (os : OsState) : segRun treeTable pw w 11 annV 1 408 (stC w os) (piecesOf part2 topEnv topC posC [topFrame q0]) = some (.next, stD w os, topC, posD) := by
  first | rw [PySem.W.Fast.te14374325043358763698, PySem.W.Fast.te14364793385576792824] | skip
  kernel_rfl
theorem runE (w : World) (os : OsState) : segRun treeTable pw w 11 annV 1 1047 (stD w os) (piecesOf part3 topEnv topC posD [topFrame q0]) = some (.next, stE w os, topC, posE) := by
  first | rw [PySem.W.Fast.te14374325043358763698, PySem.W.Fast.te14364793385576792824] | skip
  kernel_rfl
noncomputable def topChecks (w : World) (s : Shared) : Bool := staticsOk (importedModules pw.main.body) (boot_heap w.params) s.heap && namesBound pw s.heap && gensDone s && laidKept (boot_heap w.params) s.heap
theorem runF (w : World) (os : OsState) : (topRun treeTable pw w 11 annV 450 (stE w os) (restOf part4 topEnv topC posE [topFrame q0])).map (fun s => (topChecks w s, openSeen lawView lawLoose (importedModules pw.main.body) lawXt true s, sees s.heap)) = some (true, openGood lawView lawLoose, dues) := by
  unfold topChecks openSeen openGood sees dues see0 due0 see1 due1 see2 due2 see3 due3 see4 due4 see5 due5 see6 due6 see7 due7 see8 due8 see9 due9 see10 due10
  first | rw [PySem.W.Fast.te14082659384304107361, PySem.W.Fast.te14364793385576792824] | skip
  kernel_rfl
theorem topAll (w : World) (os : OsState) : ∃ r, topRun treeTable pw w 11 annV 2400 (stO w os) (topStub pw) = some r ∧ topChecks w r = true ∧ openSeen lawView lawLoose (importedModules pw.main.body) lawXt true r = openGood lawView lawLoose ∧ sees r.heap = dues := by
  obtain ⟨r, hr, e⟩ := Option.map_eq_some_iff.mp (runF w os)
  obtain ⟨e1, e2⟩ := Prod.mk.inj e
  obtain ⟨e2, e3⟩ := Prod.mk.inj e2
  refine ⟨r, ?_, e1, e2, e3⟩
  have k3 := piece_app (runC w os) (piece_app (runD w os) (piece_app (runE w os) hr))
  rw [← parts_eq] at k3
  have k5 := topRun_mono 180 _ _ _ _ (go_top (runA w os) (piece_block (runB w os) k3))
  have hn : 12 + (1 + (302 + (408 + (1047 + 450)))) + 180 = 2400 := by decide
  rw [hn] at k5
  exact k5
theorem topSize (w : World) : ((boot_heap w.params).isNs mainGlobals && (Array.mk [] : Array GenState).size == 0, (boot_heap w.params).objs.size, (boot_heap w.params).nsMap mainGlobals "__annotations__") = (true, 11, annV) := by kernel_rfl
theorem topLeft (w : World) (os : OsState) : (topFrom treeTable pw w 2400 (stO w os)).map (fun s => (openSeen lawView lawLoose (importedModules pw.main.body) lawXt true s, sees s.heap)) = some (openGood lawView lawLoose, dues) := by
  obtain ⟨r, h1, h2, h3, h4⟩ := topAll w os
  obtain ⟨z1, z2⟩ := Prod.mk.inj (topSize w)
  obtain ⟨z2, z3⟩ := Prod.mk.inj z2
  have t : topFrom treeTable pw w 2400 (stO w os) = some r := by
    unfold topFrom
    dsimp only
    rw [z1, z2, z3, h1]
    show (match topChecks w r with | true => some r | false => none) = some r
    rw [h2]
  rw [t, Option.map_some, h3, h4]
end Mine
set_option maxHeartbeats 8000000
namespace Mine
open PySem PySem.W PyProof.Rows PySem.Calls PySem.Spec Builtin Builtin.ObjectAttr
theorem fragOf_in (h : Heap) : (fragOf h).In h := fun a o e => by
  obtain ⟨b, _, e2⟩ := List.mem_filterMap.mp (mem_of_lookupK e)
  obtain ⟨x, hx, e3⟩ := Option.map_eq_some_iff.mp e2
  cases e3
  exact hx
theorem left : LeftO pw lawView lawLoose lawXt (fun s => sees s.heap) (fun _ => dues) 2400 := fun w => by
  obtain ⟨⟨h, gs, d, k, os⟩, e, e'⟩ := Option.map_eq_some_iff.mp (boot_open (p := pw) (N := 2400) (by kernel_rfl) (by decide) (fun s => by kernel_rfl) w)
  simp only [Prod.mk.injEq] at e'
  obtain ⟨rfl, rfl, rfl, rfl⟩ := e'
  unfold openEnds
  rw [e, Option.bind_some]
  exact topLeft w os
def lawYP (_ : World) (h : Heap) : Prop := ∃ h₀, sees h₀ = dues ∧ ∀ b o, h₀.get? b = some o → h.get? b = some o

/-- what has been seen -/
structure Facts (K : Frag) : Prop where
  f0 : see0 K = due0
  f1 : see1 K = due1
  f2 : see2 K = due2
  f3 : see3 K = due3
  f4 : see4 K = due4
  f5 : see5 K = due5
  f6 : see6 K = due6
  f7 : see7 K = due7
  f8 : see8 K = due8
  f9 : see9 K = due9
  f10 : see10 K = due10
theorem facts_of {h : Heap} (e : sees h = dues) : Facts (fragOf h) ∧ h.get? 58 = some (tabObj #[]) := by
  unfold sees dues at e
  simp only [Prod.mk.injEq] at e
  obtain ⟨a0, a1, a2, a3, a4, a5, a6, a7, a8, a9, a10, a11⟩ := e
  exact ⟨⟨a0, a1, a2, a3, a4, a5, a6, a7, a8, a9, a10⟩, a11⟩
structure Oks (K : Frag) : Prop where
  o0 : noTabs K = true
  o1 : codeHdIn K 62 58 = true
  o2 : fnL.all (fnB K) = true
  o3 : plainGet K 45 cCmp = true
  o4 : plainGet K 45 cSel = true
  o5 : hasDictIn K 45 = true
  o6 : makesIn K 45 = true
  o7 : isFn K (.ref 42) = true
  o8 : keepIn K (.ref 42) = true
  o9 : keepIn K (.ref 45) = true
  o10 : plainOver K 45 = true
  o11 : misIn K 177 = true
  o12 : readsIn K 177 (.type "type") = true
  o13 : keepIn K (.ref 177) = true
  o14 : plainGet K 102 "index" = true
  o15 : descrB K 166 165 = true
  o16 : descrB K 169 168 = true
  o17 : descrB K 172 171 = true
theorem Facts.oks {K : Frag} (F : Facts K) : Oks K := by
  have e := F.f0
  unfold see0 due0 at e
  simp only [Bool.and_eq_true] at e
  obtain ⟨⟨⟨⟨⟨⟨⟨⟨⟨⟨⟨⟨⟨⟨⟨⟨⟨o0, o1⟩, o2⟩, o3⟩, o4⟩, o5⟩, o6⟩, o7⟩, o8⟩, o9⟩, o10⟩, o11⟩, o12⟩, o13⟩, o14⟩, o15⟩, o16⟩, o17⟩ := e
  exact ⟨o0, o1, o2, o3, o4, o5, o6, o7, o8, o9, o10, o11, o12, o13, o14, o15, o16, o17⟩
theorem fn_at_of {K : Frag} {a : Addr} (h : fnB K a = true) : K.lookup a = some (fnObj K a) ∧ codeIn K (fdOf K a).code (fdOf K a).qualname = true ∧ (fdOf K a).globals = mainGlobals ∧ (fdOf K a).builtins = builtinsNs ∧ (fdOf K a).closure = [] := by
  unfold fnB at h
  simp only [Bool.and_eq_true, beq_iff_eq] at h
  obtain ⟨⟨⟨⟨h1, h2⟩, h3⟩, h4⟩, h5⟩ := h
  refine ⟨?_, h2, h3, h4, List.isEmpty_iff.mp h5⟩
  split at h1
  · rename_i t fd sl e
    simp only [Bool.and_eq_true, beq_iff_eq, List.isEmpty_iff] at h1
    obtain ⟨rfl, h1⟩ := h1
    have hs : sl = #[] := by cases sl; cases h1; rfl
    subst hs
    unfold fnObj fdOf
    rw [e]
  · cases h1
theorem chk_of {K : Frag} {a : Addr} {body : List Stmt} {scope : Scope} {params : List Str} (h : fnB K a = true) (h2 : ((fdOf K a).body, (fdOf K a).scope) = (FuncBody.stmts body, scope)) (hb : ∀ (S : Setting) (vs : List Value), vs.length = params.length → peek K S (bindArgs (fdOf K a) ⟨vs, []⟩) = some (params.zip vs)) : Chk K a body scope params :=
  let ⟨q1, q2, q3, q4, q5⟩ := fn_at_of h
  ⟨q1, (Prod.mk.inj h2).1, (Prod.mk.inj h2).2, q2, q3, q4, q5, hb⟩
theorem fn_in {K : Frag} (F : Facts K) {a : Addr} (h : fnL.contains a = true) : fnB K a = true := List.all_eq_true.mp F.oks.o2 a (List.contains_iff_mem.mp h)
theorem nd_of {l : List Str} (h : dup l = false) : l.Nodup := nodup_of h
def cfg (w : World) (mg mb : Str → Option Value) (K : Frag) (hK : noTabs K = true) : Cfg where
  prog := pw
  w := w
  P := 58
  cA := 62
  ln := (genPosOf callers_body).line
  cl := (genPosOf callers_body).col
  K := K
  mg := mg
  mb := mb
  TC := 45
  MM := 177
  hK := hK
section
variable {K : Frag} (F : Facts K)
include F
theorem chk_stats : Chk K 56 stats_body stats_scope ["target", "source"] :=
  chk_of (fn_in F (by rfl)) (Option.some.inj (congrArg (fun l => l[0]?) F.f1)) fun S vs h => by
    obtain ⟨x, y, rfl⟩ := len2 h
    have e : (fun S x y => peek K S (bindArgs (fdOf K 56) ⟨[x, y], []⟩)) = fun S x y => some ((["target", "source"] : List Str).zip [x, y]) := Option.some.inj (congrArg (fun l => l[0]?) F.f3)
    exact congrFun (congrFun (congrFun e S) x) y
theorem chk_callers : Chk K 63 callers_body callers_scope ["target", "source"] :=
  chk_of (fn_in F (by rfl)) (Option.some.inj (congrArg (fun l => l[1]?) F.f1)) fun S vs h => by
    obtain ⟨x, y, rfl⟩ := len2 h
    have e : (fun S x y => peek K S (bindArgs (fdOf K 63) ⟨[x, y], []⟩)) = fun S x y => some ((["target", "source"] : List Str).zip [x, y]) := Option.some.inj (congrArg (fun l => l[1]?) F.f3)
    exact congrFun (congrFun (congrFun e S) x) y
theorem chk_vector : Chk K 194 vector_body vector_scope ["x"] :=
  chk_of (fn_in F (by rfl)) (Option.some.inj (congrArg (fun l => l[2]?) F.f1)) fun S vs h => by
    obtain ⟨x, rfl⟩ := len1 h
    have e : (fun S x => peek K S (bindArgs (fdOf K 194) ⟨[x], []⟩)) = fun S x => some ((["x"] : List Str).zip [x]) := Option.some.inj (congrArg (fun l => l[0]?) F.f2)
    exact congrFun (congrFun e S) x
theorem chk_entry : Chk K 201 entry_body entry_scope ["vector", "wide"] :=
  chk_of (fn_in F (by rfl)) (Option.some.inj (congrArg (fun l => l[3]?) F.f1)) fun S vs h => by
    obtain ⟨x, y, rfl⟩ := len2 h
    have e : (fun S x y => peek K S (bindArgs (fdOf K 201) ⟨[x, y], []⟩)) = fun S x y => some ((["vector", "wide"] : List Str).zip [x, y]) := Option.some.inj (congrArg (fun l => l[2]?) F.f3)
    exact congrFun (congrFun (congrFun e S) x) y
theorem chk_together : Chk K 206 together_body together_scope ["vectors"] :=
  chk_of (fn_in F (by rfl)) (Option.some.inj (congrArg (fun l => l[4]?) F.f1)) fun S vs h => by
    obtain ⟨x, rfl⟩ := len1 h
    have e : (fun S x => peek K S (bindArgs (fdOf K 206) ⟨[x], []⟩)) = fun S x => some ((["vectors"] : List Str).zip [x]) := Option.some.inj (congrArg (fun l => l[1]?) F.f2)
    exact congrFun (congrFun e S) x
theorem chk_orders : Chk K 211 orders_body orders_scope ["n"] :=
  chk_of (fn_in F (by rfl)) (Option.some.inj (congrArg (fun l => l[5]?) F.f1)) fun S vs h => by
    obtain ⟨x, rfl⟩ := len1 h
    have e : (fun S x => peek K S (bindArgs (fdOf K 211) ⟨[x], []⟩)) = fun S x => some ((["n"] : List Str).zip [x]) := Option.some.inj (congrArg (fun l => l[2]?) F.f2)
    exact congrFun (congrFun e S) x
theorem chk_along : Chk K 218 along_body along_scope ["entries"] :=
  chk_of (fn_in F (by rfl)) (Option.some.inj (congrArg (fun l => l[6]?) F.f1)) fun S vs h => by
    obtain ⟨x, rfl⟩ := len1 h
    have e : (fun S x => peek K S (bindArgs (fdOf K 218) ⟨[x], []⟩)) = fun S x => some ((["entries"] : List Str).zip [x]) := Option.some.inj (congrArg (fun l => l[3]?) F.f2)
    exact congrFun (congrFun e S) x
theorem chk_greatest : Chk K 225 greatest_body greatest_scope ["sums", "comp"] :=
  chk_of (fn_in F (by rfl)) (Option.some.inj (congrArg (fun l => l[7]?) F.f1)) fun S vs h => by
    obtain ⟨x, y, rfl⟩ := len2 h
    have e : (fun S x y => peek K S (bindArgs (fdOf K 225) ⟨[x, y], []⟩)) = fun S x y => some ((["sums", "comp"] : List Str).zip [x, y]) := Option.some.inj (congrArg (fun l => l[3]?) F.f3)
    exact congrFun (congrFun (congrFun e S) x) y
theorem chk_rings : Chk K 230 rings_body rings_scope ["order"] :=
  chk_of (fn_in F (by rfl)) (Option.some.inj (congrArg (fun l => l[8]?) F.f1)) fun S vs h => by
    obtain ⟨x, rfl⟩ := len1 h
    have e : (fun S x => peek K S (bindArgs (fdOf K 230) ⟨[x], []⟩)) = fun S x => some ((["order"] : List Str).zip [x]) := Option.some.inj (congrArg (fun l => l[4]?) F.f2)
    exact congrFun (congrFun e S) x
theorem chk_above : Chk K 235 above_body above_scope ["entries", "order", "comp"] :=
  chk_of (fn_in F (by rfl)) (Option.some.inj (congrArg (fun l => l[9]?) F.f1)) fun S vs h => by
    obtain ⟨x, y, z, rfl⟩ := len3 h
    have e : (fun S x y z => peek K S (bindArgs (fdOf K 235) ⟨[x, y, z], []⟩)) = fun S x y z => some ((["entries", "order", "comp"] : List Str).zip [x, y, z]) := Option.some.inj (congrArg (fun l => l[0]?) F.f4)
    exact congrFun (congrFun (congrFun (congrFun e S) x) y) z
theorem chk_sign : Chk K 240 sign_body sign_scope ["one", "other", "picks"] :=
  chk_of (fn_in F (by rfl)) (Option.some.inj (congrArg (fun l => l[10]?) F.f1)) fun S vs h => by
    obtain ⟨x, y, z, rfl⟩ := len3 h
    have e : (fun S x y z => peek K S (bindArgs (fdOf K 240) ⟨[x, y, z], []⟩)) = fun S x y z => some ((["one", "other", "picks"] : List Str).zip [x, y, z]) := Option.some.inj (congrArg (fun l => l[1]?) F.f4)
    exact congrFun (congrFun (congrFun (congrFun e S) x) y) z
theorem chk_whole : Chk K 247 whole_body whole_scope ["x"] :=
  chk_of (fn_in F (by rfl)) (Option.some.inj (congrArg (fun l => l[11]?) F.f1)) fun S vs h => by
    obtain ⟨x, rfl⟩ := len1 h
    have e : (fun S x => peek K S (bindArgs (fdOf K 247) ⟨[x], []⟩)) = fun S x => some ((["x"] : List Str).zip [x]) := Option.some.inj (congrArg (fun l => l[5]?) F.f2)
    exact congrFun (congrFun e S) x
theorem chk_rows : Chk K 254 rows_body rows_scope ["one", "other"] :=
  chk_of (fn_in F (by rfl)) (Option.some.inj (congrArg (fun l => l[12]?) F.f1)) fun S vs h => by
    obtain ⟨x, y, rfl⟩ := len2 h
    have e : (fun S x y => peek K S (bindArgs (fdOf K 254) ⟨[x, y], []⟩)) = fun S x y => some ((["one", "other"] : List Str).zip [x, y]) := Option.some.inj (congrArg (fun l => l[4]?) F.f3)
    exact congrFun (congrFun (congrFun e S) x) y
theorem chk_diff : Chk K 187 diff_body diff_scope ["actual", "expected"] :=
  chk_of (fn_in F (by rfl)) (Option.some.inj (congrArg (fun l => l[13]?) F.f1)) fun S vs h => by
    obtain ⟨x, y, rfl⟩ := len2 h
    have e : (fun S x y => peek K S (bindArgs (fdOf K 187) ⟨[x, y], []⟩)) = fun S x y => some ((["actual", "expected"] : List Str).zip [x, y]) := Option.some.inj (congrArg (fun l => l[5]?) F.f3)
    exact congrFun (congrFun (congrFun e S) x) y
theorem chk_law : Chk K 259 law_body law_scope ["script"] :=
  chk_of (fn_in F (by rfl)) (Option.some.inj (congrArg (fun l => l[14]?) F.f1)) fun S vs h => by
    obtain ⟨x, rfl⟩ := len1 h
    have e : (fun S x => peek K S (bindArgs (fdOf K 259) ⟨[x], []⟩)) = fun S x => some ((["script"] : List Str).zip [x]) := Option.some.inj (congrArg (fun l => l[6]?) F.f2)
    exact congrFun (congrFun e S) x
theorem chk_init : Chk K 35 init_body init_scope ["self", "comp_select_list"] :=
  chk_of (fn_in F (by rfl)) (Option.some.inj (congrArg (fun l => l[15]?) F.f1)) fun S vs h => by
    obtain ⟨x, y, rfl⟩ := len2 h
    have e : (fun S x y => peek K S (bindArgs (fdOf K 35) ⟨[x, y], []⟩)) = fun S x y => some ((["self", "comp_select_list"] : List Str).zip [x, y]) := Option.some.inj (congrArg (fun l => l[6]?) F.f3)
    exact congrFun (congrFun (congrFun e S) x) y
theorem chk_compare : Chk K 42 compare_body compare_scope ["self", "left", "right"] :=
  chk_of (fn_in F (by rfl)) (Option.some.inj (congrArg (fun l => l[16]?) F.f1)) fun S vs h => by
    obtain ⟨x, y, z, rfl⟩ := len3 h
    have e : (fun S x y z => peek K S (bindArgs (fdOf K 42) ⟨[x, y, z], []⟩)) = fun S x y z => some ((["self", "left", "right"] : List Str).zip [x, y, z]) := Option.some.inj (congrArg (fun l => l[2]?) F.f4)
    exact congrFun (congrFun (congrFun (congrFun e S) x) y) z
theorem chk_get : Chk K 85 get_body get_scope ["self", "obj", "objtype"] :=
  chk_of (fn_in F (by rfl)) (Option.some.inj (congrArg (fun l => l[17]?) F.f1)) fun S vs h => by
    obtain ⟨x, y, z, rfl⟩ := len3 h
    have e : (fun S x y z => peek K S (bindArgs (fdOf K 85) ⟨[x, y, z], []⟩)) = fun S x y z => some ((["self", "obj", "objtype"] : List Str).zip [x, y, z]) := Option.some.inj (congrArg (fun l => l[3]?) F.f4)
    exact congrFun (congrFun (congrFun (congrFun e S) x) y) z
theorem chk_new : Chk K 124 new_body new_scope ["_cls", "actual", "expected", "value"] :=
  chk_of (fn_in F (by rfl)) (Option.some.inj (congrArg (fun l => l[18]?) F.f1)) fun S vs h => by
    obtain ⟨x, y, z, u, rfl⟩ := len4 h
    have e : (fun S x y z u => peek K S (bindArgs (fdOf K 124) ⟨[x, y, z, u], []⟩)) = fun S x y z u => some ((["_cls", "actual", "expected", "value"] : List Str).zip [x, y, z, u]) := Option.some.inj (congrArg (fun l => l[0]?) F.f5)
    exact congrFun (congrFun (congrFun (congrFun (congrFun e S) x) y) z) u
end
theorem ok_stats {C : Cfg} (F : Facts C.K) : DefOK C 56 (fnObj C.K 56) (fdOf C.K 56) stats_body ["target", "source"] :=
  (chk_stats F).ok (fun p hp => by
    simp only [List.mem_cons, List.not_mem_nil, or_false] at hp
    rcases hp with rfl | rfl <;> first | exact .inl rfl | exact .inr ⟨rfl, fun _ => rfl⟩) (nd_of (by rfl))
def at_stats {C : Cfg} (F : Facts C.K) (hm : C.mg "add_func_stats" = some (.ref 56)) : DefAt C "add_func_stats" stats_body stats_scope ["target", "source"] := ⟨56, fnObj C.K 56, fdOf C.K 56, ok_stats F, (chk_stats F).sc, hm⟩
theorem ok_callers {C : Cfg} (F : Facts C.K) : DefOK C 63 (fnObj C.K 63) (fdOf C.K 63) callers_body ["target", "source"] :=
  (chk_callers F).ok (fun p hp => by
    simp only [List.mem_cons, List.not_mem_nil, or_false] at hp
    rcases hp with rfl | rfl <;> first | exact .inl rfl | exact .inr ⟨rfl, fun _ => rfl⟩) (nd_of (by rfl))
def at_callers {C : Cfg} (F : Facts C.K) (hm : C.mg "add_callers" = some (.ref 63)) : DefAt C "add_callers" callers_body callers_scope ["target", "source"] := ⟨63, fnObj C.K 63, fdOf C.K 63, ok_callers F, (chk_callers F).sc, hm⟩
theorem ok_vector {C : Cfg} (F : Facts C.K) : DefOK C 194 (fnObj C.K 194) (fdOf C.K 194) vector_body ["x"] :=
  (chk_vector F).ok (fun p hp => by
    simp only [List.mem_cons, List.not_mem_nil, or_false] at hp
    subst hp
    first | exact .inl rfl | exact .inr ⟨rfl, fun _ => rfl⟩) (nd_of (by rfl))
def at_vector {C : Cfg} (F : Facts C.K) (hm : C.mg "_law_vector" = some (.ref 194)) : DefAt C "_law_vector" vector_body vector_scope ["x"] := ⟨194, fnObj C.K 194, fdOf C.K 194, ok_vector F, (chk_vector F).sc, hm⟩
theorem ok_entry {C : Cfg} (F : Facts C.K) : DefOK C 201 (fnObj C.K 201) (fdOf C.K 201) entry_body ["vector", "wide"] :=
  (chk_entry F).ok (fun p hp => by
    simp only [List.mem_cons, List.not_mem_nil, or_false] at hp
    rcases hp with rfl | rfl <;> first | exact .inl rfl | exact .inr ⟨rfl, fun _ => rfl⟩) (nd_of (by rfl))
def at_entry {C : Cfg} (F : Facts C.K) (hm : C.mg "_law_entry" = some (.ref 201)) : DefAt C "_law_entry" entry_body entry_scope ["vector", "wide"] := ⟨201, fnObj C.K 201, fdOf C.K 201, ok_entry F, (chk_entry F).sc, hm⟩
theorem ok_together {C : Cfg} (F : Facts C.K) : DefOK C 206 (fnObj C.K 206) (fdOf C.K 206) together_body ["vectors"] :=
  (chk_together F).ok (fun p hp => by
    simp only [List.mem_cons, List.not_mem_nil, or_false] at hp
    subst hp
    first | exact .inl rfl | exact .inr ⟨rfl, fun _ => rfl⟩) (nd_of (by rfl))
def at_together {C : Cfg} (F : Facts C.K) (hm : C.mg "_law_together" = some (.ref 206)) : DefAt C "_law_together" together_body together_scope ["vectors"] := ⟨206, fnObj C.K 206, fdOf C.K 206, ok_together F, (chk_together F).sc, hm⟩
theorem ok_orders {C : Cfg} (F : Facts C.K) : DefOK C 211 (fnObj C.K 211) (fdOf C.K 211) orders_body ["n"] :=
  (chk_orders F).ok (fun p hp => by
    simp only [List.mem_cons, List.not_mem_nil, or_false] at hp
    subst hp
    first | exact .inl rfl | exact .inr ⟨rfl, fun _ => rfl⟩) (nd_of (by rfl))
def at_orders {C : Cfg} (F : Facts C.K) (hm : C.mg "_law_orders" = some (.ref 211)) : DefAt C "_law_orders" orders_body orders_scope ["n"] := ⟨211, fnObj C.K 211, fdOf C.K 211, ok_orders F, (chk_orders F).sc, hm⟩
theorem ok_along {C : Cfg} (F : Facts C.K) : DefOK C 218 (fnObj C.K 218) (fdOf C.K 218) along_body ["entries"] :=
  (chk_along F).ok (fun p hp => by
    simp only [List.mem_cons, List.not_mem_nil, or_false] at hp
    subst hp
    first | exact .inl rfl | exact .inr ⟨rfl, fun _ => rfl⟩) (nd_of (by rfl))
def at_along {C : Cfg} (F : Facts C.K) (hm : C.mg "_law_along" = some (.ref 218)) : DefAt C "_law_along" along_body along_scope ["entries"] := ⟨218, fnObj C.K 218, fdOf C.K 218, ok_along F, (chk_along F).sc, hm⟩
theorem ok_greatest {C : Cfg} (F : Facts C.K) : DefOK C 225 (fnObj C.K 225) (fdOf C.K 225) greatest_body ["sums", "comp"] :=
  (chk_greatest F).ok (fun p hp => by
    simp only [List.mem_cons, List.not_mem_nil, or_false] at hp
    rcases hp with rfl | rfl <;> first | exact .inl rfl | exact .inr ⟨rfl, fun _ => rfl⟩) (nd_of (by rfl))
def at_greatest {C : Cfg} (F : Facts C.K) (hm : C.mg "_law_greatest" = some (.ref 225)) : DefAt C "_law_greatest" greatest_body greatest_scope ["sums", "comp"] := ⟨225, fnObj C.K 225, fdOf C.K 225, ok_greatest F, (chk_greatest F).sc, hm⟩
theorem ok_rings {C : Cfg} (F : Facts C.K) : DefOK C 230 (fnObj C.K 230) (fdOf C.K 230) rings_body ["order"] :=
  (chk_rings F).ok (fun p hp => by
    simp only [List.mem_cons, List.not_mem_nil, or_false] at hp
    subst hp
    first | exact .inl rfl | exact .inr ⟨rfl, fun _ => rfl⟩) (nd_of (by rfl))
def at_rings {C : Cfg} (F : Facts C.K) (hm : C.mg "_law_rings" = some (.ref 230)) : DefAt C "_law_rings" rings_body rings_scope ["order"] := ⟨230, fnObj C.K 230, fdOf C.K 230, ok_rings F, (chk_rings F).sc, hm⟩
theorem ok_above {C : Cfg} (F : Facts C.K) : DefOK C 235 (fnObj C.K 235) (fdOf C.K 235) above_body ["entries", "order", "comp"] :=
  (chk_above F).ok (fun p hp => by
    simp only [List.mem_cons, List.not_mem_nil, or_false] at hp
    rcases hp with rfl | rfl | rfl <;> first | exact .inl rfl | exact .inr ⟨rfl, fun _ => rfl⟩) (nd_of (by rfl))
def at_above {C : Cfg} (F : Facts C.K) (hm : C.mg "_law_above" = some (.ref 235)) : DefAt C "_law_above" above_body above_scope ["entries", "order", "comp"] := ⟨235, fnObj C.K 235, fdOf C.K 235, ok_above F, (chk_above F).sc, hm⟩
theorem ok_sign {C : Cfg} (F : Facts C.K) : DefOK C 240 (fnObj C.K 240) (fdOf C.K 240) sign_body ["one", "other", "picks"] :=
  (chk_sign F).ok (fun p hp => by
    simp only [List.mem_cons, List.not_mem_nil, or_false] at hp
    rcases hp with rfl | rfl | rfl <;> first | exact .inl rfl | exact .inr ⟨rfl, fun _ => rfl⟩) (nd_of (by rfl))
def at_sign {C : Cfg} (F : Facts C.K) (hm : C.mg "_law_sign" = some (.ref 240)) : DefAt C "_law_sign" sign_body sign_scope ["one", "other", "picks"] := ⟨240, fnObj C.K 240, fdOf C.K 240, ok_sign F, (chk_sign F).sc, hm⟩
theorem ok_whole {C : Cfg} (F : Facts C.K) : DefOK C 247 (fnObj C.K 247) (fdOf C.K 247) whole_body ["x"] :=
  (chk_whole F).ok (fun p hp => by
    simp only [List.mem_cons, List.not_mem_nil, or_false] at hp
    subst hp
    first | exact .inl rfl | exact .inr ⟨rfl, fun _ => rfl⟩) (nd_of (by rfl))
def at_whole {C : Cfg} (F : Facts C.K) (hm : C.mg "_law_whole" = some (.ref 247)) : DefAt C "_law_whole" whole_body whole_scope ["x"] := ⟨247, fnObj C.K 247, fdOf C.K 247, ok_whole F, (chk_whole F).sc, hm⟩
theorem ok_rows {C : Cfg} (F : Facts C.K) : DefOK C 254 (fnObj C.K 254) (fdOf C.K 254) rows_body ["one", "other"] :=
  (chk_rows F).ok (fun p hp => by
    simp only [List.mem_cons, List.not_mem_nil, or_false] at hp
    rcases hp with rfl | rfl <;> first | exact .inl rfl | exact .inr ⟨rfl, fun _ => rfl⟩) (nd_of (by rfl))
def at_rows {C : Cfg} (F : Facts C.K) (hm : C.mg "_law_rows" = some (.ref 254)) : DefAt C "_law_rows" rows_body rows_scope ["one", "other"] := ⟨254, fnObj C.K 254, fdOf C.K 254, ok_rows F, (chk_rows F).sc, hm⟩
theorem ok_diff {C : Cfg} (F : Facts C.K) : DefOK C 187 (fnObj C.K 187) (fdOf C.K 187) diff_body ["actual", "expected"] :=
  (chk_diff F).ok (fun p hp => by
    simp only [List.mem_cons, List.not_mem_nil, or_false] at hp
    rcases hp with rfl | rfl <;> first | exact .inl rfl | exact .inr ⟨rfl, fun _ => rfl⟩) (nd_of (by rfl))
def at_diff {C : Cfg} (F : Facts C.K) (hm : C.mg "_count_diff_all_purpose" = some (.ref 187)) : DefAt C "_count_diff_all_purpose" diff_body diff_scope ["actual", "expected"] := ⟨187, fnObj C.K 187, fdOf C.K 187, ok_diff F, (chk_diff F).sc, hm⟩
theorem ok_law {C : Cfg} (F : Facts C.K) : DefOK C 259 (fnObj C.K 259) (fdOf C.K 259) law_body ["script"] :=
  (chk_law F).ok (fun p hp => by
    simp only [List.mem_cons, List.not_mem_nil, or_false] at hp
    subst hp
    first | exact .inl rfl | exact .inr ⟨rfl, fun _ => rfl⟩) (nd_of (by rfl))
def at_law {C : Cfg} (F : Facts C.K) : FnAt C law_body law_scope ["script"] := ⟨259, fnObj C.K 259, fdOf C.K 259, ok_law F, (chk_law F).sc⟩
theorem ok_init {C : Cfg} (F : Facts C.K) : DefOK C 35 (fnObj C.K 35) (fdOf C.K 35) init_body ["self", "comp_select_list"] :=
  (chk_init F).ok (fun p hp => by
    simp only [List.mem_cons, List.not_mem_nil, or_false] at hp
    rcases hp with rfl | rfl <;> first | exact .inl rfl | exact .inr ⟨rfl, fun _ => rfl⟩) (nd_of (by rfl))
def at_init {C : Cfg} (F : Facts C.K) : FnAt C init_body init_scope ["self", "comp_select_list"] := ⟨35, fnObj C.K 35, fdOf C.K 35, ok_init F, (chk_init F).sc⟩
theorem ok_compare {C : Cfg} (F : Facts C.K) : DefOK C 42 (fnObj C.K 42) (fdOf C.K 42) compare_body ["self", "left", "right"] :=
  (chk_compare F).ok (fun p hp => by
    simp only [List.mem_cons, List.not_mem_nil, or_false] at hp
    rcases hp with rfl | rfl | rfl <;> first | exact .inl rfl | exact .inr ⟨rfl, fun _ => rfl⟩) (nd_of (by rfl))
def at_compare {C : Cfg} (F : Facts C.K) : FnAt C compare_body compare_scope ["self", "left", "right"] := ⟨42, fnObj C.K 42, fdOf C.K 42, ok_compare F, (chk_compare F).sc⟩
theorem ok_get {C : Cfg} (F : Facts C.K) : DefOK C 85 (fnObj C.K 85) (fdOf C.K 85) get_body ["self", "obj", "objtype"] :=
  (chk_get F).ok (fun p hp => by
    simp only [List.mem_cons, List.not_mem_nil, or_false] at hp
    rcases hp with rfl | rfl | rfl <;> first | exact .inl rfl | exact .inr ⟨rfl, fun _ => rfl⟩) (nd_of (by rfl))
def at_get {C : Cfg} (F : Facts C.K) : FnAt C get_body get_scope ["self", "obj", "objtype"] := ⟨85, fnObj C.K 85, fdOf C.K 85, ok_get F, (chk_get F).sc⟩
theorem ok_new {C : Cfg} (F : Facts C.K) : DefOK C 124 (fnObj C.K 124) (fdOf C.K 124) new_body ["_cls", "actual", "expected", "value"] :=
  (chk_new F).ok (fun p hp => by
    simp only [List.mem_cons, List.not_mem_nil, or_false] at hp
    rcases hp with rfl | rfl | rfl | rfl <;> first | exact .inl rfl | exact .inr ⟨rfl, fun _ => rfl⟩) (nd_of (by rfl))
def at_new {C : Cfg} (F : Facts C.K) : FnAt C new_body new_scope ["_cls", "actual", "expected", "value"] := ⟨124, fnObj C.K 124, fdOf C.K 124, ok_new F, (chk_new F).sc⟩
/-- what the names stand for -/
structure Nm (C : Cfg) (h : Heap) : Prop where
  X : C.K.In h
  G : h.Ns mainGlobals C.mg
  hb : ∀ x : Str, x ≠ "__name__" → C.mb x = bootBuiltins x
section
variable {C : Cfg} {h : Heap} (N : Nm C h) (F : Facts C.K)
include N F
theorem mg_TupleComp : C.mg "TupleComp" = some (.ref 45) := mg_of N.X N.G (Option.some.inj (congrArg (fun l => l[7]?) F.f6))
theorem mg__Mismatch : C.mg "_Mismatch" = some (.ref 177) := mg_of N.X N.G (Option.some.inj (congrArg (fun l => l[8]?) F.f6))
theorem mg_law : C.mg "law" = some (.ref 259) := mg_of N.X N.G (Option.some.inj (congrArg (fun l => l[9]?) F.f6))
theorem mg_add_func_stats : C.mg "add_func_stats" = some (.ref 56) := mg_of N.X N.G (Option.some.inj (congrArg (fun l => l[10]?) F.f6))
theorem mg_add_callers : C.mg "add_callers" = some (.ref 63) := mg_of N.X N.G (Option.some.inj (congrArg (fun l => l[11]?) F.f6))
theorem mg__law_vector : C.mg "_law_vector" = some (.ref 194) := mg_of N.X N.G (Option.some.inj (congrArg (fun l => l[12]?) F.f6))
theorem mg__law_entry : C.mg "_law_entry" = some (.ref 201) := mg_of N.X N.G (Option.some.inj (congrArg (fun l => l[13]?) F.f6))
theorem mg__law_together : C.mg "_law_together" = some (.ref 206) := mg_of N.X N.G (Option.some.inj (congrArg (fun l => l[14]?) F.f6))
theorem mg__law_orders : C.mg "_law_orders" = some (.ref 211) := mg_of N.X N.G (Option.some.inj (congrArg (fun l => l[15]?) F.f6))
theorem mg__law_along : C.mg "_law_along" = some (.ref 218) := mg_of N.X N.G (Option.some.inj (congrArg (fun l => l[16]?) F.f6))
theorem mg__law_greatest : C.mg "_law_greatest" = some (.ref 225) := mg_of N.X N.G (Option.some.inj (congrArg (fun l => l[17]?) F.f6))
theorem mg__law_rings : C.mg "_law_rings" = some (.ref 230) := mg_of N.X N.G (Option.some.inj (congrArg (fun l => l[18]?) F.f6))
theorem mg__law_above : C.mg "_law_above" = some (.ref 235) := mg_of N.X N.G (Option.some.inj (congrArg (fun l => l[19]?) F.f6))
theorem mg__law_sign : C.mg "_law_sign" = some (.ref 240) := mg_of N.X N.G (Option.some.inj (congrArg (fun l => l[20]?) F.f6))
theorem mg__law_whole : C.mg "_law_whole" = some (.ref 247) := mg_of N.X N.G (Option.some.inj (congrArg (fun l => l[21]?) F.f6))
theorem mg__law_rows : C.mg "_law_rows" = some (.ref 254) := mg_of N.X N.G (Option.some.inj (congrArg (fun l => l[22]?) F.f6))
theorem mg__count_diff_all_purpose : C.mg "_count_diff_all_purpose" = some (.ref 187) := mg_of N.X N.G (Option.some.inj (congrArg (fun l => l[23]?) F.f6))
theorem b1_len : B1 C "len" (.builtin "len") := ⟨mg_none_of N.X N.G (Option.some.inj (congrArg (fun l => l[24]?) F.f6)), (N.hb _ (by decide)).trans (by decide +kernel)⟩
theorem b1_sum : B1 C "sum" (.builtin "sum") := ⟨mg_none_of N.X N.G (Option.some.inj (congrArg (fun l => l[25]?) F.f6)), (N.hb _ (by decide)).trans (by decide +kernel)⟩
theorem b1_min : B1 C "min" (.builtin "min") := ⟨mg_none_of N.X N.G (Option.some.inj (congrArg (fun l => l[26]?) F.f6)), (N.hb _ (by decide)).trans (by decide +kernel)⟩
theorem b1_abs : B1 C "abs" (.builtin "abs") := ⟨mg_none_of N.X N.G (Option.some.inj (congrArg (fun l => l[27]?) F.f6)), (N.hb _ (by decide)).trans (by decide +kernel)⟩
theorem b1_isinstance : B1 C "isinstance" (.builtin "isinstance") := ⟨mg_none_of N.X N.G (Option.some.inj (congrArg (fun l => l[28]?) F.f6)), (N.hb _ (by decide)).trans (by decide +kernel)⟩
theorem b1_list : B1 C "list" (.type "list") := ⟨mg_none_of N.X N.G (Option.some.inj (congrArg (fun l => l[29]?) F.f6)), (N.hb _ (by decide)).trans (by decide +kernel)⟩
theorem b1_range : B1 C "range" (.type "range") := ⟨mg_none_of N.X N.G (Option.some.inj (congrArg (fun l => l[30]?) F.f6)), (N.hb _ (by decide)).trans (by decide +kernel)⟩
theorem b1_tuple : B1 C "tuple" (.type "tuple") := ⟨mg_none_of N.X N.G (Option.some.inj (congrArg (fun l => l[31]?) F.f6)), (N.hb _ (by decide)).trans (by decide +kernel)⟩
theorem b1_zip : B1 C "zip" (.type "zip") := ⟨mg_none_of N.X N.G (Option.some.inj (congrArg (fun l => l[32]?) F.f6)), (N.hb _ (by decide)).trans (by decide +kernel)⟩
theorem b1_enumerate : B1 C "enumerate" (.type "enumerate") := ⟨mg_none_of N.X N.G (Option.some.inj (congrArg (fun l => l[33]?) F.f6)), (N.hb _ (by decide)).trans (by decide +kernel)⟩
theorem b1_object : B1 C "object" (.type "object") := ⟨mg_none_of N.X N.G (Option.some.inj (congrArg (fun l => l[34]?) F.f6)), (N.hb _ (by decide)).trans (by decide +kernel)⟩
theorem b1_int : B1 C "int" (.type "int") := ⟨mg_none_of N.X N.G (Option.some.inj (congrArg (fun l => l[35]?) F.f6)), (N.hb _ (by decide)).trans (by decide +kernel)⟩
theorem b1_bool : B1 C "bool" (.type "bool") := ⟨mg_none_of N.X N.G (Option.some.inj (congrArg (fun l => l[36]?) F.f6)), (N.hb _ (by decide)).trans (by decide +kernel)⟩
theorem b1_type : B1 C "type" (.type "type") := ⟨mg_none_of N.X N.G (Option.some.inj (congrArg (fun l => l[37]?) F.f6)), (N.hb _ (by decide)).trans (by decide +kernel)⟩
theorem b1_issubclass : B1 C "issubclass" (.builtin "issubclass") := ⟨mg_none_of N.X N.G (Option.some.inj (congrArg (fun l => l[38]?) F.f6)), (N.hb _ (by decide)).trans (by decide +kernel)⟩
theorem bns : Bns C := ⟨b1_len N F, b1_sum N F, b1_min N F, b1_abs N F, b1_isinstance N F, b1_list N F, b1_range N F, b1_tuple N F, b1_zip N F, b1_enumerate N F, b1_object N F, b1_int N F, b1_bool N F⟩
end
def defs {C : Cfg} {h : Heap} (N : Nm C h) (F : Facts C.K) (hc : C.cA = 62) (hl : C.ln = (genPosOf callers_body).line) (hcl : C.cl = (genPosOf callers_body).col) : Defs C where
  B := bns N F
  X := ⟨at_callers F (mg_add_callers N F), (Option.some.inj (Option.some.inj (congrArg (fun l => l[1]?) F.f7))).trans (by rw [hc]), hl, hcl⟩
  stats := at_stats F (mg_add_func_stats N F)
  vector := at_vector F (mg__law_vector N F)
  entry := at_entry F (mg__law_entry N F)
  together := at_together F (mg__law_together N F)
  orders := at_orders F (mg__law_orders N F)
  along := at_along F (mg__law_along N F)
  greatest := at_greatest F (mg__law_greatest N F)
  rings := at_rings F (mg__law_rings N F)
  above := at_above F (mg__law_above N F)
  sign := at_sign F (mg__law_sign N F)
  whole := at_whole F (mg__law_whole N F)
  rows := at_rows F (mg__law_rows N F)
  diff := at_diff F (mg__count_diff_all_purpose N F)
def cmpOK {C : Cfg} {h : Heap} (N : Nm C h) (F : Facts C.K) (hT : C.TC = 45) : CmpOK C where
  cf := at_compare F
  init := at_init F
  mgT := by rw [hT]; exact mg_TupleComp N F
  plainC := by rw [hT]; exact F.oks.o3
  plainS := by rw [hT]; exact F.oks.o4
  hasD := by rw [hT]; exact F.oks.o5
  makes := by rw [hT]; exact F.oks.o6
  findC := by rw [hT]; exact Option.some.inj (congrArg (fun l => l[0]?) F.f6)
  findS := by rw [hT]; exact Option.some.inj (congrArg (fun l => l[1]?) F.f6)
  findI := by rw [hT]; exact Option.some.inj (congrArg (fun l => l[2]?) F.f6)
  isC := F.oks.o7
  isI := Option.some.inj (congrArg (fun l => l[0]?) F.f7)
  keepC := F.oks.o8
  keepT := by rw [hT]; exact F.oks.o9
  setA := by rw [hT]; exact Option.some.inj (congrArg (fun l => l[3]?) F.f6)
  over := by rw [hT]; exact F.oks.o10
  taker := by rw [hT]; exact Option.some.inj (congrArg (fun l => l[4]?) F.f6)
def misRest (K : Frag) : List Value := match recIn K 178 "staticmethod" with
  | some (_ :: r) => r
  | _ => []
theorem mis_rec {K : Frag} (e : (recIn K 178 "staticmethod").bind (fun l => l.head?) = some (.ref 124)) : recIn K 178 "staticmethod" = some (.ref 124 :: misRest K) := by
  obtain ⟨l, h1, h2⟩ := Option.bind_eq_some_iff.mp e
  unfold misRest
  rw [h1]
  cases l with
  | nil => cases h2
  | cons x r => cases h2; rfl
def misOK {C : Cfg} {h : Heap} (N : Nm C h) (F : Facts C.K) (hM : C.MM = 177) : MisOK C where
  nw := at_new F
  mgM := by rw [hM]; exact mg__Mismatch N F
  mis := by rw [hM]; exact F.oks.o11
  reads := by rw [hM]; exact F.oks.o12
  sp := 178
  getN := by rw [hM]; exact F.f8
  rest := misRest C.K
  recN := mis_rec (Option.some.inj (congrArg (fun l => l[2]?) F.f7))
  keep := by rw [hM]; exact F.oks.o13
  B := b1_tuple N F
def getOK {C : Cfg} {h : Heap} (N : Nm C h) (F : Facts C.K) (hM : C.MM = 177) : GetOK C where
  F := at_get F
  TG := 102
  mis := by rw [hM]; exact F.oks.o11
  btype := b1_type N F
  bissub := b1_issubclass N F
  btuple := b1_tuple N F
  plainG := F.oks.o14
  gaM := by rw [hM]; exact Option.some.inj (congrArg (fun l => l[5]?) F.f6)
  gtM := by rw [hM]; exact Option.some.inj (congrArg (fun l => l[6]?) F.f6)
theorem descr_of {K : Frag} {da dx : Addr} (h : descrB K da dx = true) : K.lookup da = some (objAt K da) ∧ (objAt K da).cls = .ref 102 ∧ notCls (objAt K da) = true ∧ (objAt K da).dict = some dx ∧ K.lookup dx = some (objAt K dx) := by
  unfold descrB at h
  rw [Bool.and_eq_true] at h
  obtain ⟨h1, h2⟩ := h
  obtain ⟨od, h2⟩ := Option.isSome_iff_exists.mp h2
  split at h1
  · rename_i o e
    simp only [Bool.and_eq_true, beq_iff_eq] at h1
    have ea : objAt K da = o := by unfold objAt; rw [e]; rfl
    have ed : objAt K dx = od := by unfold objAt; rw [h2]; rfl
    rw [ea, ed]
    exact ⟨e, h1.1.1, h1.1.2, h1.2, h2⟩
  · cases h1
def tokAt (K : Frag) (dx : Addr) : Tok := match findObj K 102 (some (objAt K dx)) "index" with
  | some (Found.value (.int _ t)) => t
  | _ => 0
theorem idx_of {K : Frag} {dx : Addr} {i : Int} (h : idxAt K dx = some i) : findObj K 102 (some (objAt K dx)) "index" = some (Found.value (.int i (tokAt K dx))) := by
  unfold idxAt at h
  unfold tokAt
  split at h
  · rename_i j t e
    rw [e]
    cases h; rfl
  · cases h
def descr0 {C : Cfg} {h : Heap} (N : Nm C h) (F : Facts C.K) (hM : C.MM = 177) : DescrOK C (getOK N F hM) "actual" 166 0 where
  ox := objAt C.K 166
  od := objAt C.K 165
  dxa := 165
  at_ := (descr_of F.oks.o15).1
  cls := (descr_of F.oks.o15).2.1
  no := (descr_of F.oks.o15).2.2.1
  dict := (descr_of F.oks.o15).2.2.2.1
  atd := (descr_of F.oks.o15).2.2.2.2
  tk := tokAt C.K 165
  idx := idx_of (Option.some.inj (congrArg (fun l => l[0]?) F.f9))
  get := by rw [hM]; exact Option.some.inj (congrArg (fun l => l[0]?) F.f10)
def descr1 {C : Cfg} {h : Heap} (N : Nm C h) (F : Facts C.K) (hM : C.MM = 177) : DescrOK C (getOK N F hM) "expected" 169 1 where
  ox := objAt C.K 169
  od := objAt C.K 168
  dxa := 168
  at_ := (descr_of F.oks.o16).1
  cls := (descr_of F.oks.o16).2.1
  no := (descr_of F.oks.o16).2.2.1
  dict := (descr_of F.oks.o16).2.2.2.1
  atd := (descr_of F.oks.o16).2.2.2.2
  tk := tokAt C.K 168
  idx := idx_of (Option.some.inj (congrArg (fun l => l[1]?) F.f9))
  get := by rw [hM]; exact Option.some.inj (congrArg (fun l => l[1]?) F.f10)
def descr2 {C : Cfg} {h : Heap} (N : Nm C h) (F : Facts C.K) (hM : C.MM = 177) : DescrOK C (getOK N F hM) "value" 172 2 where
  ox := objAt C.K 172
  od := objAt C.K 171
  dxa := 171
  at_ := (descr_of F.oks.o17).1
  cls := (descr_of F.oks.o17).2.1
  no := (descr_of F.oks.o17).2.2.1
  dict := (descr_of F.oks.o17).2.2.2.1
  atd := (descr_of F.oks.o17).2.2.2.2
  tk := tokAt C.K 171
  idx := idx_of (Option.some.inj (congrArg (fun l => l[2]?) F.f9))
  get := by rw [hM]; exact Option.some.inj (congrArg (fun l => l[2]?) F.f10)
theorem ofPys_ints : ∀ xs : List Int, ofPys (xs.map PyData.int) = xs.map fun i => WData.int i
  | [] => by simp [ofPys]
  | x :: xs => by simp [ofPys, ofPy, ofPys_ints xs]
theorem ofPy_ints (xs : List Int) : ofPy (PyData.list (xs.map PyData.int)) = .list (xs.map fun i => WData.int i) := by
  simp [ofPy, ofPys_ints]
theorem law_holds {w : World} {loose : List Str} {mean : ExcName → Option Value} {mg mb : Str → Option Value} {s₁ : Shared} (Y : lawYP w s₁.heap) (T : Top lawView loose mean mg mb s₁.heap) (hg : s₁.gens = #[]) {fa : Addr} (hmg : mg "law" = some (.ref fa))
    {c : ClaimW} {cl : Str → Option Addr} {mean' : ExcName → Option Value} {args : List WData} {v : Value} {xs : List Int} (hx : xs.length ≤ 63) (hv : Well w.params s₁.heap v (ofPy (PyData.list (xs.map PyData.int)))) (hr : ∀ cls, c.raises args cls = false) (hp : c.post args (.bool true) args = true) :
    wpAny (model pw w) callerA (call (.ref fa) [v]) (fun v s' => GoodWG c cl mean' args s₁ (.ok (.ret v)) s') (fun e s' => GoodWG c cl mean' args s₁ (.error e) s') s₁ := by
  obtain ⟨h₀, e, k⟩ := Y
  obtain ⟨F, h58⟩ := facts_of e
  have X : (fragOf h₀).In s₁.heap := fun a o q => k _ _ (fragOf_in h₀ a o q)
  generalize fragOf h₀ = K at F X
  have hP := k _ _ h58
  have N : Nm (cfg w mg mb K F.oks.o0) s₁.heap := ⟨X, T.g, T.builtins⟩
  have F' : Facts (cfg w mg mb K F.oks.o0).K := F
  have g1 : G1 (cfg w mg mb K F.oks.o0) s₁.heap := ⟨X, T.g, T.b, T.nolimit, codeHd_of_K X F.oks.o1, bi_of T hP⟩
  have hfa : mg "law" = some (.ref 259) := mg_law N F'
  rw [hmg] at hfa
  cases hfa
  have hf : Fv (cfg w mg mb K F.oks.o0) 5 (.ref 259) [.lst (xs.map .int)] (.bool true) := fv_law (k := 0) (defs N F' rfl rfl rfl) (cmpOK N F' rfl) (misOK N F' rfl) ⟨getOK N F' rfl, 166, descr0 N F' rfl, 169, descr1 N F' rfl, 172, descr2 N F' rfl⟩ (at_law F') xs (by omega)
  exact law_end (C := cfg w mg mb K F.oks.o0) hf g1 hP hg (well_list (ofPy_ints xs ▸ hv)) hr hp
theorem law_said : PySem.Challenge.rw_ij0073_01.wellSaid = true := by
  first | rw [PySem.W.Fast.te9446332074065402090] | skip
  kernel_rfl
theorem law_wit : PySem.Challenge.rw_ij0073_01.row.toRowW.promised := ⟨[.list []], by decide +kernel, by decide +kernel⟩
theorem law_ok : (chainsOk lawView && opensWell pw && (frees PySem.Challenge.rw_ij0073_01.row.toRowW && PySem.Challenge.rw_ij0073_01.row.within.isEmpty)) = true := by kernel_rfl
theorem law_bare : pw.bare := ⟨rfl, rfl, rfl, rfl, rfl, by decide +kernel⟩
theorem law_isDef : (defOf lawView PySem.Challenge.rw_ij0073_01.row.name).isSome = true := by kernel_rfl
def lawDef : DefRec × List (Str × Expr) := (defOf lawView PySem.Challenge.rw_ij0073_01.row.name).get law_isDef
theorem law_def : defOf lawView PySem.Challenge.rw_ij0073_01.row.name = some (lawDef.1, lawDef.2) := (Option.some_get law_isDef).symm
theorem law_the : pw.theDef PySem.Challenge.rw_ij0073_01.row.name = some (lawDef.1.params, lawDef.1.body, lawDef.1.scope) := by kernel_rfl
theorem law_kw : kwWritten? lawDef.1.params.kwonlyargs lawDef.1.params.kw_defaults = some lawDef.2 := by kernel_rfl
theorem law_named : lawDef.1.name = Str.ofString "law" := by kernel_rfl
theorem law_post (args : List WData) : PySem.Challenge.rw_ij0073_01.row.claim.post args (.bool true) args = true := by kernel_rfl
theorem final : PySem.Challenge.rw_ij0073_01.Holds := by
  refine holds_law law_said fun said => ?_
  refine holds_open (q := lawView) (loose := lawLoose) (Xt := lawXt) (XP := XL lawView []) (Yf := fun s => sees s.heap) (Ya := fun _ => dues) (YP := lawYP) (N := 2400) left (fun w s e => ⟨s.heap, e, fun _ _ z => z⟩) (fun w h h' Y k' => let ⟨h0, e, k⟩ := Y; ⟨h0, e, fun b o z => k' _ _ (k _ _ z)⟩)
    (fun s e => xl_of s (Bool.and_eq_true_iff.mp e).1) XL.keeps law_def law_the law_kw (fun s e => recFacts_of (Bool.and_eq_true_iff.mp e).2) (by rfl) said law_ok law_bare law_wit ?hc
  case hc =>
    intro w s₀ s₁ mg mb G Y fa o pm cd doc dV kV ho hd hcd hD hmg hg args vals as hpre hlay hrd hwl hlo
    refine Ground.open G ?_
    intro T B D E' TE
    clear hcd hD B D E' TE hd G
    wrow_args hpre hlay hrd hwl hlo
    rename Well _ _ _ _ => w1
    rename ¬ _ => hlen
    exact law_holds Y T hg (law_named ▸ hmg) (Int.ofNat_le.mp (Int.not_lt.mp hlen)) w1 (fun _ => rfl) (law_post _)
end Mine

theorem PySem.Challenge.cw_ij0073_01_holds : PySem.Challenge.rw_ij0073_01.Holds :=
  Mine.final
