import PyProof.Rows.All
import Wide.All
import OpenK.AllK
import Wide.FinOn
import PySem.Challenge.RW_lg0036_01
set_option Elab.async false

noncomputable section
open PySem PySem.W PyProof.Rows
namespace Mine

/-- pure data -/
inductive V where
  | none
  | bool (b : Bool)
  | int (i : Int)
  | str (s : Str)
  | tup (l : List V)
  | lst (l : List V)

noncomputable abbrev AS := Addr → Prop
noncomputable def cap : Nat := 1000
theorem cap_lt : cap < sizeLine := by decide

/-- a tuple as the call itself makes them -/
noncomputable def Tp (h : Heap) (a : Addr) (vs : List Value) : Prop := ∃ n, h.get? a = some { cls := .type "tuple", data := .seq vs.toArray n }
theorem Tp.isTuple {h : Heap} {a : Addr} {vs : List Value} (x : Tp h a vs) : h.IsTuple a vs.toArray := let ⟨n, e⟩ := x; ⟨_, e, rfl, n, rfl⟩
theorem Tp.some {h : Heap} {a : Addr} {vs : List Value} (x : Tp h a vs) (q : h.get? a = none) : False := by
  obtain ⟨n, e⟩ := x; rw [q] at e; cases e

mutual
/-- the value bears the data in the heap; none of its objects lies in M -/
inductive Rep (h : Heap) (M : AS) : V → Value → Prop where
  | none : Rep h M .none .none
  | bool (b : Bool) : Rep h M (.bool b) (.bool b)
  | int (i : Int) (t : Tok) : Rep h M (.int i) (.int i t)
  | str (s : Str) (t : Tok) (hs : s.length ≤ sizeLine) : Rep h M (.str s) (.str s t)
  | tup (l : List V) (vs : List Value) (a : Addr) (hm : ¬ M a) (hl : Tp h a vs) (hr : RepL h M l vs) : Rep h M (.tup l) (.ref a)
  | lst (l : List V) (vs : List Value) (a : Addr) (hm : ¬ M a) (hl : h.IsList a vs.toArray) (hz : l.length ≤ sizeLine) (hr : RepL h M l vs) : Rep h M (.lst l) (.ref a)
inductive RepL (h : Heap) (M : AS) : List V → List Value → Prop where
  | nil : RepL h M [] []
  | cons {x : V} {v : Value} {l : List V} {vs : List Value} (hx : Rep h M x v) (hr : RepL h M l vs) : RepL h M (x :: l) (v :: vs)
end

/-- as Rep; but the outermost list may lie in M -/
inductive Rep1 (h : Heap) (M : AS) : V → Value → Prop where
  | rep {x : V} {v : Value} (hx : Rep h M x v) : Rep1 h M x v
  | lst (l : List V) (vs : List Value) (a : Addr) (hl : h.IsList a vs.toArray) (hz : l.length ≤ sizeLine) (hr : RepL h M l vs) : Rep1 h M (.lst l) (.ref a)

/-- a list as the call itself makes them -/
noncomputable def Own (h : Heap) (a : Addr) (vs : List Value) : Prop := ∃ n, h.get? a = some { cls := .type "list", data := .seq vs.toArray n }
theorem Own.isList {h : Heap} {a : Addr} {vs : List Value} (x : Own h a vs) : h.IsList a vs.toArray := let ⟨n, e⟩ := x; ⟨_, e, rfl, n, rfl⟩

/-- all but the objects of X stand -/
noncomputable def Kp (X : AS) (h h' : Heap) : Prop := ∀ a o, ¬ X a → h.get? a = some o → h'.get? a = some o

theorem Kp.refl (X : AS) (h : Heap) : Kp X h h := fun _ _ _ e => e
theorem Kp.trans {X : AS} {h h' h'' : Heap} (x : Kp X h h') (y : Kp X h' h'') : Kp X h h'' := fun a o n e => y a o n (x a o n e)
theorem Kp.mono {X Y : AS} {h h' : Heap} (x : Kp X h h') (hs : ∀ a, X a → Y a) : Kp Y h h' := fun a o n e => x a o (fun q => n (hs a q)) e
theorem Kp.push {X : AS} (h : Heap) (o : Obj) : Kp X h (h.push o) := fun _ _ _ e => Heap.get?_push_of_some _ e
theorem Kp.same {X : AS} {h h' : Heap} {b : Addr} (hs : Heap.SameBut b h h') (hb : X b) : Kp X h h' := fun a _ n e => (hs.2 a (fun q => n (q ▸ hb))).trans e
theorem Kp.isList {X : AS} {h h' : Heap} {a : Addr} {xs : Array Value} (k : Kp X h h') (n : ¬ X a) (x : h.IsList a xs) : h'.IsList a xs := let ⟨o, e, r⟩ := x; ⟨o, k a o n e, r⟩
theorem Kp.tp {X : AS} {h h' : Heap} {a : Addr} {xs : List Value} (k : Kp X h h') (n : ¬ X a) (x : Tp h a xs) : Tp h' a xs := let ⟨m, e⟩ := x; ⟨m, k a _ n e⟩

mutual
theorem Rep.keep {h h' : Heap} {M M' X : AS} (k : Kp X h h') (hX : ∀ a, X a → M a) (hM : ∀ a, M' a → M a) : ∀ {x : V} {v : Value}, Rep h M x v → Rep h' M' x v
  | _, _, .none => .none
  | _, _, .bool b => .bool b
  | _, _, .int i t => .int i t
  | _, _, .str s t hs => .str s t hs
  | _, _, .tup l vs a hm hl hr => .tup l vs a (fun q => hm (hM a q)) (k.tp (fun q => hm (hX a q)) hl) (RepL.keep k hX hM hr)
  | _, _, .lst l vs a hm hl hz hr => .lst l vs a (fun q => hm (hM a q)) (k.isList (fun q => hm (hX a q)) hl) hz (RepL.keep k hX hM hr)
theorem RepL.keep {h h' : Heap} {M M' X : AS} (k : Kp X h h') (hX : ∀ a, X a → M a) (hM : ∀ a, M' a → M a) : ∀ {l : List V} {vs : List Value}, RepL h M l vs → RepL h' M' l vs
  | _, _, .nil => .nil
  | _, _, .cons hx hr => .cons (Rep.keep k hX hM hx) (RepL.keep k hX hM hr)
end

theorem isList_some {h : Heap} {a : Addr} {xs : Array Value} (x : h.IsList a xs) (q : h.get? a = none) : False := by
  obtain ⟨_, e, _⟩ := x; rw [q] at e; cases e
theorem isTuple_some {h : Heap} {a : Addr} {xs : Array Value} (x : h.IsTuple a xs) (q : h.get? a = none) : False := by
  obtain ⟨_, e, _⟩ := x; rw [q] at e; cases e

mutual
/-- addresses that do not stand yet may be added to what is avoided -/
theorem Rep.fresh {h : Heap} {M M' : AS} (hM : ∀ a, M' a → M a ∨ h.get? a = none) : ∀ {x : V} {v : Value}, Rep h M x v → Rep h M' x v
  | _, _, .none => .none
  | _, _, .bool b => .bool b
  | _, _, .int i t => .int i t
  | _, _, .str s t hs => .str s t hs
  | _, _, .tup l vs a hm hl hr => .tup l vs a (fun q => (hM a q).elim hm fun q => hl.some q) hl (RepL.fresh hM hr)
  | _, _, .lst l vs a hm hl hz hr => .lst l vs a (fun q => (hM a q).elim hm fun q => isList_some hl q) hl hz (RepL.fresh hM hr)
theorem RepL.fresh {h : Heap} {M M' : AS} (hM : ∀ a, M' a → M a ∨ h.get? a = none) : ∀ {l : List V} {vs : List Value}, RepL h M l vs → RepL h M' l vs
  | _, _, .nil => .nil
  | _, _, .cons hx hr => .cons (Rep.fresh hM hx) (RepL.fresh hM hr)
end
theorem Rep.weaken {h : Heap} {M M' : AS} (hM : ∀ a, M' a → M a) {x : V} {v : Value} (r : Rep h M x v) : Rep h M' x v := r.fresh fun a q => .inl (hM a q)
theorem RepL.weaken {h : Heap} {M M' : AS} (hM : ∀ a, M' a → M a) {x : List V} {v : List Value} (r : RepL h M x v) : RepL h M' x v := r.fresh fun a q => .inl (hM a q)
theorem RepL.length {h : Heap} {M : AS} : ∀ {l : List V} {vs : List Value}, RepL h M l vs → vs.length = l.length
  | _, _, .nil => rfl
  | _, _, .cons _ hr => by rw [List.length_cons, List.length_cons, hr.length]
theorem RepL.append {h : Heap} {M : AS} : ∀ {l l' : List V} {vs vs' : List Value}, RepL h M l vs → RepL h M l' vs' → RepL h M (l ++ l') (vs ++ vs')
  | _, _, _, _, .nil, r => r
  | _, _, _, _, .cons hx hr, r => .cons hx (hr.append r)
theorem RepL.getElem? {h : Heap} {M : AS} : ∀ {l : List V} {vs : List Value}, RepL h M l vs → ∀ {i : Nat} {x : V}, l[i]? = some x → ∃ v, vs[i]? = some v ∧ Rep h M x v
  | _, _, .cons hx _, 0, _, e => by cases e; exact ⟨_, rfl, hx⟩
  | _, _, .cons _ hr, i + 1, _, e => hr.getElem? (i := i) (by simpa using e)
theorem RepL.getElem?_none {h : Heap} {M : AS} {l : List V} {vs : List Value} (r : RepL h M l vs) {i : Nat} (e : l[i]? = none) : vs[i]? = none := by
  rw [List.getElem?_eq_none_iff] at e ⊢
  rw [r.length]; exact e
theorem RepL.take {h : Heap} {M : AS} : ∀ {l : List V} {vs : List Value}, RepL h M l vs → ∀ n, RepL h M (l.take n) (vs.take n)
  | _, _, _, 0 => .nil
  | _, _, .nil, _ + 1 => .nil
  | _, _, .cons hx hr, n + 1 => .cons hx (hr.take n)
theorem RepL.drop {h : Heap} {M : AS} : ∀ {l : List V} {vs : List Value}, RepL h M l vs → ∀ n, RepL h M (l.drop n) (vs.drop n)
  | _, _, r, 0 => r
  | _, _, .nil, _ + 1 => .nil
  | _, _, .cons _ hr, n + 1 => hr.drop n
theorem RepL.reverse {h : Heap} {M : AS} : ∀ {l : List V} {vs : List Value}, RepL h M l vs → RepL h M l.reverse vs.reverse
  | _, _, .nil => .nil
  | _, _, .cons hx hr => by rw [List.reverse_cons, List.reverse_cons]; exact hr.reverse.append (.cons hx .nil)
theorem RepL.set {h : Heap} {M : AS} : ∀ {l : List V} {vs : List Value}, RepL h M l vs → ∀ {x : V} {v : Value}, Rep h M x v → ∀ n, RepL h M (l.set n x) (vs.set n v)
  | _, _, .nil, _, _, _, _ => .nil
  | _, _, .cons _ hr, _, _, rx, 0 => .cons rx hr
  | _, _, .cons hx hr, _, _, rx, n + 1 => .cons hx (hr.set rx n)
theorem RepL.eraseIdx {h : Heap} {M : AS} : ∀ {l : List V} {vs : List Value}, RepL h M l vs → ∀ n, RepL h M (l.eraseIdx n) (vs.eraseIdx n)
  | _, _, .nil, _ => .nil
  | _, _, .cons _ hr, 0 => hr
  | _, _, .cons hx hr, n + 1 => .cons hx (hr.eraseIdx n)
theorem RepL.snoc {h : Heap} {M : AS} {l : List V} {vs : List Value} (r : RepL h M l vs) {x : V} {v : Value} (rx : Rep h M x v) : RepL h M (l ++ [x]) (vs ++ [v]) := r.append (.cons rx .nil)

theorem Rep1.keep {h h' : Heap} {M M' X : AS} (k : Kp X h h') (hX : ∀ a, X a → M a) (hM : ∀ a, M' a → M a) (hm : ∀ a xs, M a → h.IsList a xs → h'.IsList a xs) {x : V} {v : Value} : Rep1 h M x v → Rep1 h' M' x v
  | .rep hx => .rep (hx.keep k hX hM)
  | .lst l vs a hl hz hr => by
    by_cases q : M a
    · exact .lst l vs a (hm a _ q hl) hz (hr.keep k hX hM)
    · exact .lst l vs a (k.isList (fun p => q (hX a p)) hl) hz (hr.keep k hX hM)

/-- what does not change in the whole call -/
structure Gl where
  prog : Program
  w : World
  G : Heap
  CB : Addr
  TB : Addr
  ps : Array Value
  mg : Str → Option Value
  mb : Str → Option Value
  os : OsState

noncomputable def Gl.tab (g : Gl) : AS := fun a => a = g.TB

structure GlOk (g : Gl) : Prop where
  mg : g.G.Ns mainGlobals g.mg
  mb : g.G.Ns builtinsNs g.mb
  lim : g.G.NoLimit
  ne1 : mainGlobals ≠ g.TB
  ne2 : builtinsNs ≠ g.TB
  ne3 : cStatics ≠ g.TB

/-- the table of inner code objects, and the code object that has it -/
structure TabOk (h : Heap) (c P : Addr) (ps : Array Value) : Prop where
  tab : h.TableAt c P ps
  code : h.IsCode c P ps
theorem TabOk.keeps {h h' : Heap} {c P : Addr} {ps : Array Value} (x : TabOk h c P ps) (hk : ∀ b o, h.get? b = some o → h'.get? b = some o) : TabOk h' c P ps := ⟨x.tab.keeps hk, x.code.keeps hk⟩
theorem TabOk.but {h h' : Heap} {c P a : Addr} {ps : Array Value} (x : TabOk h c P ps) (hk : ∀ b o, b ≠ a → h.get? b = some o → h'.get? b = some o) (hc : c ≠ a) (hP : P ≠ a) : TabOk h' c P ps := ⟨x.tab.extBut hk hc hP, x.code.extBut hk hc hP⟩
theorem TabOk.sameBut {h h' : Heap} {c P a : Addr} {ps : Array Value} (x : TabOk h c P ps) (hs : Heap.SameBut a h h') (hc : c ≠ a) (hP : P ≠ a) : TabOk h' c P ps := x.but hs.extBut hc hP

/-- holds at every step -/
structure Inv (g : Gl) (s : Shared) : Prop where
  keep : Kp g.tab g.G s.heap
  tab : ∃ more, TabOk s.heap g.CB g.TB (g.ps ++ more)
  gens : AllBare s.gens
  os : s.os = g.os
  tok : 0 < s.toks
  cb : g.G.get? g.CB ≠ none

structure Ext (g : Gl) (s s' : Shared) : Prop where
  keep : Kp g.tab s.heap s'.heap
  inv : Inv g s → Inv g s'

theorem Ext.refl (g : Gl) (s : Shared) : Ext g s s := ⟨Kp.refl _ _, id⟩
theorem Ext.trans {g : Gl} {s s' s'' : Shared} (x : Ext g s s') (y : Ext g s' s'') : Ext g s s'' := ⟨x.keep.trans y.keep, fun i => y.inv (x.inv i)⟩
theorem Ext.of {g : Gl} {s : Shared} {h' : Heap} {t : Tok} (k : ∀ a o, s.heap.get? a = some o → h'.get? a = some o) (ht : 0 < s.toks → 0 < t := by first | exact id | omega | (intro _; assumption)) : Ext g s { s with heap := h', toks := t } :=
  ⟨fun a o _ e => k a o e, fun i => ⟨i.keep.trans fun a o _ e => k a o e, let ⟨m, ht⟩ := i.tab; ⟨m, ht.keeps k⟩, i.gens, i.os, ht i.tok, i.cb⟩⟩
theorem Ext.tok (g : Gl) (s : Shared) (t : Tok) (ht : 0 < s.toks → 0 < t := by first | exact id | omega | (intro _; assumption)) : Ext g s { s with toks := t } := Ext.of (h' := s.heap) (fun _ _ e => e) ht
theorem Ext.push (g : Gl) (s : Shared) (o : Obj) (t : Tok) (ht : 0 < s.toks → 0 < t := by first | exact id | omega | (intro _; assumption)) : Ext g s { s with heap := s.heap.push o, toks := t } := Ext.of (fun _ _ e => Heap.get?_push_of_some _ e) ht
theorem Ext.heap {g : Gl} {s : Shared} {h' : Heap} (k : ∀ a o, s.heap.get? a = some o → h'.get? a = some o) : Ext g s { s with heap := h' } := Ext.of k
/-- one object is changed that is none of the ground's -/
theorem Inv.same {g : Gl} {s : Shared} {h' : Heap} {b : Addr} {t : Tok} (i : Inv g s) (hs : Heap.SameBut b s.heap h') (hb : g.G.get? b = none) (hT : b ≠ g.TB) (ht : 0 < s.toks → 0 < t := by first | exact id | omega | (intro _; assumption)) : Inv g { s with heap := h', toks := t } := by
  refine ⟨fun a o n e => ?_, ?_, i.gens, i.os, ht i.tok, i.cb⟩
  · have : a ≠ b := by rintro rfl; rw [hb] at e; cases e
    exact (hs.2 a this).trans (i.keep a o n e)
  · obtain ⟨m, ht⟩ := i.tab
    refine ⟨m, ht.sameBut hs ?_ (Ne.symm hT)⟩
    rintro rfl; exact i.cb hb
end Mine
end

noncomputable section
open PySem PySem.W PyProof.Rows
namespace Mine

noncomputable abbrev Sig := List (Option V)

structure FT where
  scope : Scope
  tbl : List (Str × NameKind × Bool)
  wc : Bool := true
  code : Option Value := none

inductive Role where
  | loc
  | cell (x : Str)
  | priv (o : Obj)
  | own (i : Nat)

structure Fm where
  W : Addr → Option Role
  m : Str → Option Value
  cm : Str → Option Value

noncomputable def Fm.av (F : Fm) (M : AS) : AS := fun a => M a ∨ F.W a ≠ none

structure EnvOk (ft : FT) (env : Env) : Prop where
  code : ∀ c, ft.code = some c → env.code = c
  scope : env.scope = ft.scope
  glob : env.globals = mainGlobals
  bi : env.builtins = builtinsNs
  kind : ft.scope.kind = .function
  tbl : ∀ (i : Nat) (x : Str) (k : NameKind) (own : Bool), ft.tbl[i]? = some (x, k, own) → ft.scope.names.lookup x = some k ∧ (k = .local ∨ ((k = .cell ∨ k = .free) ∧ own = false ∧ (x == ("__classdict__" : Str)) = false ∧ ∃ c, env.cells.lookup x = some c))
  apart : env.cells.Pairwise fun x y => x.2 ≠ y.2
  uniq : ∀ (i j : Nat) (x : Str) (k k' : NameKind) (o o' : Bool), ft.tbl[i]? = some (x, k, o) → ft.tbl[j]? = some (x, k', o') → i = j

/-- the bound method that x = y.append names -/
noncomputable def bmObj (a : Addr) : Obj := { cls := .type "builtin_function_or_method", data := .fields #[.builtin "list.append", .ref a] }

noncomputable def VRep (h : Heap) (av : AS) (W : Addr → Option Role) (i : Nat) (own : Bool) (x : V) (v : Value) : Prop :=
  (own = false ∧ Rep h av x v) ∨ (own = true ∧ ∃ l vs a, x = .lst l ∧ v = .ref a ∧ W a = some (.own i) ∧ Own h a vs ∧ l.length ≤ sizeLine ∧ RepL h av l vs) ∨ (own = true ∧ ∃ (j : Nat) (a b : Addr), x = .int j ∧ v = .ref b ∧ W a = some (.own j) ∧ ¬ av b ∧ h.get? b = some (bmObj a) ∧ ∀ a', W a' = some (.own j) → a' = a)

structure St (g : Gl) (ft : FT) (env : Env) (M : AS) (B : Heap) (F : Fm) (σ : Sig) (h : Heap) : Prop where
  ns : h.Ns env.locals F.m
  loc : F.W env.locals = some .loc
  cell : ∀ x c, env.cells.lookup x = some c → (F.W c = some (.cell x) ∨ (ft.wc = false ∧ M c ∧ c ≠ g.TB)) ∧ h.IsCell c (F.cm x)
  priv : ∀ a o, F.W a = some (.priv o) → h.get? a = some o
  low : ∀ a r, F.W a = some r → B.get? a = none ∧ h.get? a ≠ none ∧ g.G.get? a = none ∧ a ≠ g.TB
  Mlow : ∀ a, M a → B.get? a ≠ none
  Mtab : M g.TB
  keep : Kp g.tab B h
  var : ∀ (i : Nat) (x : Str) (k : NameKind) (own : Bool) (d : V), ft.tbl[i]? = some (x, k, own) → σ.getD i none = some d → ∃ v, (if k = .local then F.m x else F.cm x) = some v ∧ VRep h (F.av M) F.W i own d v

structure AOk (n : Nat) (A : Around) : Prop where
  handled : A.handled = none
  depth : A.depth + n < recursionLimit
  units : A.units + 20 * n + 20 < cLine

theorem AOk.mono {n m : Nat} {A : Around} (a : AOk m A) (h : n ≤ m) : AOk n A := ⟨a.handled, by have := a.depth; omega, by have := a.units; omega⟩

theorem get_ns {h h' : Heap} {a : Addr} {m : Str → Option Value} (hn : h.Ns a m) (e : ∀ o, h.get? a = some o → h'.get? a = some o) : h'.Ns a m := hn.at' e

theorem VRep.keep {h h' : Heap} {av av' X : AS} {W W' : Addr → Option Role} {i : Nat} {own : Bool} (k : Kp X h h') (hX : ∀ a, X a → av a) (hM : ∀ a, av' a → av a) (hW : ∀ a j, W a = some (.own j) → W' a = some (.own j) ∧ (j = i → ∀ vs, Own h a vs → Own h' a vs))
    {x : V} {v : Value} (hB : own = true → ∀ j : Nat, x = .int j → ∀ a, W' a = some (.own j) → W a = some (.own j)) : VRep h av W i own x v → VRep h' av' W' i own x v
  | .inl ⟨o, r⟩ => .inl ⟨o, r.keep k hX hM⟩
  | .inr (.inl ⟨o, l, vs, a, e1, e2, e3, e4, e5, r⟩) => .inr (.inl ⟨o, l, vs, a, e1, e2, (hW a _ e3).1, (hW a _ e3).2 rfl _ e4, e5, r.keep k hX hM⟩)
  | .inr (.inr ⟨o, j, a, b, e1, e2, e3, e4, e5, e6⟩) => .inr (.inr ⟨o, j, a, b, e1, e2, (hW a _ e3).1, fun q => e4 (hM b q), k b _ (fun q => e4 (hX b q)) e5, fun a' h => e6 a' (hB o j e1 a' h)⟩)

section
variable {g : Gl} {ft : FT} {env : Env} {M : AS} {B : Heap} {F : Fm} {σ : Sig} {h h' : Heap}

theorem St.tabAv (S : St g ft env M B F σ h) : ∀ a, g.tab a → F.av M a := fun _ e => .inl (e ▸ S.Mtab)

/-- nothing of what stands is changed -/
theorem St.ext (S : St g ft env M B F σ h) (k : Kp g.tab h h') : St g ft env M B F σ h' := by
  have get : ∀ a r o, F.W a = some r → h.get? a = some o → h'.get? a = some o := fun a r o w e => k a o (S.low a r w).2.2.2 e
  refine ⟨get_ns S.ns fun o e => get _ _ o S.loc e, S.loc, fun x c e => ?_, fun a o w => get a _ o w (S.priv a o w), fun a r w => ?_, S.Mlow, S.Mtab, S.keep.trans k, fun i x kd own d e hd => ?_⟩
  · obtain ⟨p, o, ho, hc⟩ := S.cell x c e
    refine ⟨p, o, ?_, hc⟩
    rcases p with w | ⟨_, _, n⟩
    · exact get _ _ _ w ho
    · exact k _ _ n ho
  · obtain ⟨a1, a2, a3, a4⟩ := S.low a r w
    refine ⟨a1, ?_, a3, a4⟩
    cases q : h.get? a with
    | none => exact absurd q a2
    | some o => rw [get a r o w q]; exact fun z => nomatch z
  · obtain ⟨v, ev, r⟩ := S.var i x kd own d e hd
    exact ⟨v, ev, r.keep k S.tabAv (fun _ q => q) (fun a j w => ⟨w, fun _ vs ⟨n, hl⟩ => ⟨n, k a _ (S.low a _ w).2.2.2 hl⟩⟩) fun _ _ _ _ h => h⟩
theorem St.extE {s s' : Shared} (S : St g ft env M B F σ s.heap) (x : Ext g s s') : St g ft env M B F σ s'.heap := S.ext x.keep

/-- what a value bears outlives the call's own changes -/
noncomputable def Fm.ch (g : Gl) (F : Fm) : AS := fun a => a = g.TB ∨ F.W a ≠ none
theorem St.chAv (S : St g ft env M B F σ h) : ∀ a, F.ch g a → F.av M a := fun _ e => e.elim (fun q => .inl (q ▸ S.Mtab)) .inr
end

@[irreducible] noncomputable def SoundE (g : Gl) (n : Nat) (ft : FT) (e : Expr) (f : Sig → Option V) : Prop :=
  ∀ (env : Env), EnvOk ft env → ∀ (σ : Sig) (d : V), f σ = some d → ∀ (A : Around), AOk n A → ∀ (M : AS) (B : Heap) (F : Fm) (s : Shared) (Q : Value → Shared → Prop) (E : Value → Shared → Prop), Inv g s → St g ft env M B F σ s.heap →
    (∀ v s', Ext g s s' → Rep s'.heap (F.av M) d v → Q v s') → wpAny (model g.prog g.w) A (eval e env) Q E s
@[irreducible] noncomputable def SoundB (g : Gl) (n : Nat) (ft : FT) (e : Expr) (f : Sig → Option V) : Prop :=
  ∀ (env : Env), EnvOk ft env → ∀ (σ : Sig) (d : V), f σ = some d → ∀ (A : Around), AOk n A → ∀ (M : AS) (B : Heap) (F : Fm) (s : Shared) (Q : Value → Shared → Prop) (E : Value → Shared → Prop), Inv g s → St g ft env M B F σ s.heap →
    (∀ v s', Ext g s s' → Rep1 s'.heap (F.av M) d v → Q v s') → wpAny (model g.prog g.w) A (eval e env) Q E s
@[irreducible] noncomputable def SoundT (g : Gl) (n : Nat) (ft : FT) (e : Expr) (f : Sig → Option Bool) : Prop :=
  ∀ (env : Env), EnvOk ft env → ∀ (σ : Sig) (d : Bool), f σ = some d → ∀ (A : Around), AOk n A → ∀ (M : AS) (B : Heap) (F : Fm) (s : Shared) (Q : Bool → Shared → Prop) (E : Value → Shared → Prop), Inv g s → St g ft env M B F σ s.heap →
    (∀ s', Ext g s s' → Q d s') → wpAny (model g.prog g.w) A (isTrue e env (eval e env)) Q E s

inductive Fl where
  | next
  | brk
  | cont
  | ret (d : V)

noncomputable def Fl.flow : Fl → Flow → Prop
  | .next, f => f = .next
  | .brk, f => f = .brk
  | .cont, f => f = .cont
  | .ret _, _ => False

noncomputable def Privs (P : Addr → Obj → Prop) (F : Fm) : Prop := ∀ a o, P a o → F.W a = some (.priv o)

/-- what a step may have changed: what it owned, and what is new -/
structure Step (g : Gl) (F F' : Fm) (h h' : Heap) : Prop where
  kp : Kp (F.ch g) h h'
  gr : ∀ a, a ≠ g.TB → F'.W a ≠ none → F.W a ≠ none ∨ h.get? a = none
theorem Step.refl (g : Gl) (F : Fm) (h : Heap) : Step g F F h h := ⟨Kp.refl _ _, fun _ _ q => .inl q⟩
theorem Step.trans {g : Gl} {F F' F'' : Fm} {h h' h'' : Heap} (x : Step g F F' h h') (y : Step g F' F'' h' h'') : Step g F F'' h h'' := by
  refine ⟨fun a o n e => ?_, fun a t q => ?_⟩
  · refine y.kp a o (fun q => ?_) (x.kp a o n e)
    rcases q with q | q
    · exact n (.inl q)
    · rcases x.gr a (fun z => n (.inl z)) q with q | q
      · exact n (.inr q)
      · rw [e] at q; cases q
  · rcases y.gr a t q with q | q
    · exact x.gr a t q
    · by_cases w : F.W a = none
      · refine .inr ?_
        cases e : h.get? a with
        | none => rfl
        | some o => rw [x.kp a o (fun z => z.elim t fun z => z w) e] at q; cases q
      · exact .inl w
noncomputable def FlowOk (g : Gl) (ft : FT) (env : Env) (M : AS) (B : Heap) (P : Addr → Obj → Prop) (F : Fm) (h : Heap) (fl : Fl) (σ : Sig) (fv : Flow) (s : Shared) : Prop :=
  (fl.flow fv ∧ ∃ F', Privs P F' ∧ Step g F F' h s.heap ∧ St g ft env M B F' σ s.heap) ∨ (∃ d v, fl = .ret d ∧ fv = .ret v ∧ Kp g.tab B s.heap ∧ Rep s.heap M d v)

@[irreducible] noncomputable def SoundS (g : Gl) (n : Nat) (ft : FT) (st : Stmt) (f : Sig → Option (Fl × Sig)) : Prop :=
  ∀ (env : Env), EnvOk ft env → ∀ (σ : Sig) (fl : Fl) (σ' : Sig), f σ = some (fl, σ') → ∀ (A : Around), AOk n A → ∀ (M : AS) (B : Heap) (P : Addr → Obj → Prop) (F : Fm) (s : Shared) (Q : Flow → Shared → Prop) (E : Value → Shared → Prop), Inv g s → St g ft env M B F σ s.heap → Privs P F →
    (∀ fv s', Inv g s' → FlowOk g ft env M B P F s.heap fl σ' fv s' → Q fv s') → wpAny (model g.prog g.w) A (exec st env) Q E s
@[irreducible] noncomputable def SoundSS (g : Gl) (n : Nat) (ft : FT) (st : List Stmt) (f : Sig → Option (Fl × Sig)) : Prop :=
  ∀ (env : Env), EnvOk ft env → ∀ (σ : Sig) (fl : Fl) (σ' : Sig), f σ = some (fl, σ') → ∀ (A : Around), AOk n A → ∀ (M : AS) (B : Heap) (P : Addr → Obj → Prop) (F : Fm) (s : Shared) (Q : Flow → Shared → Prop) (E : Value → Shared → Prop), Inv g s → St g ft env M B F σ s.heap → Privs P F →
    (∀ fv s', Inv g s' → FlowOk g ft env M B P F s.heap fl σ' fv s' → Q fv s') → wpAny (model g.prog g.w) A (execs st env) Q E s
/-- a target takes a value -/
@[irreducible] noncomputable def SoundA (g : Gl) (n : Nat) (ft : FT) (tg : Expr) (f : V → Sig → Option Sig) : Prop :=
  ∀ (env : Env), EnvOk ft env → ∀ (σ : Sig) (d : V) (σ' : Sig), f d σ = some σ' → ∀ (A : Around), AOk n A → ∀ (M : AS) (B : Heap) (F : Fm) (s : Shared) (v : Value) (Q : Unit → Shared → Prop) (E : Value → Shared → Prop), Inv g s → St g ft env M B F σ s.heap → Rep s.heap (F.av M) d v →
    (∀ s' F', Inv g s' → (∀ a r, F.W a = some r → F'.W a = some r) → Step g F F' s.heap s'.heap → St g ft env M B F' σ' s'.heap → Q () s') → wpAny (model g.prog g.w) A (assign tg env v) Q E s

section
variable {g : Gl} {n : Nat} {ft : FT}
theorem SoundE.mono {m : Nat} {e : Expr} {f : Sig → Option V} (x : SoundE g n ft e f) (h : n ≤ m) : SoundE g m ft e f := by
  (try unfold SoundE at *)
  exact fun env eo σ d hd A ao => x env eo σ d hd A (ao.mono h)
theorem SoundS.mono {m : Nat} {e : Stmt} {f} (x : SoundS g n ft e f) (h : n ≤ m) : SoundS g m ft e f := by
  (try unfold SoundS at *)
  exact fun env eo σ d hd he A ao => x env eo σ d hd he A (ao.mono h)
theorem SoundE.b {e : Expr} {f : Sig → Option V} (x : SoundE g n ft e f) : SoundB g n ft e f := by
  (try unfold SoundE at *); (try unfold SoundB at *)
  exact fun env eo σ d hd A ao M B F s Q E i S q => x env eo σ d hd A ao M B F s Q E i S fun v s' ex r => q v s' ex (.rep r)

/- names -/
noncomputable def eName (i : Nat) : Sig → Option V := fun σ => σ.getD i none
/-- as eName, of a list alone -/
noncomputable def eNameL (i : Nat) : Sig → Option V := fun σ => match σ.getD i none with | some (.lst l) => some (.lst l) | _ => none
theorem eNameL_is {i : Nat} {σ : Sig} {d : V} (h : eNameL i σ = some d) : ∃ l, d = .lst l ∧ eName i σ = some (.lst l) := by
  unfold eNameL at h
  split at h
  · rename_i l e; cases h; exact ⟨l, rfl, e⟩
  · cases h
theorem ldName {env : Env} (eo : EnvOk ft env) {i : Nat} {x : Str} {k : NameKind} {own : Bool} (hi : ft.tbl[i]? = some (x, k, own)) {σ : Sig} {d : V} (hd : eName i σ = some d)
    {A : Around} {M : AS} {B : Heap} {F : Fm} {s : Shared} {Q : Value → Shared → Prop} {E : Value → Shared → Prop} (S : St g ft env M B F σ s.heap) (q : ∀ v, VRep s.heap (F.av M) F.W i own d v → Q v s) :
    wpAny (model g.prog g.w) A (loadName env x) Q E s := by
  obtain ⟨hl, hk⟩ := eo.tbl i x k own hi
  obtain ⟨v, hv, r⟩ := S.var i x k own d hi hd
  have hkd : env.scope.kind = .function := by rw [eo.scope]; exact eo.kind
  have hko : env.kindOf x = some k := by show env.scope.names.lookup x = some k; rw [eo.scope]; exact hl
  rcases hk with rfl | ⟨hk, _, hcl, c, hc⟩
  · exact wpAny_loadName_local hkd hko S.ns (by simpa using hv) (q v r)
  · obtain ⟨_, hcell⟩ := S.cell x c hc
    rcases hk with rfl | rfl
    · exact wpAny_loadName_cell hkd hko hc (by rw [show F.cm x = some v by simpa using hv] at hcell; exact hcell) (q v r)
    · exact wpAny_loadName_free hkd hko hc (by rw [show F.cm x = some v by simpa using hv] at hcell; exact hcell) (q v r) hcl

theorem sName {i : Nat} {x : Str} {k : NameKind} {pos : Pos} (hi : ft.tbl[i]? = some (x, k, false)) (hdb : (x == ("__debug__" : Str)) = false) : SoundE g n ft (.Name x pos) (eName i) := by
  (try unfold SoundE at *)
  intro env eo σ d hd A ao M B F s Q E iv S q
  refine wpAny_Name (ldName eo hi hd S fun v r => q v s (Ext.refl g s) ?_) hdb
  rcases r with ⟨_, r⟩ | ⟨o, _⟩ | ⟨o, _⟩
  · exact r
  · cases o
  · cases o
theorem sNameB {i : Nat} {x : Str} {k : NameKind} {own : Bool} {pos : Pos} (hi : ft.tbl[i]? = some (x, k, own)) (hdb : (x == ("__debug__" : Str)) = false) : SoundB g n ft (.Name x pos) (eNameL i) := by
  (try unfold SoundB at *)
  intro env eo σ d hd A ao M B F s Q E iv S q
  obtain ⟨l₀, rfl, hd'⟩ := eNameL_is hd
  refine wpAny_Name (ldName eo hi hd' S fun v r => q v s (Ext.refl g s) ?_) hdb
  rcases r with ⟨_, r⟩ | ⟨o, l, vs, a, e, rfl, _, hl, hz, r⟩ | ⟨_, _, _, _, e, _⟩
  · exact .rep r
  · cases e; exact .lst _ vs a hl.isList hz r
  · cases e

/- constants -/
noncomputable def eInt (i : Int) : Sig → Option V := fun _ => some (.int i)
noncomputable def eStr (x : Str) : Sig → Option V := fun _ => if x.length ≤ 1000 then some (.str x) else none
noncomputable def eNone : Sig → Option V := fun _ => some .none
noncomputable def eBool (b : Bool) : Sig → Option V := fun _ => some (.bool b)
theorem sInt {i : Int} {k pos} : SoundE g n ft (.Constant (.int i) k pos) (eInt i) := by
  (try unfold SoundE at *)
  intro env eo σ d hd A ao M B F s Q E iv S q
  cases hd
  exact wpAny_Constant_int (q _ _ (Ext.tok g s _ fun _ => Nat.succ_pos _) (.int _ _))
theorem sStr {x : Str} {k pos} : SoundE g n ft (.Constant (.str x) k pos) (eStr x) := by
  (try unfold SoundE at *)
  intro env eo σ d hd A ao M B F s Q E iv S q
  unfold eStr at hd
  split at hd
  · rename_i hx
    cases hd
    exact wpAny_Constant_str (q _ _ (Ext.tok g s _ fun _ => Nat.succ_pos _) (.str _ _ (Nat.le_trans hx (Nat.le_of_lt cap_lt))))
  · cases hd
theorem sNone {k pos} : SoundE g n ft (.Constant .none k pos) eNone := by
  (try unfold SoundE at *)
  intro env eo σ d hd A ao M B F s Q E iv S q
  cases hd
  exact wpAny_Constant_none (q _ _ (Ext.refl g s) .none)
theorem sBool {b : Bool} {k pos} : SoundE g n ft (.Constant (.bool b) k pos) (eBool b) := by
  (try unfold SoundE at *)
  intro env eo σ d hd A ao M B F s Q E iv S q
  cases hd
  exact wpAny_Constant_bool (q _ _ (Ext.refl g s) (.bool _))
end
end Mine
end

noncomputable section
open PySem PySem.W PyProof.Rows
namespace Mine

section
variable {g : Gl} {n : Nat} {ft : FT}

theorem up {M : Model} {A : Around} {α : Type} {t : Sem α} {s : Shared} {Q : α → Shared → Prop} {E : Value → Shared → Prop} (hn : 0 < s.toks) (h : ∀ E', wpAny M A t (fun a s' => 0 < s'.toks → Q a s') E' s) : wpAny M A t Q E s :=
  wpAny_with_toks (n := 1) hn (h _)

theorem nos {α : Type} {P : Prop} {b : α} (h : (none : Option α) = some b) : P := nomatch h
theorem sos {α : Type} {a b : α} (h : some a = some b) : a = b := Option.some.inj h
theorem seqAt_one {h : Heap} {a : Addr} {c c' : String} {vs vs' : List Value} (x : ∃ o, h.get? a = some o ∧ o.cls = .type c ∧ ∃ n, o.data = .seq vs.toArray n) (y : ∃ o, h.get? a = some o ∧ o.cls = .type c' ∧ ∃ n, o.data = .seq vs'.toArray n) : c = c' ∧ vs = vs' := by
  obtain ⟨o, ho, hc, k, hd⟩ := x
  obtain ⟨o', ho', hc', k', hd'⟩ := y
  obtain rfl := sos (ho.symm.trans ho')
  exact ⟨Value.type.inj (hc.symm.trans hc'), congrArg Array.toList (Data.seq.inj (hd.symm.trans hd')).1⟩
mutual
theorem Rep.det {h : Heap} {M M' : AS} : ∀ {x y : V} {v : Value}, Rep h M x v → Rep h M' y v → x = y
  | _, _, _, .none, r' => by cases r'; rfl
  | _, _, _, .bool _, r' => by cases r'; rfl
  | _, _, _, .int _ _, r' => by cases r'; rfl
  | _, _, _, .str _ _ _, r' => by cases r'; rfl
  | _, _, _, .tup l vs a _ hl hr, r' => by
    cases r' with
    | tup l' vs' _ _ hl' hr' =>
      obtain ⟨_, rfl⟩ := seqAt_one hl.isTuple hl'.isTuple
      rw [RepL.det hr hr']
    | lst l' vs' _ _ hl' _ _ => exact absurd (seqAt_one hl.isTuple hl').1 (by decide)
  | _, _, _, .lst l vs a _ hl _ hr, r' => by
    cases r' with
    | tup l' vs' _ _ hl' hr' => exact absurd (seqAt_one hl hl'.isTuple).1 (by decide)
    | lst l' vs' _ _ hl' _ hr' =>
      obtain ⟨_, rfl⟩ := seqAt_one hl hl'
      rw [RepL.det hr hr']
theorem RepL.det {h : Heap} {M M' : AS} : ∀ {x y : List V} {v : List Value}, RepL h M x v → RepL h M' y v → x = y
  | _, _, _, .nil, r' => by cases r'; rfl
  | _, _, _, .cons hx hr, r' => by cases r' with | cons hy hs => rw [Rep.det hx hy, RepL.det hr hs]
end

/- == -/
mutual
noncomputable def veq : V → V → Option Bool
  | .none, .none => some true
  | .none, .str _ => some false
  | .str _, .none => some false
  | .bool a, .bool b => some (a == b)
  | .int a, .int b => some (a == b)
  | .str a, .str b => some (a == b)
  | .tup a, .tup b => veqL a b
  | .lst a, .lst b => veqL a b
  | _, _ => none
noncomputable def veqL : List V → List V → Option Bool
  | [], [] => some true
  | x :: xs, y :: ys => (veq x y).bind fun a => (veqL xs ys).bind fun b => some (a && b)
  | [], _ :: _ => some false
  | _ :: _, [] => some false
end
mutual
noncomputable def vdep : V → Nat
  | .tup l => vdepL l + 1
  | .lst l => vdepL l + 1
  | _ => 0
noncomputable def vdepL : List V → Nat
  | [] => 0
  | x :: xs => max (vdep x) (vdepL xs)
end
theorem bnd {α β : Type} {p : Option α} {f : α → Option β} {b : β} (h : p.bind f = some b) : ∃ a, p = some a ∧ f a = some b := Option.bind_eq_some_iff.mp h
mutual
theorem veq_self : ∀ {x : V} {b : Bool}, veq x x = some b → b = true
  | .none, _, h => (sos h).symm
  | .bool _, _, h => (sos h).symm.trans (beq_self_eq_true _)
  | .int _, _, h => (sos h).symm.trans (beq_self_eq_true _)
  | .str _, _, h => (sos h).symm.trans (beq_self_eq_true _)
  | .tup _, _, h => veqL_self h
  | .lst _, _, h => veqL_self h
theorem veqL_self : ∀ {x : List V} {b : Bool}, veqL x x = some b → b = true
  | [], _, h => (sos h).symm
  | x :: xs, b, h => by
    obtain ⟨a, h1, h⟩ := bnd h
    obtain ⟨c, h2, h⟩ := bnd h
    rw [← sos h, veq_self h1, veqL_self h2]; rfl
end

/-- the places' answers of two lists -/
noncomputable def veqAt (xs ys : List V) (j : Nat) : Bool := ((xs[j]?).bind fun x => (ys[j]?).bind fun y => veq x y).getD true
theorem veqL_all : ∀ {xs ys : List V} {b : Bool}, veqL xs ys = some b → xs.length = ys.length → (List.range xs.length).all (veqAt xs ys) = b
  | [], [], b, h, _ => sos h
  | x :: xs, y :: ys, b, h, hl => by
    obtain ⟨a, h1, h⟩ := bnd h
    obtain ⟨c, h2, h⟩ := bnd h
    have ih := veqL_all h2 (Nat.succ.inj hl)
    rw [List.length_cons, List.range_succ_eq_map, List.all_cons, List.all_map]
    have e0 : veqAt (x :: xs) (y :: ys) 0 = a := by show (veq x y).getD true = a; rw [h1]; rfl
    rw [show (veqAt (x :: xs) (y :: ys)) ∘ Nat.succ = veqAt xs ys from rfl, ih, ← sos h, e0]
theorem veqL_len : ∀ {xs ys : List V} {b : Bool}, veqL xs ys = some b → xs.length ≠ ys.length → b = false
  | [], [], _, _, h => absurd rfl h
  | [], _ :: _, b, h, _ => (sos h).symm
  | _ :: _, [], b, h, _ => (sos h).symm
  | x :: xs, y :: ys, b, h, hl => by
    obtain ⟨a, h1, h⟩ := bnd h
    obtain ⟨c, h2, h⟩ := bnd h
    rw [← sos h, veqL_len h2 fun e => hl (congrArg Nat.succ e), Bool.and_false]
theorem veqL_get : ∀ {xs ys : List V} {b : Bool}, veqL xs ys = some b → ∀ {j : Nat} {x y : V}, xs[j]? = some x → ys[j]? = some y → ∃ c, veq x y = some c
  | x :: xs, y :: ys, b, h, j, x', y', h1, h2 => by
    obtain ⟨a, e1, h⟩ := bnd h
    obtain ⟨c, e2, h⟩ := bnd h
    cases j with
    | zero => exact ⟨a, by rw [← sos h1, ← sos h2]; exact e1⟩
    | succ j => exact veqL_get e2 h1 h2
theorem vdepL_get : ∀ {xs : List V} {j : Nat} {x : V}, xs[j]? = some x → vdep x ≤ vdepL xs
  | x :: xs, 0, _, e => sos e ▸ Nat.le_max_left _ _
  | x :: xs, j + 1, y, e => Nat.le_trans (vdepL_get (xs := xs) (j := j) (x := y) e) (Nat.le_max_right _ _)
theorem mem_get {vs : List Value} {v : Value} (h : v ∈ vs) : ∃ j : Nat, vs[j]? = some v := List.mem_iff_getElem?.mp h
theorem RepL.ofValue {h : Heap} {M : AS} {l : List V} {vs : List Value} (r : RepL h M l vs) {j : Nat} {v : Value} (e : vs[j]? = some v) : ∃ x, l[j]? = some x ∧ Rep h M x v := by
  cases hx : l[j]? with
  | none => rw [r.getElem?_none hx] at e; cases e
  | some x =>
    obtain ⟨v', e', rr⟩ := r.getElem? hx
    rw [e] at e'; cases e'
    exact ⟨x, rfl, rr⟩

theorem tup_all {xs ys : List V} {b : Bool} (h : veqL xs ys = some b) : ((List.range (min xs.length ys.length)).all (veqAt xs ys) && (xs.length == ys.length)) = b := by
  by_cases hl : xs.length = ys.length
  · rw [← hl, Nat.min_self, veqL_all h hl, beq_self_eq_true, Bool.and_true]
  · rw [veqL_len h hl, beq_eq_false_iff_ne.mpr hl, Bool.and_false]

/-- two lists' places agree as data agree -/
theorem eqAt_places {A : Around} {s : Shared} {k : Nat} (ih : ∀ {x y : V} {v u : Value} {b : Bool} {M M' : AS}, vdep x ≤ k → Rep s.heap M x v → Rep s.heap M' y u → veq x y = some b → SeqAt.EqAt A s v u b)
    {xs ys : List V} {vs us : List Value} {b : Bool} {M M' : AS} (hk : vdepL xs ≤ k) (r : RepL s.heap M xs vs) (r' : RepL s.heap M' ys us) (h : veqL xs ys = some b) :
    ∀ j (h1 : j < vs.toArray.size) (h2 : j < us.toArray.size), SeqAt.EqAt A s vs.toArray[j] us.toArray[j] (veqAt xs ys j) := by
  intro j h1 h2
  have e1 : vs[j]? = some vs.toArray[j] := by simp
  have e2 : us[j]? = some us.toArray[j] := by simp
  obtain ⟨x, hx, rx⟩ := r.ofValue e1
  obtain ⟨y, hy, ry⟩ := r'.ofValue e2
  obtain ⟨c, hc⟩ := veqL_get h hx hy
  have : veqAt xs ys j = c := by simp [veqAt, hx, hy, hc]
  rw [this]
  exact ih (Nat.le_trans (vdepL_get hx) hk) rx ry hc

/-- places of a kind at the depth -/
theorem dep_tup {l : List V} {k : Nat} (h : vdepL l + 1 ≤ k + 1) : vdepL l ≤ k := Nat.le_of_succ_le_succ h
theorem sizes {h : Heap} {M M' : AS} {l l' : List V} {vs vs' : List Value} (r : RepL h M l vs) (r' : RepL h M' l' vs') : vs.toArray.size = l.length ∧ vs'.toArray.size = l'.length := ⟨r.length, r'.length⟩
section
variable {A : Around} {s : Shared} {k : Nat} (hu : A.units + k + 1 < cLine) (ih : ∀ {x y : V} {v u : Value} {b : Bool} {M M' : AS}, vdep x ≤ k → Rep s.heap M x v → Rep s.heap M' y u → veq x y = some b → SeqAt.EqAt A.in1 s v u b)
    {l l' : List V} {vs vs' : List Value} {a a' : Addr} {b : Bool} {M M' : AS} (hr : RepL s.heap M l vs) (hr' : RepL s.heap M' l' vs') (hk : vdepL l ≤ k) (h : veqL l l' = some b)
include hu ih hr hr' hk h
theorem rc_tup (hl : Tp s.heap a vs) (hl' : Tp s.heap a' vs') : SeqAt.RcAt A s (.ref a) (.ref a') b ∧ SeqAt.RcNeAt A s (.ref a) (.ref a') (!b) := by
  have p := eqAt_places (A := A.in1) ih hk hr hr' h
  have h1 := SeqAt.RcAt.tuples hl.isTuple hl'.isTuple (by omega) p
  have h2 := SeqAt.RcNeAt.tuples hl.isTuple hl'.isTuple (by omega) p
  rw [(sizes hr hr').1, (sizes hr hr').2, tup_all h] at h1 h2
  exact ⟨h1, h2⟩
theorem rc_lst (hl : s.heap.IsList a vs.toArray) (hl' : s.heap.IsList a' vs'.toArray) : SeqAt.RcAt A s (.ref a) (.ref a') b ∧ SeqAt.RcNeAt A s (.ref a) (.ref a') (!b) := by
  by_cases hsz : l.length = l'.length
  · have hs' : vs.toArray.size = vs'.toArray.size := by rw [(sizes hr hr').1, (sizes hr hr').2]; exact hsz
    have p := eqAt_places (A := A.in1) ih hk hr hr' h
    have h1 := SeqAt.RcAt.lists hl hl' hs' (by omega) p
    have h2 := SeqAt.RcNeAt.lists hl hl' hs' (by omega) p
    rw [(sizes hr hr').1, veqL_all h hsz] at h1 h2
    exact ⟨h1, h2⟩
  · have hs' : (vs.toArray.size != vs'.toArray.size) = true := by rw [(sizes hr hr').1, (sizes hr hr').2]; exact bne_iff_ne.mpr hsz
    rw [veqL_len h hsz]
    exact ⟨SeqAt.RcAt.lists_lengths hl hl' hs' (by omega), SeqAt.RcNeAt.lists_lengths hl hl' hs' (by omega)⟩
end
theorem veq_at : ∀ (k : Nat) {A : Around} {s : Shared}, A.units + k < cLine → ∀ {x y : V} {v u : Value} {b : Bool} {M M' : AS}, vdep x ≤ k → Rep s.heap M x v → Rep s.heap M' y u → veq x y = some b → SeqAt.EqAt A s v u b := by
  intro k
  induction k with
  | zero =>
    intro A s hu x y v u b M M' hk rx ry h
    cases rx with
    | none => cases ry with
      | none => exact sos h ▸ SeqAt.EqAt.same _
      | str => exact sos h ▸ SeqAt.EqAt.none_str _ _
      | _ => exact nos h
    | bool a => cases ry with
      | bool => exact sos h ▸ SeqAt.EqAt.bool_bool _ _
      | _ => exact nos h
    | int a t => cases ry with
      | int => exact sos h ▸ SeqAt.EqAt.int_int _ _ _ _
      | _ => exact nos h
    | str a t hs => cases ry with
      | none => exact sos h ▸ SeqAt.EqAt.str_none _ _
      | str => exact sos h ▸ SeqAt.EqAt.str_str _ _ _ _
      | _ => exact nos h
    | tup l vs a _ _ _ => exact absurd hk (Nat.not_succ_le_zero _)
    | lst l vs a _ _ _ _ => exact absurd hk (Nat.not_succ_le_zero _)
  | succ k ih =>
    intro A s hu x y v u b M M' hk rx ry h
    have ih' : ∀ {x y : V} {v u : Value} {b : Bool} {M M' : AS}, vdep x ≤ k → Rep s.heap M x v → Rep s.heap M' y u → veq x y = some b → SeqAt.EqAt A.in1 s v u b :=
      fun h1 h2 h3 h4 => ih (by show A.units + 1 + k < cLine; omega) h1 h2 h3 h4
    cases rx with
    | none => cases ry with
      | none => exact sos h ▸ SeqAt.EqAt.same _
      | str => exact sos h ▸ SeqAt.EqAt.none_str _ _
      | _ => exact nos h
    | bool a => cases ry with
      | bool => exact sos h ▸ SeqAt.EqAt.bool_bool _ _
      | _ => exact nos h
    | int a t => cases ry with
      | int => exact sos h ▸ SeqAt.EqAt.int_int _ _ _ _
      | _ => exact nos h
    | str a t hs => cases ry with
      | none => exact sos h ▸ SeqAt.EqAt.str_none _ _
      | str => exact sos h ▸ SeqAt.EqAt.str_str _ _ _ _
      | _ => exact nos h
    | tup l vs a hm hl hr => cases ry with
      | tup l' vs' a' hm' hl' hr' =>
        by_cases e : a = a'
        · subst e
          obtain ⟨_, rfl⟩ := seqAt_one hl.isTuple hl'.isTuple
          obtain rfl := RepL.det hr hr'
          rw [veqL_self h]; exact SeqAt.EqAt.same _
        · exact SeqAt.EqAt.of_refs e (rc_tup hu ih' hr hr' (dep_tup hk) h hl hl').1
      | _ => exact nos h
    | lst l vs a hm hl hz hr => cases ry with
      | lst l' vs' a' hm' hl' hz' hr' =>
        by_cases e : a = a'
        · subst e
          obtain ⟨_, rfl⟩ := seqAt_one hl hl'
          obtain rfl := RepL.det hr hr'
          rw [veqL_self h]; exact SeqAt.EqAt.same _
        · exact SeqAt.EqAt.of_refs e (rc_lst hu ih' hr hr' (dep_tup hk) h hl hl').1
      | _ => exact nos h
end
end Mine
end

noncomputable section
open PySem PySem.W PyProof.Rows
namespace Mine

section
variable {g : Gl} {n : Nat} {ft : FT}

/- truth -/
noncomputable def vTruthy : V → Option Bool
  | .bool b => some b
  | .str x => some (x.length != 0)
  | .lst l => some (!l.isEmpty)
  | _ => none
theorem ifs {α : Type} {c : Prop} [Decidable c] {x : Option α} {b : α} (h : (if c then x else none) = some b) : c ∧ x = some b := by
  by_cases hc : c
  · rw [if_pos hc] at h; exact ⟨hc, h⟩
  · rw [if_neg hc] at h; exact nos h
theorem sizeLine_is : sizeLine = 16777216 := by decide
theorem line63 {k : Nat} (h : k ≤ sizeLine) : (k : Int) < 2 ^ 63 := Int.lt_of_le_of_lt (Int.ofNat_le.mpr h) (by decide)
theorem le_line {k : Nat} (h : k ≤ 1000) : k ≤ sizeLine := Nat.le_trans h (by decide)
theorem truthyLst {l : List V} {b : Bool} (h : some (!l.isEmpty) = some b) {A : Around} {av : AS} {s : Shared} {vs : List Value} {a : Addr} {Q : Bool → Shared → Prop} {E : Value → Shared → Prop} (hl : s.heap.IsList a vs.toArray) (hz : l.length ≤ sizeLine) (hr : RepL s.heap av l vs)
    (q : ∀ s', Ext g s s' → s'.heap = s.heap → Q b s') : wpAny (model g.prog g.w) A (truthy (.ref a)) Q E s := by
  obtain rfl := sos h
  have e : vs.toArray.isEmpty = l.isEmpty := by cases hr <;> rfl
  refine wpAny_truthy_list hl (line63 (hr.length.symm ▸ hz : vs.length ≤ sizeLine)) ?_
  rw [e]
  exact q _ (Ext.tok g s _ fun _ => Nat.succ_pos _) rfl
theorem truthyOp {d : V} {b : Bool} (h : vTruthy d = some b) {A : Around} {av : AS} {s : Shared} {v : Value} {Q : Bool → Shared → Prop} {E : Value → Shared → Prop} (r : Rep1 s.heap av d v)
    (q : ∀ s', Ext g s s' → s'.heap = s.heap → Q b s') : wpAny (model g.prog g.w) A (truthy v) Q E s := by
  cases r with
  | rep r =>
    cases r with
    | bool c => exact sos h ▸ wpAny_truthy_bool (q s (Ext.refl g s) rfl)
    | str x t hs =>
      refine P.truthy_str (Int.not_le.mpr (line63 hs)) ?_
      have e : ((x.length : Int) != 0) = b := by
        rw [← sos h]
        cases x.length <;> rfl
      rw [e]
      exact q _ (Ext.tok g s _ fun _ => Nat.succ_pos _) rfl
    | lst l vs a hm hl hz hr => exact truthyLst h hl hz hr q
    | _ => exact nos h
  | lst l vs a hl hz hr => exact truthyLst h hl hz hr q

/- binary operators -/
noncomputable def bInt : Operator → Int → Int → Option V
  | .Add, a, b => some (.int (a + b))
  | .Sub, a, b => some (.int (a - b))
  | .FloorDiv, a, b => if 0 < b ∧ b < 1000 then some (.int (a.fdiv b)) else none
  | .Mod, a, b => if 0 < b ∧ b < 1000 then some (.int (a.fmod b)) else none
  | _, _, _ => none
noncomputable def bStr : Operator → Str → Str → Option V
  | .Add, a, b => if a.length + b.length ≤ 1000 then some (.str (a ++ b)) else none
  | _, _, _ => none
noncomputable def bLst : Operator → List V → List V → Option V
  | .Add, a, b => if a.length + b.length ≤ 1000 then some (.lst (a ++ b)) else none
  | _, _, _ => none
noncomputable def bMul : Operator → Str → Int → Option V
  | .Mult, a, k => if a.length ≤ 1 ∧ 0 ≤ k ∧ k ≤ 1000 then some (.str (Txt.mul a k)) else none
  | _, _, _ => none
noncomputable def vBin (op : Operator) : V → V → Option V
  | .int a, .int b => bInt op a b
  | .str a, .str b => bStr op a b
  | .lst a, .lst b => bLst op a b
  | .str a, .int k => bMul op a k
  | _, _ => none

theorem mul_len {a : Str} {k : Int} (h1 : a.length ≤ 1) (h2 : 0 ≤ k) (h3 : k ≤ 1000) : (Txt.mul a k).length ≤ 1000 := by
  unfold Txt.mul
  split
  · decide
  split
  · omega
  have : ∀ (m : Nat) (acc : Array Nat), ((List.replicate m a.cps).foldl (· ++ ·) acc).size = acc.size + m * a.cps.size := by
    intro m
    induction m with
    | zero => intro acc; simp
    | succ m ih => intro acc; rw [List.replicate_succ, List.foldl_cons, ih]; simp [Nat.succ_mul]; omega
  show (Array.size _) ≤ _
  rw [this]
  have h4 : a.cps.size ≤ 1 := h1
  have h5 : k.toNat * a.cps.size ≤ k.toNat * 1 := Nat.mul_le_mul_left _ h4
  simp
  omega

theorem str_of_len0 {x : Str} (h : (x.length == 0) = true) : x = Str.empty := by
  obtain ⟨⟨c⟩⟩ := x
  cases c with
  | nil => rfl
  | cons a l => exact nomatch h

section
variable {A : Around} {av : AS} {s : Shared} {Q : Value → Shared → Prop} {E : Value → Shared → Prop} {d : V}
theorem binInt {op : Operator} {a b : Int} {t u : Tok} (h : bInt op a b = some d) (q : ∀ v s', Ext g s s' → Rep s'.heap av d v → Q v s') : wpAny (model g.prog g.w) A (binaryOp op (.int a t) (.int b u)) Q E s := by
  cases op with
  | Add => exact wpAny_add_int (q _ _ (Ext.tok g s _ fun _ => Nat.succ_pos _) (sos h ▸ .int _ _))
  | Sub => exact P.sub_int (q _ _ (Ext.tok g s _ fun _ => Nat.succ_pos _) (sos h ▸ .int _ _))
  | FloorDiv =>
    obtain ⟨hc, h⟩ := ifs h
    exact floordiv_int (Int.ne_of_gt hc.1) (q _ _ (Ext.tok g s _ fun _ => Nat.succ_pos _) (sos h ▸ .int _ _)) (.inl (PyProof.noPylong_small (by omega)))
  | Mod =>
    obtain ⟨hc, h⟩ := ifs h
    exact mod_int' (Int.ne_of_gt hc.1) (q _ _ (Ext.tok g s _ fun _ => Nat.succ_pos _) (sos h ▸ .int _ _))
  | _ => exact nos h
/-- what two texts make together -/
theorem catStr {x y : Str} {t u : Tok} (hx : x.length ≤ sizeLine) (hy : y.length ≤ sizeLine) (hc : x.length + y.length ≤ 1000) (q : ∀ v s', Ext g s s' → Rep s'.heap av (.str (x ++ y)) v → Q v s') :
    (if (x.length == 0) = true then Made.val (Value.str y u) else if (y.length == 0) = true then Made.val (Value.str x t) else Made.str (x ++ y)).post Q s := by
  split
  · rename_i h0
    obtain rfl := str_of_len0 h0
    exact q _ _ (Ext.refl g s) (by rw [PySem.Str.empty_append]; exact .str _ _ hy)
  split
  · rename_i h0
    obtain rfl := str_of_len0 h0
    exact q _ _ (Ext.refl g s) (by rw [PySem.Str.append_empty]; exact .str _ _ hx)
  · have hl : (x ++ y).length ≤ sizeLine := le_line (PySem.Str.length_append x y ▸ hc)
    exact ⟨hl, q _ _ (Ext.tok g s _ fun _ => Nat.succ_pos _) (.str _ _ hl)⟩
theorem catLst {xs ys : List V} {vs us : List Value} {a b : Addr} (hl : s.heap.IsList a vs.toArray) (hr : RepL s.heap av xs vs) (hl' : s.heap.IsList b us.toArray) (hr' : RepL s.heap av ys us) (hc : xs.length + ys.length ≤ 1000)
    (tb : av g.TB) (fr : ∀ a, av a → s.heap.get? a ≠ none) (q : ∀ v s', Ext g s s' → Rep s'.heap av (.lst (xs ++ ys)) v → Q v s') : wpAny (model g.prog g.w) A (binaryOp .Add (.ref a) (.ref b)) Q E s := by
  obtain ⟨⟨cls, dd, data, sl⟩, ho, hcl, k, hd⟩ := hl
  obtain ⟨⟨cls2, dd2, data2, sl2⟩, ho2, hcl2, k2, hd2⟩ := hl'
  obtain rfl : cls = _ := hcl
  obtain rfl : data = _ := hd
  obtain rfl : cls2 = _ := hcl2
  obtain rfl : data2 = _ := hd2
  have e : vs.toArray ++ us.toArray = (vs ++ us).toArray := List.append_toArray ..
  have hn : vs.toArray.size + us.toArray.size ≤ sizeLine := le_line ((show vs.length + us.length ≤ 1000 from hr.length.symm ▸ hr'.length.symm ▸ hc))
  refine concat_meets ⟨_, ho, rfl⟩ ⟨_, ho2, rfl⟩ noFill_list_add seq_list_add PySem.F.slot_list_add PySem.F.entry_list_add (PySem.F.args_list_add_2 _ _) (list_addW a b vs.toArray us.toArray k k2 dd dd2 sl sl2 hn) ⟨ho, ho2, ?_⟩
  rw [e]
  refine q _ _ (Ext.push g s _ _) (.lst _ (vs ++ us) _ (fun hq => fr _ hq ?_) ⟨_, Heap.get?_push_size _ rfl, rfl, _, rfl⟩ (le_line (List.length_append ▸ hc)) ((hr.append hr').keep (X := g.tab) (Kp.push _ _) (fun a e => e ▸ tb) fun _ q => q))
  cases e : s.heap.get? s.heap.objs.size with
  | none => rfl
  | some o => exact absurd (Heap.lt_size e) (Nat.lt_irrefl _)
theorem mulStr {x : Str} {k : Int} {t u : Tok} (hc : x.length ≤ 1 ∧ 0 ≤ k ∧ k ≤ 1000) (hx : x.length ≤ sizeLine) (iv : Inv g s) (q : ∀ v s', Ext g s s' → Rep s'.heap av (.str (Txt.mul x k)) v → Q v s') : wpAny (model g.prog g.w) A (binaryOp .Mult (.str x t) (.int k u)) Q E s := by
  obtain ⟨h1, h2, h3⟩ := hc
  have h4 : (x.length : Int) ≤ 1 := Int.ofNat_le.mpr h1
  refine up iv.tok fun E' => SB.mul ⟨by simp; omega, fun p1 p2 => ?_, fun p1 p2 => ?_⟩ fun t' k' ht => q _ _ (Ext.tok g s _ fun _ => ht) (.str _ _ (Nat.le_trans (mul_len h1 h2 h3) (by decide)))
  · have : (1 : Int) ≤ (2 ^ 63 - 1) / k := by
      rw [Int.le_ediv_iff_mul_le (by omega)]
      omega
    omega
  · unfold PySem.Builtin.Str.tooLong
    have : x.length * k.toNat ≤ 1 * k.toNat := Nat.mul_le_mul_right _ h1
    rw [sizeLine_is]
    simp
    omega
theorem binStr {op : Operator} {x y : Str} {t u : Tok} (h : bStr op x y = some d) (hx : x.length ≤ sizeLine) (hy : y.length ≤ sizeLine) (q : ∀ v s', Ext g s s' → Rep s'.heap av d v → Q v s') : wpAny (model g.prog g.w) A (binaryOp op (.str x t) (.str y u)) Q E s := by
  cases op with
  | Add =>
    obtain ⟨hc, h⟩ := ifs h
    exact P.add_str (catStr hx hy hc (sos h ▸ q))
  | _ => exact nos h
theorem binMul {op : Operator} {x : Str} {k : Int} {t u : Tok} (h : bMul op x k = some d) (hx : x.length ≤ sizeLine) (iv : Inv g s) (q : ∀ v s', Ext g s s' → Rep s'.heap av d v → Q v s') : wpAny (model g.prog g.w) A (binaryOp op (.str x t) (.int k u)) Q E s := by
  cases op with
  | Mult =>
    obtain ⟨hc, h⟩ := ifs h
    exact mulStr hc hx iv (sos h ▸ q)
  | _ => exact nos h
set_option maxHeartbeats 2000000 in
theorem binOp {op : Operator} {a b : V} (h : vBin op a b = some d) {va vb : Value} (ra : Rep s.heap av a va) (rb : Rep s.heap av b vb)
    (tb : av g.TB) (fr : ∀ a, av a → s.heap.get? a ≠ none) (iv : Inv g s) (ao : AOk n A)
    (q : ∀ v s', Ext g s s' → Rep s'.heap av d v → Q v s') : wpAny (model g.prog g.w) A (binaryOp op va vb) Q E s := by
  cases ra with
  | int i t => cases rb with
    | int j u => exact binInt (show bInt op i j = some d from h) q
    | _ => exact nos h
  | str x t hx => cases rb with
    | str y u hy => exact binStr (show bStr op x y = some d from h) hx hy q
    | int k u => exact binMul (show bMul op x k = some d from h) hx iv q
    | _ => exact nos h
  | lst xs vs a hm hl hz hr => cases rb with
    | lst ys us b hm' hl' hz' hr' =>
      have h : bLst op xs ys = some d := h
      cases op with
      | Add =>
        obtain ⟨hc, h⟩ := ifs h
        exact catLst hl hr hl' hr' hc tb fr (sos h ▸ q)
      | _ => exact nos h
    | _ => exact nos h
  | _ => exact nos h
end
end
end Mine
end

noncomputable section
open PySem PySem.W PyProof.Rows
namespace Mine

section
variable {g : Gl} {n : Nat} {ft : FT}

theorem Inv.tabSome {s : Shared} (iv : Inv g s) : s.heap.get? g.TB ≠ none := by
  obtain ⟨m, ⟨_, ht⟩, _⟩ := iv.tab
  rw [ht]; exact fun z => nomatch z
theorem St.avSome {env : Env} {M : AS} {B : Heap} {F : Fm} {σ : Sig} {s : Shared} (S : St g ft env M B F σ s.heap) (iv : Inv g s) : ∀ a, F.av M a → s.heap.get? a ≠ none := by
  intro a ha
  rcases ha with hm | hw
  · by_cases e : a = g.TB
    · subst e; exact iv.tabSome
    · cases hb : B.get? a with
      | none => exact absurd hb (S.Mlow a hm)
      | some o => rw [S.keep a o e hb]; exact fun z => nomatch z
  · cases hr : F.W a with
    | none => exact absurd hr hw
    | some r => exact (S.low a r hr).2.1
theorem Kp.some {X : AS} {h h' : Heap} (k : Kp X h h') {a : Addr} (n : ¬ X a) (e : h.get? a ≠ none) : h'.get? a ≠ none := by
  cases q : h.get? a with
  | none => exact absurd q e
  | some o => rw [k a o n q]; exact fun z => nomatch z
theorem size_none (h : Heap) : h.get? h.objs.size = none := by
  cases e : h.get? h.objs.size with
  | none => rfl
  | some o => exact absurd (Heap.lt_size e) (Nat.lt_irrefl _)

/- comparisons -/
noncomputable def vIn : V → V → Option Bool
  | .int x, .lst l => some (l.any fun y => veq y (.int x) == some true)
  | .str x, .lst l => some (l.any fun y => veq y (.str x) == some true)
  | .str x, .tup l => some (l.any fun y => veq y (.str x) == some true)
  | .str x, .str y => some (Txt.contains y x)
  | _, _ => none
noncomputable def vInOk : V → V → Bool
  | .str _, .str _ => true
  | x, .lst l => l.all fun y => vdep y == 0 && (veq y x).isSome
  | x, .tup l => l.all fun y => vdep y == 0 && (veq y x).isSome
  | _, _ => false
noncomputable def cInt : CmpOp → Int → Int → Option Bool
  | .Lt, a, b => some (decide (a < b))
  | .LtE, a, b => some (decide (a ≤ b))
  | .Gt, a, b => some (decide (a > b))
  | .GtE, a, b => some (decide (a ≥ b))
  | _, _, _ => none
noncomputable def cStr : CmpOp → Str → Str → Option Bool
  | .LtE, a, b => some (!decide (b.cps.toList < a.cps.toList))
  | .Gt, a, b => some (decide (b.cps.toList < a.cps.toList))
  | _, _, _ => none
/-- a none, or nothing like it -/
noncomputable def vIs : V → V → Option Bool
  | .none, .none => some true
  | .str _, .none => some false
  | .lst _, .none => some false
  | _, _ => none
noncomputable def vOrd (op : CmpOp) : V → V → Option Bool
  | .int a, .int b => cInt op a b
  | .str a, .str b => cStr op a b
  | _, _ => none
noncomputable def vCmp (op : CmpOp) (a b : V) : Option Bool := match op with
  | .Eq => if vdep a ≤ 5 then veq a b else none
  | .NotEq => if vdep a ≤ 5 then (veq a b).map (!·) else none
  | .In => if vInOk a b then vIn a b else none
  | .NotIn => if vInOk a b then (vIn a b).map (!·) else none
  | .Is => vIs a b
  | .IsNot => (vIs a b).map (!·)
  | op => vOrd op a b

theorem rcEq {k : Nat} {A : Around} {s : Shared} (hu : A.units + k + 1 < cLine) {x y : V} {v u : Value} {b : Bool} {M M' : AS} (hk : vdep x ≤ k) (rx : Rep s.heap M x v) (ry : Rep s.heap M' y u) (h : veq x y = some b) :
    SeqAt.RcAt A s v u b ∧ SeqAt.RcNeAt A s v u (!b) := by
  have ih' : ∀ {x y : V} {v u : Value} {b : Bool} {M M' : AS}, vdep x ≤ k → Rep s.heap M x v → Rep s.heap M' y u → veq x y = some b → SeqAt.EqAt A.in1 s v u b :=
    fun h1 h2 h3 h4 => veq_at k (by show A.units + 1 + k < cLine; omega) h1 h2 h3 h4
  cases rx with
  | none => cases ry with
    | none => exact sos h ▸ ⟨SeqAt.RcAt.none_none, SeqAt.RcNeAt.none_none⟩
    | str => exact sos h ▸ ⟨SeqAt.RcAt.none_str _ _, SeqAt.RcNeAt.none_str _ _⟩
    | _ => exact nos h
  | bool a => cases ry with
    | bool => exact sos h ▸ ⟨SeqAt.RcAt.bool_bool _ _, SeqAt.RcNeAt.bool_bool _ _⟩
    | _ => exact nos h
  | int a t => cases ry with
    | int => exact sos h ▸ ⟨SeqAt.RcAt.int_int _ _ _ _, SeqAt.RcNeAt.int_int _ _ _ _⟩
    | _ => exact nos h
  | str a t hs => cases ry with
    | none => exact sos h ▸ ⟨SeqAt.RcAt.str_none _ _, SeqAt.RcNeAt.str_none _ _⟩
    | str => exact sos h ▸ ⟨SeqAt.RcAt.str_str _ _ _ _, SeqAt.RcNeAt.str_str _ _ _ _⟩
    | _ => exact nos h
  | tup l vs a hm hl hr => cases ry with
    | tup l' vs' a' hm' hl' hr' => exact rc_tup hu ih' hr hr' (Nat.le_of_succ_le hk) h hl hl'
    | _ => exact nos h
  | lst l vs a hm hl hz hr => cases ry with
    | lst l' vs' a' hm' hl' hz' hr' => exact rc_lst hu ih' hr hr' (Nat.le_of_succ_le hk) h hl hl'
    | _ => exact nos h

/-- what a place of a list says of a value that is sought -/
noncomputable def valIs (y x : Value) : Bool := match y, x with
  | .int a _, .int b _ => a == b
  | .str a _, .str b _ => a == b
  | _, _ => false
/-- an int or a text -/
noncomputable def prim : V → Bool
  | .int _ => true
  | .str _ => true
  | _ => false
theorem valIs_of {h : Heap} {M M' : AS} {x z : V} {u v : Value} {b : Bool} (rz : Rep h M z v) (rx : Rep h M' x u) (px : prim x = true) (e : veq z x = some b) : valIs v u = b := by
  cases rx with
  | int i t => cases rz with
    | int j t' => exact sos e
    | _ => exact nos e
  | str y t => cases rz with
    | none => exact sos e
    | str z t' => exact sos e
    | _ => exact nos e
  | _ => exact nomatch px
section
variable {A : Around} (hu : A.units + 1 < cLine) {s : Shared} {av av' : AS} {x : V} {u : Value} (rx : Rep s.heap av' x u) (px : prim x = true)
include rx px
theorem inAny {l : List V} {vs : List Value} (hr : RepL s.heap av l vs) (ok : (l.all fun y => vdep y == 0 && (veq y x).isSome) = true) : (vs.toArray.any fun y => valIs y u) = l.any fun y => veq y x == some true := by
  rw [List.any_toArray]
  induction l generalizing vs with
  | nil => cases hr; rfl
  | cons z l ih =>
    cases hr with
    | cons hz hr =>
      obtain ⟨o1, o2⟩ := Bool.and_eq_true_iff.mp ok
      obtain ⟨b, hb⟩ := Option.isSome_iff_exists.mp (Bool.and_eq_true_iff.mp o1).2
      rw [List.any_cons, List.any_cons, ih hr o2, valIs_of hz rx px hb, hb]
      cases b <;> rfl
include hu
theorem inEach {l : List V} {vs : List Value} (hr : RepL s.heap av l vs) (ok : (l.all fun y => vdep y == 0 && (veq y x).isSome) = true) : ∀ y, y ∈ vs.toArray → SeqAt.EqAt A.in1 s y u (valIs y u) := by
  intro y hy
  obtain ⟨j, hj⟩ := mem_get (Array.mem_toList_iff.mpr hy)
  obtain ⟨z, hz, rz⟩ := hr.ofValue hj
  obtain ⟨o1, o2⟩ := Bool.and_eq_true_iff.mp (List.all_eq_true.mp ok z (List.mem_of_getElem? hz))
  obtain ⟨b, hb⟩ := Option.isSome_iff_exists.mp o2
  rw [valIs_of rz rx px hb]
  exact veq_at 0 (A := A.in1) hu (Nat.le_of_eq (beq_iff_eq.mp o1)) rz rx hb
end
section
variable {A : Around} {av : AS} {s : Shared} {Q : Value → Shared → Prop} {E : Value → Shared → Prop} {va vb : Value} {a b : V} {d : Bool}
theorem inCase (hu : A.units + 1 < cLine) (ra : Rep s.heap av a va) (rb : Rep s.heap av b vb) (ok : vInOk a b = true) (hv : vIn a b = some d) :
    ∀ (prog : Program) (w : World), (∀ Q : Value → Shared → Prop, Q (.bool d) s → wpAny (model prog w) A (compareOp .In va vb) Q E s) ∧ ∀ Q : Value → Shared → Prop, Q (.bool (!d)) s → wpAny (model prog w) A (compareOp .NotIn va vb) Q E s := by
  intro prog w
  cases rb with
  | lst l vs a' hm hl hz hr =>
    have key : prim a = true → (l.all fun y => vdep y == 0 && (veq y a).isSome) = true → (l.any fun y => veq y a == some true) = d →
        (∀ Q : Value → Shared → Prop, Q (.bool d) s → wpAny (model prog w) A (compareOp .In va (.ref a')) Q E s) ∧ ∀ Q : Value → Shared → Prop, Q (.bool (!d)) s → wpAny (model prog w) A (compareOp .NotIn va (.ref a')) Q E s := by
      intro px ok e
      rw [← e, ← inAny ra px hr ok]
      exact ⟨fun Q hq => SeqAt.in_listAt _ hl (inEach hu ra px hr ok) hq, fun Q hq => SeqAt.notIn_listAt _ hl (inEach hu ra px hr ok) hq⟩
    cases a with
    | int x => exact key rfl ok (sos hv)
    | str x => exact key rfl ok (sos hv)
    | _ => exact nos hv
  | tup l vs a' hm hl hr =>
    have key : prim a = true → (l.all fun y => vdep y == 0 && (veq y a).isSome) = true → (l.any fun y => veq y a == some true) = d →
        (∀ Q : Value → Shared → Prop, Q (.bool d) s → wpAny (model prog w) A (compareOp .In va (.ref a')) Q E s) ∧ ∀ Q : Value → Shared → Prop, Q (.bool (!d)) s → wpAny (model prog w) A (compareOp .NotIn va (.ref a')) Q E s := by
      intro px ok e
      rw [← e, ← inAny ra px hr ok]
      exact ⟨fun Q hq => SeqAt.in_tupleAt _ hl.isTuple (inEach hu ra px hr ok) hq, fun Q hq => SeqAt.notIn_tupleAt _ hl.isTuple (inEach hu ra px hr ok) hq⟩
    cases a with
    | str x => exact key rfl ok (sos hv)
    | _ => exact nos hv
  | str y t => cases ra with
    | str x t' => exact sos hv ▸ ⟨fun Q hq => P.in_str hq, fun Q hq => P.notIn_str hq⟩
    | _ => exact nos hv
  | _ => cases a <;> exact nos hv
theorem map_some {α β : Type} {p : Option α} {f : α → β} {b : β} (h : p.map f = some b) : ∃ a, p = some a ∧ f a = b := Option.map_eq_some_iff.mp h
set_option maxHeartbeats 2000000 in
theorem isCase (ra : Rep s.heap av a va) (rb : Rep s.heap av b vb) (hv : vIs a b = some d) :
    ∀ (prog : Program) (w : World), (∀ Q : Value → Shared → Prop, Q (.bool d) s → wpAny (model prog w) A (compareOp .Is va vb) Q E s) ∧ ∀ Q : Value → Shared → Prop, Q (.bool (!d)) s → wpAny (model prog w) A (compareOp .IsNot va vb) Q E s := by
  intro prog w
  cases rb with
  | none => cases ra with
    | none => exact sos hv ▸ ⟨fun Q q => wpAny_is_plain rfl q, fun Q q => wpAny_isNot_plain rfl q⟩
    | str => exact sos hv ▸ ⟨fun Q q => wpAny_is_plain rfl q, fun Q q => wpAny_isNot_plain rfl q⟩
    | lst => exact sos hv ▸ ⟨fun Q q => wpAny_is_other rfl (fun z => nomatch z) q, fun Q q => wpAny_isNot_other rfl (fun z => nomatch z) q⟩
    | _ => exact nos hv
  | _ => cases a <;> exact nos hv
set_option maxHeartbeats 2000000 in
theorem ordCase {op : CmpOp} (ra : Rep s.heap av a va) (rb : Rep s.heap av b vb) (hv : vOrd op a b = some d) (q : Q (.bool d) s) : wpAny (model g.prog g.w) A (compareOp op va vb) Q E s := by
  cases ra with
  | int x t => cases rb with
    | int y u =>
      have h : cInt op x y = some d := hv
      cases op with
      | Lt => exact P.lt_int (sos h ▸ q)
      | LtE => exact P.le_int (sos h ▸ q)
      | Gt => exact P.gt_int (sos h ▸ q)
      | GtE => exact P.ge_int (sos h ▸ q)
      | _ => exact nos h
    | _ => exact nos hv
  | str x t => cases rb with
    | str y u =>
      have h : cStr op x y = some d := hv
      cases op with
      | LtE => exact P.le_str (sos h ▸ q)
      | Gt => exact P.gt_str (sos h ▸ q)
      | _ => exact nos h
    | _ => exact nos hv
  | _ => exact nos hv
theorem cmpOp {op : CmpOp} (h : vCmp op a b = some d) (ra : Rep s.heap av a va) (rb : Rep s.heap av b vb)
    (ao : AOk n A) (q : Q (.bool d) s) : wpAny (model g.prog g.w) A (compareOp op va vb) Q E s := by
  have hu := ao.units
  have hu1 : A.units + 5 + 1 < cLine := by omega
  have hu2 : A.units + 1 < cLine := Nat.lt_of_le_of_lt (Nat.add_le_add_left (by decide) _) hu1
  cases op with
  | Eq =>
    obtain ⟨hd, h⟩ := ifs h
    exact (rcEq (k := 5) hu1 hd ra rb h).1 _ _ E Q q
  | NotEq =>
    obtain ⟨hd, h⟩ := ifs h
    obtain ⟨c, hv, rfl⟩ := map_some h
    exact (rcEq (k := 5) hu1 hd ra rb hv).2 _ _ E Q q
  | In =>
    obtain ⟨ok, h⟩ := ifs h
    exact (inCase hu2 ra rb ok h _ _).1 _ q
  | NotIn =>
    obtain ⟨ok, h⟩ := ifs h
    obtain ⟨c, hv, rfl⟩ := map_some h
    exact (inCase hu2 ra rb ok hv _ _).2 _ q
  | Is => exact (isCase ra rb h _ _).1 _ q
  | IsNot =>
    obtain ⟨c, hv, rfl⟩ := map_some h
    exact (isCase ra rb hv _ _).2 _ q
  | _ => exact ordCase ra rb h q
end
end
end Mine
end

noncomputable section
open PySem PySem.W PyProof.Rows
namespace Mine

section
variable {g : Gl} {n : Nat} {ft : FT}

theorem St.repExt {env : Env} {M : AS} {B : Heap} {F : Fm} {σ : Sig} {s s' : Shared} (S : St g ft env M B F σ s.heap) (x : Ext g s s') {d : V} {v : Value} (r : Rep s.heap (F.av M) d v) : Rep s'.heap (F.av M) d v :=
  r.keep x.keep S.tabAv fun _ q => q
theorem St.repLExt {env : Env} {M : AS} {B : Heap} {F : Fm} {σ : Sig} {s s' : Shared} (S : St g ft env M B F σ s.heap) (x : Ext g s s') {d : List V} {v : List Value} (r : RepL s.heap (F.av M) d v) : RepL s'.heap (F.av M) d v :=
  r.keep x.keep S.tabAv fun _ q => q
theorem rep1Ext {s s' : Shared} (iv : Inv g s) (x : Ext g s s') {av : AS} (tb : av g.TB) {d : V} {v : Value} (r : Rep1 s.heap av d v) : Rep1 s'.heap av d v := by
  refine r.keep x.keep (fun a e => e ▸ tb) (fun _ q => q) fun a xs ha hl => ?_
  refine x.keep.isList ?_ hl
  rintro rfl
  obtain ⟨o, ho, hc, k, hd⟩ := hl
  obtain ⟨m, ⟨_, ht⟩, _⟩ := iv.tab
  rw [ht] at ho; cases ho; cases hc

/- two operands -/
noncomputable def eBin (op : Operator) (f h : Sig → Option V) : Sig → Option V := fun σ => (f σ).bind fun a => (h σ).bind fun b => vBin op a b
theorem bind_some {α β : Type} {x : Option α} {f : α → Option β} {b : β} (h : x.bind f = some b) : ∃ a, x = some a ∧ f a = some b := by
  cases x with
  | none => cases h
  | some a => exact ⟨a, rfl, h⟩

theorem sBin {op : Operator} {l r : Expr} {pos : Pos} {f h : Sig → Option V} (hl : SoundE g n ft l f) (hr : SoundE g n ft r h) : SoundE g n ft (.BinOp l op r pos) (eBin op f h) := by
  (try unfold SoundE at *)
  intro env eo σ d hd A ao M B F s Q E iv S q
  obtain ⟨a, ha, hd⟩ := bind_some hd
  obtain ⟨b, hb, hd⟩ := bind_some hd
  refine wpAny_BinOp (hl env eo σ a ha A ao M B F s _ E iv S fun va s₁ x₁ ra => ?_)
  refine hr env eo σ b hb A ao M B F s₁ _ E (x₁.inv iv) (S.extE x₁) fun vb s₂ x₂ rb => ?_
  have iv₂ := x₂.inv (x₁.inv iv)
  have S₂ := (S.extE x₁).extE x₂
  exact binOp hd ((S.extE x₁).repExt x₂ ra) rb (.inl S.Mtab) (S₂.avSome iv₂) iv₂ ao fun v s₃ x₃ r => q v s₃ ((x₁.trans x₂).trans x₃) r

noncomputable def eCmp (op : CmpOp) (f h : Sig → Option V) : Sig → Option V := fun σ => (f σ).bind fun a => (h σ).bind fun b => (vCmp op a b).map .bool
noncomputable def tCmp (op : CmpOp) (f h : Sig → Option V) : Sig → Option Bool := fun σ => (f σ).bind fun a => (h σ).bind fun b => vCmp op a b
theorem sCmp {op : CmpOp} {l r : Expr} {pos : Pos} {f h : Sig → Option V} (hl : SoundE g n ft l f) (hr : SoundE g n ft r h) (hm : behindInMarks op r = false := by with_unfolding_all rfl) : SoundE g n ft (.Compare l [op] [r] pos) (eCmp op f h) := by
  (try unfold SoundE at *)
  intro env eo σ d hd A ao M B F s Q E iv S q
  obtain ⟨a, ha, hd⟩ := bind_some hd
  obtain ⟨b, hb, hd⟩ := bind_some hd
  refine wpAny_Compare1 (hl env eo σ a ha A ao M B F s _ E iv S fun va s₁ x₁ ra => ?_) hm
  refine hr env eo σ b hb A ao M B F s₁ _ E (x₁.inv iv) (S.extE x₁) fun vb s₂ x₂ rb => ?_
  cases hv : vCmp op a b with
  | none => rw [hv] at hd; cases hd
  | some c => rw [hv] at hd; cases hd; exact cmpOp hv ((S.extE x₁).repExt x₂ ra) rb ao (q _ _ (x₁.trans x₂) (.bool _))
theorem tsCmp {op : CmpOp} {l r : Expr} {pos : Pos} {f h : Sig → Option V} (hl : SoundE g n ft l f) (hr : SoundE g n ft r h) (hm : behindInMarks op r = false := by with_unfolding_all rfl) : SoundT g n ft (.Compare l [op] [r] pos) (tCmp op f h) := by
  (try unfold SoundE at *); (try unfold SoundT at *)
  intro env eo σ d hd A ao M B F s Q E iv S q
  obtain ⟨a, ha, hd⟩ := bind_some hd
  obtain ⟨b, hb, hd⟩ := bind_some hd
  refine wpAny_isTrue_Compare1 (hl env eo σ a ha A ao M B F s _ E iv S fun va s₁ x₁ ra => ?_) hm
  refine hr env eo σ b hb A ao M B F s₁ _ E (x₁.inv iv) (S.extE x₁) fun vb s₂ x₂ rb => ?_
  exact cmpOp hd ((S.extE x₁).repExt x₂ ra) rb ao (wpAny_truthy_bool (q _ (x₁.trans x₂)))

/-- a chain of two -/
noncomputable def eCmp2 (o₁ o₂ : CmpOp) (f h k : Sig → Option V) : Sig → Option V := fun σ => (f σ).bind fun a => (h σ).bind fun b => (vCmp o₁ a b).bind fun c => match c with
  | true => (k σ).bind fun d => (vCmp o₂ b d).map .bool
  | false => some (.bool false)
theorem sCmp2 {o₁ o₂ : CmpOp} {l r t : Expr} {pos : Pos} {f h k : Sig → Option V} (hl : SoundE g n ft l f) (hr : SoundE g n ft r h) (ht : SoundE g n ft t k) (hm : behindInMarks o₂ t = false := by with_unfolding_all rfl) : SoundE g n ft (.Compare l [o₁, o₂] [r, t] pos) (eCmp2 o₁ o₂ f h k) := by
  (try unfold SoundE at *)
  intro env eo σ d hd A ao M B F s Q E iv S q
  obtain ⟨a, ha, hd⟩ := bind_some hd
  obtain ⟨b, hb, hd⟩ := bind_some hd
  obtain ⟨c, hc, hd⟩ := bind_some hd
  have e : eval (.Compare l [o₁, o₂] [r, t] pos) env = (do
      let a ← eval l env
      let b ← holding [a] (eval r env)
      standAt pos
      let c ← holding [a, b] (compareOp o₁ a b)
      release [a, b] [c]
      if ← holding [c, b] (truthy c) then (do
        let rv ← holding [b] (markedBehindIn o₂ t (eval t env))
        standAt pos
        operate [b, rv] (compareOp o₂ b rv)) else pure c) := rfl
  rw [e, markedBehindIn_of_false hm]
  refine wpAny_bind (hl env eo σ a ha A ao M B F s _ E iv S fun va s₁ x₁ ra => ?_)
  refine wpAny_bind (wpAny_holding (hr env eo σ b hb A ao M B F s₁ _ E (x₁.inv iv) (S.extE x₁) fun vb s₂ x₂ rb => ?_))
  refine wpAny_bind (wpAny_standAt (wpAny_bind (wpAny_holding (cmpOp hc ((S.extE x₁).repExt x₂ ra) rb ao ?_))))
  refine wpAny_bind (wpAny_release (wpAny_bind (wpAny_holding (wpAny_truthy_bool ?_))))
  cases c with
  | false => cases hd; exact wpAny_pure (q _ _ (x₁.trans x₂) (.bool _))
  | true =>
    obtain ⟨d', hk, hd⟩ := bind_some hd
    simp only [if_true]
    refine wpAny_bind (wpAny_holding (ht env eo σ d' hk A ao M B F s₂ _ E (x₂.inv (x₁.inv iv)) ((S.extE x₁).extE x₂) fun vd s₃ x₃ rd => ?_))
    cases hv : vCmp o₂ b d' with
    | none => rw [hv] at hd; cases hd
    | some c =>
      rw [hv] at hd; cases hd
      refine wpAny_bind (wpAny_standAt ?_)
      have := cmpOp (g := g) (n := n) (A := A) (E := E) hv (((S.extE x₁).extE x₂).repExt x₃ rb) rd ao (Q := Q) (q _ _ ((x₁.trans x₂).trans x₃) (.bool _))
      intro Γ p hΓ
      rw [Sem.wp_operate]
      exact this Γ p hΓ

/- tests -/
noncomputable def tVal (f : Sig → Option V) : Sig → Option Bool := fun σ => (f σ).bind vTruthy
theorem tsVal {e : Expr} {f : Sig → Option V} (h : SoundB g n ft e f) (he : ∀ env whole, isTrue e env whole = (do let v ← whole; standAt e.pos; holding [v] (truthy v)) := by intro _ _; rfl) : SoundT g n ft e (tVal f) := by
  (try unfold SoundB at *); (try unfold SoundT at *)
  intro env eo σ d hd A ao M B F s Q E iv S q
  obtain ⟨a, ha, hd⟩ := bind_some hd
  refine wpAny_isTrue_value (h env eo σ a ha A ao M B F s _ E iv S fun va s₁ x₁ ra => ?_) (he _ _)
  exact truthyOp hd ra fun s' x _ => q s' (x₁.trans x)
noncomputable def tNot (f : Sig → Option Bool) : Sig → Option Bool := fun σ => (f σ).map (!·)
theorem tsNot {e : Expr} {pos : Pos} {f : Sig → Option Bool} (h : SoundT g n ft e f) : SoundT g n ft (.UnaryOp .Not e pos) (tNot f) := by
  (try unfold SoundT at *)
  intro env eo σ d hd A ao M B F s Q E iv S q
  cases hf : f σ with
  | none => simp [tNot, hf] at hd
  | some a =>
    have e : (!a) = d := by simpa [tNot, hf] using hd
    subst e
    exact wpAny_isTrue_Not (h env eo σ a hf A ao M B F s _ E iv S fun s₁ x₁ => q s₁ x₁)
@[irreducible] noncomputable def SoundTs (g : Gl) (n : Nat) (ft : FT) (op : BoolOp) (es : List Expr) (f : Sig → Option Bool) : Prop :=
  ∀ (env : Env), EnvOk ft env → ∀ (σ : Sig) (d : Bool), f σ = some d → ∀ (A : Around), AOk n A → ∀ (M : AS) (B : Heap) (F : Fm) (s : Shared) (Q : Bool → Shared → Prop) (E : Value → Shared → Prop), Inv g s → St g ft env M B F σ s.heap →
    (∀ s', Ext g s s' → Q d s') → wpAny (model g.prog g.w) A (allTrue op es env) Q E s
noncomputable def tAnd (f h : Sig → Option Bool) : Sig → Option Bool := fun σ => (f σ).bind fun b => match b with | true => h σ | false => some false
noncomputable def tOr (f h : Sig → Option Bool) : Sig → Option Bool := fun σ => (f σ).bind fun b => match b with | true => some true | false => h σ
noncomputable def tConst (b : Bool) : Sig → Option Bool := fun _ => some b
theorem tsAndNil : SoundTs g n ft .And [] (tConst true) := by
  (try unfold SoundTs at *)
  intro env eo σ d hd A ao M B F s Q E iv S q
  cases hd; exact wpAny_allTrue_And_nil (q s (Ext.refl g s))
theorem tsOrNil : SoundTs g n ft .Or [] (tConst false) := by
  (try unfold SoundTs at *)
  intro env eo σ d hd A ao M B F s Q E iv S q
  cases hd; exact wpAny_allTrue_Or_nil (q s (Ext.refl g s))
theorem tsAndCons {e : Expr} {es : List Expr} {f h : Sig → Option Bool} (hf : SoundT g n ft e f) (hh : SoundTs g n ft .And es h) : SoundTs g n ft .And (e :: es) (tAnd f h) := by
  (try unfold SoundT at *); (try unfold SoundTs at *)
  intro env eo σ d hd A ao M B F s Q E iv S q
  obtain ⟨b, hb, hd⟩ := bind_some hd
  refine wpAny_allTrue_And_cons (hf env eo σ b hb A ao M B F s _ E iv S fun s₁ x₁ => ?_)
  cases b with
  | false => cases hd; exact q _ x₁
  | true => exact hh env eo σ d hd A ao M B F s₁ _ E (x₁.inv iv) (S.extE x₁) fun s₂ x₂ => q _ (x₁.trans x₂)
theorem tsOrCons {e : Expr} {es : List Expr} {f h : Sig → Option Bool} (hf : SoundT g n ft e f) (hh : SoundTs g n ft .Or es h) : SoundTs g n ft .Or (e :: es) (tOr f h) := by
  (try unfold SoundT at *); (try unfold SoundTs at *)
  intro env eo σ d hd A ao M B F s Q E iv S q
  obtain ⟨b, hb, hd⟩ := bind_some hd
  refine wpAny_allTrue_Or_cons (hf env eo σ b hb A ao M B F s _ E iv S fun s₁ x₁ => ?_)
  cases b with
  | true => cases hd; exact q _ x₁
  | false => exact hh env eo σ d hd A ao M B F s₁ _ E (x₁.inv iv) (S.extE x₁) fun s₂ x₂ => q _ (x₁.trans x₂)
theorem tsBool {op : BoolOp} {es : List Expr} {pos : Pos} {f : Sig → Option Bool} (h : SoundTs g n ft op es f) : SoundT g n ft (.BoolOp op es pos) f := by
  (try unfold SoundT at *); (try unfold SoundTs at *)
  intro env eo σ d hd A ao M B F s Q E iv S q
  exact wpAny_isTrue_BoolOp (h env eo σ d hd A ao M B F s _ E iv S q)

/- or, and the choice, as values -/
noncomputable def eOr (f h : Sig → Option V) : Sig → Option V := fun σ => (f σ).bind fun a => (vTruthy a).bind fun b => match b with | true => some a | false => h σ
theorem sOr {x y : Expr} {pos : Pos} {f h : Sig → Option V} (hx : SoundE g n ft x f) (hy : SoundE g n ft y h) : SoundE g n ft (.BoolOp .Or [x, y] pos) (eOr f h) := by
  (try unfold SoundE at *)
  intro env eo σ d hd A ao M B F s Q E iv S q
  obtain ⟨a, ha, hd⟩ := bind_some hd
  obtain ⟨b, hb, hd⟩ := bind_some hd
  refine wpAny_Or2 (hx env eo σ a ha A ao M B F s _ E iv S fun va s₁ x₁ ra => ?_)
  refine truthyOp (g := g) hb (.rep ra) fun s₂ x₂ hh => ?_
  cases b with
  | true => cases hd; exact q _ _ (x₁.trans x₂) ((S.extE x₁).repExt x₂ ra)
  | false => exact hy env eo σ d hd A ao M B F s₂ _ E (x₂.inv (x₁.inv iv)) ((S.extE x₁).extE x₂) fun v s₃ x₃ r => q v s₃ ((x₁.trans x₂).trans x₃) r
noncomputable def eIf (t : Sig → Option Bool) (f h : Sig → Option V) : Sig → Option V := fun σ => (t σ).bind fun b => match b with | true => f σ | false => h σ
theorem sIfExp {t x y : Expr} {pos : Pos} {c : Sig → Option Bool} {f h : Sig → Option V} (ht : SoundT g n ft t c) (hx : SoundE g n ft x f) (hy : SoundE g n ft y h) : SoundE g n ft (.IfExp t x y pos) (eIf c f h) := by
  (try unfold SoundE at *); (try unfold SoundT at *)
  intro env eo σ d hd A ao M B F s Q E iv S q
  obtain ⟨b, hb, hd⟩ := bind_some hd
  refine wpAny_IfExp (ht env eo σ b hb A ao M B F s _ E iv S fun s₁ x₁ => ?_)
  cases b with
  | true => exact hx env eo σ d hd A ao M B F s₁ _ E (x₁.inv iv) (S.extE x₁) fun v s₂ x₂ r => q v s₂ (x₁.trans x₂) r
  | false => exact hy env eo σ d hd A ao M B F s₁ _ E (x₁.inv iv) (S.extE x₁) fun v s₂ x₂ r => q v s₂ (x₁.trans x₂) r
noncomputable def vNeg : V → Option V
  | .int i => some (.int (-i))
  | _ => none
noncomputable def eNeg (f : Sig → Option V) : Sig → Option V := fun σ => (f σ).bind vNeg
theorem sNeg {e : Expr} {pos : Pos} {f : Sig → Option V} (h : SoundE g n ft e f) : SoundE g n ft (.UnaryOp .USub e pos) (eNeg f) := by
  (try unfold SoundE at *)
  intro env eo σ d hd A ao M B F s Q E iv S q
  obtain ⟨a, ha, hd⟩ := bind_some hd
  refine wpAny_UnaryOp (h env eo σ a ha A ao M B F s _ E iv S fun va s₁ x₁ ra => ?_)
  cases ra <;> (try (simp [vNeg] at hd; done))
  cases hd
  exact P.neg_int (q _ _ (x₁.trans (Ext.tok g s₁ _ fun _ => Nat.succ_pos _)) (.int _ _))

/- displays -/
@[irreducible] noncomputable def SoundEs (g : Gl) (n : Nat) (ft : FT) (es : List Expr) (f : Sig → Option (List V)) : Prop :=
  ∀ (env : Env), EnvOk ft env → ∀ (σ : Sig) (d : List V), f σ = some d → ∀ (A : Around), AOk n A → ∀ (M : AS) (B : Heap) (F : Fm) (s : Shared) (pos : Pos) (Q : List Value → Shared → Prop) (E : Value → Shared → Prop), Inv g s → St g ft env M B F σ s.heap →
    (∀ v s', Ext g s s' → RepL s'.heap (F.av M) d v → Q v s') → wpAny (model g.prog g.w) A (spliced (backTo pos (starEach es env))) Q E s
noncomputable def esNil : Sig → Option (List V) := fun _ => some []
noncomputable def esCons (f : Sig → Option V) (h : Sig → Option (List V)) : Sig → Option (List V) := fun σ => (f σ).bind fun a => (h σ).bind fun b => some (a :: b)
theorem ssNil : SoundEs g n ft [] esNil := by
  (try unfold SoundEs at *)
  intro env eo σ d hd A ao M B F s pos Q E iv S q
  cases hd; exact wpAny_items_nil (q _ _ (Ext.refl g s) .nil)
theorem ssCons {e : Expr} {es : List Expr} {f : Sig → Option V} {h : Sig → Option (List V)} (hf : SoundE g n ft e f) (hh : SoundEs g n ft es h) (he : ∀ env, starEach (e :: es) env = (false, eval e env) :: starEach es env := by intro _; rfl) : SoundEs g n ft (e :: es) (esCons f h) := by
  (try unfold SoundE at *); (try unfold SoundEs at *)
  intro env eo σ d hd A ao M B F s pos Q E iv S q
  obtain ⟨a, ha, hd⟩ := bind_some hd
  obtain ⟨b, hb, hd⟩ := bind_some hd
  cases hd
  refine wpAny_items_cons (hf env eo σ a ha A ao M B F s _ E iv S fun va s₁ x₁ ra => ?_) (he env)
  exact hh env eo σ b hb A ao M B F s₁ pos _ E (x₁.inv iv) (S.extE x₁) fun vb s₂ x₂ rb => q _ _ (x₁.trans x₂) (.cons ((S.extE x₁).repExt x₂ ra) rb)
noncomputable def eTup (f : Sig → Option (List V)) : Sig → Option V := fun σ => (f σ).bind fun l => if l.length ≤ 1000 then some (.tup l) else none
noncomputable def eLst (f : Sig → Option (List V)) : Sig → Option V := fun σ => (f σ).bind fun l => if l.length ≤ 1000 then some (.lst l) else none
theorem sTup {es : List Expr} {k : Nat} {pos : Pos} {f : Sig → Option (List V)} (h : SoundEs g n ft es f) : SoundE g n ft (.Tuple es k pos) (eTup f) := by
  (try unfold SoundE at *); (try unfold SoundEs at *)
  intro env eo σ d hd A ao M B F s Q E iv S q
  obtain ⟨l, hl, hd⟩ := bind_some hd
  split at hd
  · rename_i hz
    cases hd
    refine wpAny_Tuple (h env eo σ l hl A ao M B F s pos _ E iv S fun vs s₁ x₁ r => ⟨by rw [r.length, sizeLine_is]; omega, ?_⟩)
    have x₂ := x₁.trans (Ext.push g s₁ { cls := .type "tuple", data := .seq vs.toArray } s₁.toks)
    refine q _ _ x₂ (.tup _ vs _ (fun ha => (S.extE x₁).avSome (x₁.inv iv) _ ha (size_none _)) ⟨_, Heap.get?_push_size _ rfl⟩ ?_)
    exact (S.extE x₁).repLExt (Ext.push g s₁ _ s₁.toks) r
  · cases hd
theorem sLst {es : List Expr} {pos : Pos} {f : Sig → Option (List V)} (h : SoundEs g n ft es f) : SoundE g n ft (.List es pos) (eLst f) := by
  (try unfold SoundE at *); (try unfold SoundEs at *)
  intro env eo σ d hd A ao M B F s Q E iv S q
  obtain ⟨l, hl, hd⟩ := bind_some hd
  split at hd
  · rename_i hz
    cases hd
    refine wpAny_List (h env eo σ l hl A ao M B F s pos _ E iv S fun vs s₁ x₁ r => ⟨by rw [r.length, sizeLine_is]; omega, ?_⟩)
    have x₂ := x₁.trans (Ext.push g s₁ { cls := .type "list", data := .seq vs.toArray } s₁.toks)
    refine q _ _ x₂ (.lst _ vs _ (fun ha => (S.extE x₁).avSome (x₁.inv iv) _ ha (size_none _)) ⟨_, Heap.get?_push_size _ rfl, rfl, _, rfl⟩ (by rw [sizeLine_is]; omega) ?_)
    exact (S.extE x₁).repLExt (Ext.push g s₁ _ s₁.toks) r
  · cases hd
end
end Mine
end

noncomputable section
open PySem PySem.W PyProof.Rows
open PySem.Builtin.Str (strSliceIndices)
namespace Mine

section
variable {g : Gl} {n : Nat} {ft : FT}

/- an item -/
noncomputable def vIdx : V → V → Option V
  | .lst l, .int i => if 0 ≤ i then (if i < 1000 then l[i.toNat]? else none) else if -(l.length : Int) ≤ i then l[(i + l.length).toNat]? else none
  | .tup l, .int i => if 0 ≤ i ∧ i < 1000 then l[i.toNat]? else none
  | .str x, .int i => if -1000 ≤ i ∧ i < 1000 then ((seqIndex? i x.length).bind (x.cps[·]?)).map fun c => .str ⟨#[c]⟩ else none
  | _, _ => none
theorem subs_ops (slice : Expr) (o i : Value) : ∃ ops, subscripted slice false o i = operate ops (getItem o i) := by
  unfold subscripted
  split <;> first | exact ⟨_, rfl⟩ | simp_all

theorem idxOp {a i d : V} (h : vIdx a i = some d) {A : Around} {av : AS} {s : Shared} {value slice : Expr} {va vi : Value} {Q : Value → Shared → Prop} {E : Value → Shared → Prop} (ra : Rep1 s.heap av a va) (ri : Rep s.heap av i vi)
    (q : ∀ v s', Ext g s s' → Rep s'.heap av d v → Q v s') : wpAny (model g.prog g.w) A (subscriptTail value slice va vi) Q E s := by
  obtain ⟨ops, hops⟩ := subs_ops slice va vi
  have lst : ∀ (l : List V) (vs : List Value) (b : Addr), vIdx (.lst l) i = some d → s.heap.IsList b vs.toArray → l.length ≤ sizeLine → RepL s.heap av l vs → wpAny (model g.prog g.w) A (getItem (.ref b) vi) Q E s := by
    intro l vs b h hl hz hr
    rw [sizeLine_is] at hz
    cases ri <;> (try (simp [vIdx] at h; done))
    simp only [vIdx] at h
    split at h
    · rename_i h0
      split at h
      · rename_i h1
        obtain ⟨v, hv, rv⟩ := hr.getElem? h
        exact wpAny_getItem_list hl h0 (by omega) (by simpa using hv) (q _ _ (Ext.refl g s) rv)
      · cases h
    · split at h
      · rename_i h0 h1
        obtain ⟨v, hv, rv⟩ := hr.getElem? h
        refine wpAny_getItem_list_neg hl (by omega) (by rw [List.size_toArray, hr.length]; exact h1) (by omega) (by rw [List.size_toArray, hr.length]; simpa using hv) (q _ _ (Ext.refl g s) rv)
      · cases h
  cases ra with
  | rep ra =>
    cases ra with
    | none => simp [vIdx] at h
    | bool c => simp [vIdx] at h
    | int j t => simp [vIdx] at h
    | str x t hs =>
      refine tail_any (typeIs_str s x t) F.slot_str_getitem.lookup ?_ hops
      cases ri <;> (try (simp [vIdx] at h; done))
      simp only [vIdx] at h
      split at h
      · rename_i h0
        cases hc : (seqIndex? _ x.length).bind (x.cps[·]?) with
        | none => rw [hc] at h; cases h
        | some c =>
          rw [hc] at h; cases h
          exact P.getItem_str (by simp; omega) hc (q _ _ (Ext.tok g s _ fun _ => Nat.succ_pos _) (.str _ _ (by show 1 ≤ sizeLine; decide)))
      · cases h
    | tup l vs b hm hl hr =>
      refine tail_any hl.isTuple.typeIs F.slot_tuple_getitem.lookup ?_ hops
      cases ri <;> (try (simp [vIdx] at h; done))
      rename_i k u
      simp only [vIdx] at h
      split at h
      · rename_i h0
        obtain ⟨v, hv, rv⟩ := hr.getElem? h
        have hlt : k.toNat < l.length := (List.getElem?_eq_some_iff.mp h).1
        exact getItem_tuple hl.isTuple (by omega) (by omega) (j := k.toNat) (by
          unfold seqIndex?
          rw [List.size_toArray, hr.length]
          have : ¬ k < 0 := by omega
          simp [this]; omega) (by simpa using hv) (q _ _ (Ext.refl g s) rv)
      · cases h
    | lst l vs b hm hl hz hr => exact tail_any hl.typeIs slot_list_getitem.lookup (lst l vs b h hl hz hr) hops
  | lst l vs b hl hz hr => exact tail_any hl.typeIs slot_list_getitem.lookup (lst l vs b h hl hz hr) hops
noncomputable def eIdx (f h : Sig → Option V) : Sig → Option V := fun σ => (f σ).bind fun a => (h σ).bind fun b => vIdx a b
theorem sIdx {e x : Expr} {pos : Pos} {f h : Sig → Option V} (hl : SoundB g n ft e f) (hr : SoundE g n ft x h) : SoundE g n ft (.Subscript e x pos) (eIdx f h) := by
  (try unfold SoundE at *); (try unfold SoundB at *)
  intro env eo σ d hd A ao M B F s Q E iv S q
  obtain ⟨a, ha, hd⟩ := bind_some hd
  obtain ⟨b, hb, hd⟩ := bind_some hd
  refine Subscript_ (hl env eo σ a ha A ao M B F s _ E iv S fun va s₁ x₁ ra => ?_)
  refine hr env eo σ b hb A ao M B F s₁ _ E (x₁.inv iv) (S.extE x₁) fun vb s₂ x₂ rb => ?_
  exact idxOp hd (rep1Ext (x₁.inv iv) x₂ (.inl S.Mtab) ra) rb fun v s₃ x₃ r => q v s₃ ((x₁.trans x₂).trans x₃) r

/- a slice -/
noncomputable def vPart : V → Option (Option Int)
  | .none => some none
  | .int i => some (some i)
  | _ => none
theorem vPart_is {av : AS} {h : Heap} {a : V} {p : Option Int} {v : Value} (e : vPart a = some p) (r : Rep h av a v) : IsPart v p := by
  cases r <;> (try (simp [vPart] at e; done)) <;> cases e <;> constructor
theorem vPart_tok {av : AS} {h : Heap} {a : V} {p : Option Int} {v : Value} (e : vPart a = some p) (r : Rep h av a v) : ∃ t : Option (Int × Tok), v = partValue t ∧ t.map (·.1) = p := by
  cases r <;> (try (simp [vPart] at e; done)) <;> cases e
  · exact ⟨none, rfl, rfl⟩
  · exact ⟨some (_, _), rfl, rfl⟩
/-- the places that a slice picks -/
noncomputable def vPicks (lo hi st : Option Int) (k : Nat) : List Nat := sliceRange (sliceBounds lo hi st k).1 (sliceBounds lo hi st k).2.1 (sliceBounds lo hi st k).2.2
noncomputable def vSliceS (x : Str) (lo hi st : Option Int) : Str :=
  if (st.getD 1 == 1 && (strSliceIndices lo hi (st.getD 1) x.length).length == x.length) = true then x else ⟨((strSliceIndices lo hi (st.getD 1) x.length).filterMap (x.cps[·]?)).toArray⟩
noncomputable def vSlice (a : V) (lo hi st : Option Int) : Option V := match a with
  | .lst l => if st ≠ some 0 then some (.lst ((vPicks lo hi st l.length).filterMap (l[·]?))) else none
  | .str x => if (st.getD 1 == 0) = false ∧ (vSliceS x lo hi st).length ≤ 1000 then some (.str (vSliceS x lo hi st)) else none
  | _ => none
theorem RepL.picks {h : Heap} {M : AS} {l : List V} {vs : List Value} (r : RepL h M l vs) : ∀ idx : List Nat, RepL h M (idx.filterMap (l[·]?)) (idx.filterMap (vs[·]?))
  | [] => .nil
  | i :: idx => by
    rw [List.filterMap_cons, List.filterMap_cons]
    cases e : l[i]? with
    | none => rw [r.getElem?_none e]; exact r.picks idx
    | some x =>
      obtain ⟨v, hv, rv⟩ := r.getElem? e
      rw [hv]; exact .cons rv (r.picks idx)
theorem RepL.len_le {h : Heap} {M : AS} {l : List V} {vs : List Value} {items : Array Value} (r : RepL h M l vs) (e : vs.length ≤ items.size) : l.length ≤ items.size := by rw [← r.length]; exact e

theorem sliceOp {a d : V} {lo hi st : Option Int} {vl vh vs : V} (h : vSlice a lo hi st = some d) (hl : vPart vl = some lo) (hh : vPart vh = some hi) (hs : vPart vs = some st) {A : Around} {av : AS} {s : Shared} {value slice : Expr} {va ul uh us : Value} {sl : Addr}
    {Q : Value → Shared → Prop} {E : Value → Shared → Prop} (ra : Rep1 s.heap av a va) (rl : Rep s.heap av vl ul) (rh : Rep s.heap av vh uh) (rs : Rep s.heap av vs us) (hsl : s.heap.IsSliceOf sl ul uh us) (fr : ∀ a, av a → s.heap.get? a ≠ none) (tb : av g.TB)
    (q : ∀ v s', Ext g s s' → Rep s'.heap av d v → Q v s') : wpAny (model g.prog g.w) A (subscriptTail value slice va (.ref sl)) Q E s := by
  obtain ⟨ops, hops⟩ := subs_ops slice va (.ref sl)
  have lst : ∀ (l : List V) (ws : List Value) (b : Addr), vSlice (.lst l) lo hi st = some d → s.heap.IsList b ws.toArray → l.length ≤ sizeLine → RepL s.heap av l ws → wpAny (model g.prog g.w) A (getItem (.ref b) (.ref sl)) Q E s := by
    intro l ws b h hb hz hr
    simp only [vSlice] at h
    split at h
    · rename_i h0
      cases h
      refine wpAny_getItem_list_slice hb hsl (vPart_is hl rl) (vPart_is hh rh) (vPart_is hs rs) h0 ?_ (by rw [List.size_toArray, hr.length]; exact hz)
      have e : slicePick ws.toArray lo hi st = ((vPicks lo hi st l.length).filterMap (ws[·]?)).toArray := by
        unfold slicePick vPicks
        rw [List.size_toArray, hr.length]
        congr 2
        funext i; simp
      rw [e]
      have hz' : ((vPicks lo hi st l.length).filterMap (l[·]?)).length ≤ sizeLine := by
        have h1 := slicePick_size_le ws.toArray lo hi st
        rw [e, List.size_toArray, (hr.picks _).length, List.size_toArray, hr.length] at h1
        exact Nat.le_trans h1 hz
      refine q _ _ (Ext.push g s _ s.toks) (.lst _ _ _ (fun ha => fr _ ha (size_none _)) ⟨_, Heap.get?_push_size _ rfl, rfl, _, rfl⟩ hz' ((hr.picks _).keep (Kp.push (X := g.tab) _ _) (fun a e => e ▸ tb) fun _ q => q))
    · cases h
  cases ra with
  | rep ra =>
    cases ra with
    | none => simp [vSlice] at h
    | bool c => simp [vSlice] at h
    | int j t => simp [vSlice] at h
    | tup l vs b hm hl hr => simp [vSlice] at h
    | str x t hx =>
      refine tail_any (typeIs_str s x t) F.slot_str_getitem.lookup ?_ hops
      simp only [vSlice] at h
      split at h
      · rename_i h0
        cases h
        obtain ⟨tl, rfl, el⟩ := vPart_tok hl rl
        obtain ⟨th, rfl, eh⟩ := vPart_tok hh rh
        obtain ⟨ts, rfl, es⟩ := vPart_tok hs rs
        refine wpAny_getItem_str_slice (l := tl) (u := th) (st := ts) hsl (by rw [es]; exact h0.1) ?_
        have hq := h0.2
        unfold sliceMade slicePicked
        rw [el, eh, es]
        unfold vSliceS at hq q
        split
        · rename_i hc
          rw [if_pos hc] at hq q
          exact q _ _ (Ext.refl g s) (.str _ _ hx)
        · rename_i hc
          rw [if_neg hc] at hq q
          exact ⟨Nat.le_trans hq (by decide), q _ _ (Ext.tok g s _ fun _ => Nat.succ_pos _) (.str _ _ (Nat.le_trans hq (by decide)))⟩
      · cases h
    | lst l vs b hm hl hz hr => exact tail_any hl.typeIs slot_list_getitem.lookup (lst l vs b h hl hz hr) hops
  | lst l vs b hl hz hr => exact tail_any hl.typeIs slot_list_getitem.lookup (lst l vs b h hl hz hr) hops

@[irreducible] noncomputable def SoundP (g : Gl) (n : Nat) (ft : FT) (e : Option Expr) (f : Sig → Option V) : Prop :=
  ∀ (env : Env), EnvOk ft env → ∀ (σ : Sig) (d : V), f σ = some d → ∀ (A : Around), AOk n A → ∀ (M : AS) (B : Heap) (F : Fm) (s : Shared) (Q : Value → Shared → Prop) (E : Value → Shared → Prop), Inv g s → St g ft env M B F σ s.heap →
    (∀ v s', Ext g s s' → Rep s'.heap (F.av M) d v → Q v s') → wpAny (model g.prog g.w) A (evalPart e env) Q E s
theorem spNone : SoundP g n ft none eNone := by
  (try unfold SoundP at *)
  intro env eo σ d hd A ao M B F s Q E iv S q
  cases hd; exact wpAny_evalPart_none (q _ _ (Ext.refl g s) .none)
theorem spSome {e : Expr} {f : Sig → Option V} (h : SoundE g n ft e f) : SoundP g n ft (some e) f := by
  (try unfold SoundE at *); (try unfold SoundP at *)
  intro env eo σ d hd A ao M B F s Q E iv S q
  exact wpAny_evalPart_some (h env eo σ d hd A ao M B F s Q E iv S q)
noncomputable def eSlice (f l u st : Sig → Option V) : Sig → Option V := fun σ => (f σ).bind fun a => (l σ).bind fun b => (u σ).bind fun c => (st σ).bind fun e =>
  (vPart b).bind fun b => (vPart c).bind fun c => (vPart e).bind fun e => vSlice a b c e
theorem sSlice {e : Expr} {l u st : Option Expr} {p pos : Pos} {f fl fu fs : Sig → Option V} (he : SoundB g n ft e f) (hl : SoundP g n ft l fl) (hu : SoundP g n ft u fu) (hs : SoundP g n ft st fs) : SoundE g n ft (.Subscript e (.Slice l u st p) pos) (eSlice f fl fu fs) := by
  (try unfold SoundE at *); (try unfold SoundB at *); (try unfold SoundP at *)
  intro env eo σ d hd A ao M B F s Q E iv S q
  obtain ⟨a, ha, hd⟩ := bind_some hd
  obtain ⟨b, hb, hd⟩ := bind_some hd
  obtain ⟨c, hc, hd⟩ := bind_some hd
  obtain ⟨z, hz, hd⟩ := bind_some hd
  obtain ⟨pb, hpb, hd⟩ := bind_some hd
  obtain ⟨pc, hpc, hd⟩ := bind_some hd
  obtain ⟨pz, hpz, hd⟩ := bind_some hd
  refine Subscript_ (he env eo σ a ha A ao M B F s _ E iv S fun va s₁ x₁ ra => ?_)
  have iv₁ := x₁.inv iv
  have S₁ := S.extE x₁
  refine wpAny_Slice (hl env eo σ b hb A ao M B F s₁ _ E iv₁ S₁ fun vb s₂ x₂ rb => ?_)
  have iv₂ := x₂.inv iv₁
  have S₂ := S₁.extE x₂
  refine hu env eo σ c hc A ao M B F s₂ _ E iv₂ S₂ fun vc s₃ x₃ rc => ?_
  have iv₃ := x₃.inv iv₂
  have S₃ := S₂.extE x₃
  refine hs env eo σ z hz A ao M B F s₃ _ E iv₃ S₃ fun vz s₄ x₄ rz => ?_
  have iv₄ := x₄.inv iv₃
  have S₄ := S₃.extE x₄
  have x₅ := Ext.push g s₄ { cls := .type "slice", data := .fields #[vb, vc, vz] } s₄.toks
  have iv₅ := x₅.inv iv₄
  have S₅ := S₄.extE x₅
  have x := (((x₁.trans x₂).trans x₃).trans x₄).trans x₅
  exact sliceOp hd hpb hpc hpz (rep1Ext iv₁ (((x₂.trans x₃).trans x₄).trans x₅) (.inl S.Mtab) ra) (S₂.repExt ((x₃.trans x₄).trans x₅) rb) (S₃.repExt (x₄.trans x₅) rc) (S₄.repExt x₅ rz) (Heap.IsSliceOf.new _ _ _ _) (S₅.avSome iv₅) (.inl S.Mtab)
    fun v s₆ x₆ r => q v s₆ (x.trans x₆) r
end
end Mine
end

noncomputable section
open PySem PySem.W PyProof.Rows
namespace Mine

section
variable {g : Gl} {n : Nat} {ft : FT}

/-- a called thing that is no def of the text -/
@[irreducible] noncomputable def SoundV (g : Gl) (n : Nat) (fv : Value) (f : List V → Option V) : Prop :=
  ∀ (args : List V) (d : V), f args = some d → ∀ (A : Around), AOk n A → ∀ (av : AS) (s : Shared) (vals : List Value) (Q : Value → Shared → Prop) (E : Value → Shared → Prop), Inv g s → av g.TB → (∀ a, av a → s.heap.get? a ≠ none) → RepL s.heap av args vals →
    (∀ v s', Ext g s s' → Rep s'.heap av d v → Q v s') → wpAny (model g.prog g.w) A (call fv vals) Q E s
theorem SoundV.mono {m : Nat} {fv : Value} {f} (x : SoundV g n fv f) (h : n ≤ m) : SoundV g m fv f := by
  (try unfold SoundV at *)
  exact fun a d hd A ao => x a d hd A (ao.mono h)

noncomputable def builtinTab : List (Str × Value) :=
  [("len", .builtin "len"), ("abs", .builtin "abs"), ("sum", .builtin "sum"), ("min", .builtin "min"), ("max", .builtin "max"), ("list", .type "list"), ("range", .type "range"),
   ("isinstance", .builtin "isinstance"), ("issubclass", .builtin "issubclass"), ("bytes", .type "bytes"), ("str", .type "str"), ("type", .type "type")]

structure GlB (g : Gl) : Prop extends GlOk g where
  bi : ∀ p ∈ builtinTab, g.mg p.1 = none ∧ g.mb p.1 = some p.2

theorem Inv.mgNs {s : Shared} (iv : Inv g s) (G : GlOk g) : s.heap.Ns mainGlobals g.mg := G.mg.at' fun o e => iv.keep _ o G.ne1 e
theorem Inv.mbNs {s : Shared} (iv : Inv g s) (G : GlOk g) : s.heap.Ns builtinsNs g.mb := G.mb.at' fun o e => iv.keep _ o G.ne2 e
theorem Inv.lim {s : Shared} (iv : Inv g s) (G : GlOk g) : s.heap.NoLimit := G.lim.at fun o e => iv.keep _ o G.ne3 e

theorem ldBi (G : GlB g) {env : Env} (eo : EnvOk ft env) {x : Str} {v : Value} {pos : Pos} (hx : (x, v) ∈ builtinTab) (hs : ft.scope.names.lookup x = some .globalImplicit) {A : Around} {s : Shared} {Q : Value → Shared → Prop} {E : Value → Shared → Prop} (iv : Inv g s) (q : Q v s)
    (hdb : (x == ("__debug__" : Str)) = false) : wpAny (model g.prog g.w) A (eval (.Name x pos) env) Q E s := by
  refine Calls.Name_function_global (by rw [eo.scope]; exact eo.kind) (by show env.scope.names.lookup x = _; rw [eo.scope]; exact hs) ?_ hdb
  have h1 := iv.mgNs G.toGlOk
  have h2 := iv.mbNs G.toGlOk
  rw [← eo.glob] at h1
  rw [← eo.bi] at h2
  exact Calls.loadGlobal_builtin h1 (G.bi _ hx).1 h2 (G.bi _ hx).2 q
theorem ldGl (G : GlOk g) {env : Env} (eo : EnvOk ft env) {x : Str} {v : Value} {pos : Pos} (hx : g.mg x = some v) (hs : ft.scope.names.lookup x = some .globalImplicit) {A : Around} {s : Shared} {Q : Value → Shared → Prop} {E : Value → Shared → Prop} (iv : Inv g s) (q : Q v s)
    (hdb : (x == ("__debug__" : Str)) = false) : wpAny (model g.prog g.w) A (eval (.Name x pos) env) Q E s := by
  refine Calls.Name_function_global (by rw [eo.scope]; exact eo.kind) (by show env.scope.names.lookup x = _; rw [eo.scope]; exact hs) ?_ hdb
  have h1 := iv.mgNs G
  rw [← eo.glob] at h1
  exact Calls.loadGlobal_global h1 hx q

theorem callWith_machine {M : Model} {A : Around} {E : Value → Shared → Prop} {s : Shared} {pos : Pos} {f : Value} {first : List Value} {args : List (Bool × Sem Value)} {Q : Value → Shared → Prop} (hk : keeperOf f = pure .machine) (hplain : args.any (·.1) = false)
    (h : wpAny M A (evalArgs f true args []) (fun a s₁ => wpAny M A (call f (first ++ a.pos) a.kw) Q E s₁) E s) :
    wpAny M A (callWith pos f first args []) Q E s := by
  unfold callWith
  refine wpAny_bind (wpAny_holding (wpAny_mono h (fun a s₁ h₁ => wpAny_bind (wpAny_standAt ?_)) fun _ _ x => x))
  rw [hk]
  simp only [hplain, List.any_nil, Bool.or_false]
  refine wpAny_bind (wpAny_pure ?_)
  exact wpAny_bind (wpAny_mono h₁ (fun r s₂ hr => wpAny_bind (wpAny_holding (wpAny_point (wpAny_pure hr)))) fun _ _ x => x)

/-- the arguments of a call, one or more, none starred -/
noncomputable def Plain (es : List Expr) : Prop := ∀ env pos, ∃ x r, backTo pos (starEach es env) = (false, x) :: r ∧ (backTo pos (starEach es env)).any (·.1) = false

theorem evalArgs_es {es : List Expr} {f : Sig → Option (List V)} (hp : Plain es) (h : SoundEs g n ft es f) {env : Env} (eo : EnvOk ft env) {σ : Sig} {d : List V} (hd : f σ = some d) {A : Around} (ao : AOk n A) {M : AS} {B : Heap} {F : Fm} {s : Shared} {pos : Pos} {fv : Value} {Q : Args → Shared → Prop} {E : Value → Shared → Prop}
    (iv : Inv g s) (S : St g ft env M B F σ s.heap) (q : ∀ vs s', Ext g s s' → RepL s'.heap (F.av M) d vs → Q ⟨vs, []⟩ s') : wpAny (model g.prog g.w) A (evalArgs fv true (backTo pos (starEach es env)) []) Q E s := by
  (try unfold SoundEs at *)
  obtain ⟨x, r, e, _⟩ := hp env pos
  have := h env eo σ d hd A ao M B F s pos (fun vs s' => Q ⟨vs, []⟩ s') E iv S q
  rw [e] at this ⊢
  exact Calls.evalArgs_plain this

noncomputable def eCallV (f : List V → Option V) (h : Sig → Option (List V)) : Sig → Option V := fun σ => (h σ).bind f
/-- a call of a built-in function or type by its name -/
theorem sCallV (G : GlB g) {x : Str} {fv : Value} {p pos : Pos} {es : List Expr} {f : List V → Option V} {h : Sig → Option (List V)} (hx : (x, fv) ∈ builtinTab) (hs : ft.scope.names.lookup x = some .globalImplicit) (hdb : (x == ("__debug__" : Str)) = false) (hk : keeperOf fv = pure .machine)
    (hp : Plain es) (hf : SoundV g n fv f) (he : SoundEs g n ft es h) : SoundE g n ft (.Call (.Name x p) es [] pos) (eCallV f h) := by
  (try unfold SoundE at *); (try unfold SoundEs at *); (try unfold SoundV at *)
  intro env eo σ d hd A ao M B F s Q E iv S q
  obtain ⟨l, hl, hd⟩ := bind_some hd
  refine wpAny_Call_ofName (ldBi G eo hx hs iv ?_ hdb)
  obtain ⟨_, _, _, ha⟩ := hp env pos
  refine callWith_machine hk ha (evalArgs_es hp (by unfold SoundEs; exact he) eo hl ao iv S fun vs s₁ x₁ r => ?_)
  exact hf l d hd A ao _ s₁ _ _ _ (x₁.inv iv) (.inl S.Mtab) ((S.extE x₁).avSome (x₁.inv iv)) r fun v s₂ x₂ r₂ => q v s₂ (x₁.trans x₂) r₂

/- len -/
noncomputable def vLen : V → Option V
  | .str x => some (.int x.length)
  | .lst l => some (.int l.length)
  | _ => none
theorem len_list {l : Addr} {items : Array Value} {A : Around} {s : Shared} {Q : Value → Shared → Prop} {E : Value → Shared → Prop} (hl : s.heap.IsList l items) (hfit : (items.size : Int) < 2 ^ 63) (h : Q (.int items.size (s.toks + 1)) { s with toks := s.toks + 1 + 1 }) :
    wpAny (model g.prog g.w) A (call (.builtin "len") [.ref l]) Q E s :=
  Calls.call_function_entry (by decide +kernel) (by decide +kernel) (entryFor_of_tree (by kernel_rfl)) (by unfold argsOk; kernel_rfl) (wpAny_len_body_list hl hfit h)
theorem lenOp {a d : V} (h : vLen a = some d) {A : Around} {av : AS} {s : Shared} {va : Value} {Q : Value → Shared → Prop} {E : Value → Shared → Prop} (r : Rep1 s.heap av a va) (q : ∀ v s', Ext g s s' → Rep s'.heap av d v → Q v s') : wpAny (model g.prog g.w) A (call (.builtin "len") [va]) Q E s := by
  have lst : ∀ (l : List V) (vs : List Value) (b : Addr), vLen (.lst l) = some d → s.heap.IsList b vs.toArray → l.length ≤ sizeLine → RepL s.heap av l vs → wpAny (model g.prog g.w) A (call (.builtin "len") [.ref b]) Q E s := by
    intro l vs b h hl hz hr
    cases h
    rw [sizeLine_is] at hz
    refine len_list hl (by rw [List.size_toArray, hr.length]; omega) ?_
    rw [List.size_toArray, hr.length]
    exact q _ _ (Ext.tok g s _ fun _ => Nat.succ_pos _) (.int _ _)
  cases r with
  | rep r =>
    cases r <;> (try (simp [vLen] at h; done))
    case str x t hs =>
      cases h
      rw [sizeLine_is] at hs
      exact P.len_str (by omega) (q _ _ (Ext.tok g s _ fun _ => Nat.succ_pos _) (.int _ _))
    case lst l vs b hm hl hz hr => exact lst l vs b h hl hz hr
  | lst l vs b hl hz hr => exact lst l vs b h hl hz hr
noncomputable def eLen (f : Sig → Option V) : Sig → Option V := fun σ => (f σ).bind vLen
theorem sLen (G : GlB g) {x : Str} {p pos : Pos} {e : Expr} {f : Sig → Option V} (hx : x = "len") (hs : ft.scope.names.lookup x = some .globalImplicit) (he : SoundB g n ft e f) (hst : ∀ env, starEach [e] env = [(false, eval e env)] := by intro _; rfl) : SoundE g n ft (.Call (.Name x p) [e] [] pos) (eLen f) := by
  (try unfold SoundE at *); (try unfold SoundB at *)
  subst hx
  intro env eo σ d hd A ao M B F s Q E iv S q
  obtain ⟨a, ha, hd⟩ := bind_some hd
  refine wpAny_Call_ofName (ldBi G eo (v := .builtin "len") (.head _) hs iv ?_ (by decide))
  refine callWith_machine rfl (by rw [hst]; rfl) ?_
  rw [hst]
  refine Calls.evalArgs_plain (Calls.spliced_cons (he env eo σ a ha A ao M B F s _ E iv S fun va s₁ x₁ ra => Calls.spliced_nil ?_))
  exact lenOp hd ra fun v s₂ x₂ r => q v s₂ (x₁.trans x₂) r

/- ints -/
noncomputable def vInts : List V → Option (List Int)
  | [] => some []
  | .int i :: l => (vInts l).map (i :: ·)
  | _ :: _ => none
theorem vInts_items {h : Heap} {M : AS} : ∀ {l : List V} {vs : List Value} {ns : List Int}, RepL h M l vs → vInts l = some ns → ∃ xs : List (Int × Tok), vs = xs.map (fun p => Value.int p.1 p.2) ∧ xs.map (·.1) = ns
  | _, _, _, .nil, e => by cases e; exact ⟨[], rfl, rfl⟩
  | _, _, ns, .cons hx hr, e => by
    cases hx <;> (try (simp [vInts] at e; done))
    rename_i i t
    simp only [vInts] at e
    cases hn : vInts _ with
    | none => rw [hn] at e; cases e
    | some ms =>
      rw [hn] at e; cases e
      obtain ⟨xs, e1, e2⟩ := vInts_items hr hn
      exact ⟨(i, t) :: xs, by rw [e1]; rfl, by rw [← e2]; rfl⟩
noncomputable def lmin : List Int → Int
  | [] => 0
  | x :: xs => xs.foldl (fun a b => min a b) x
noncomputable def lmax : List Int → Int
  | [] => 0
  | x :: xs => xs.foldl (fun a b => max a b) x
theorem foldl_min (xs : List Int) : ∀ x : Int, (xs.foldl (fun a b => min a b) x ∈ x :: xs) ∧ ∀ a ∈ x :: xs, xs.foldl (fun a b => min a b) x ≤ a := by
  induction xs with
  | nil => intro x; simp
  | cons y ys ih =>
    intro x
    obtain ⟨h1, h2⟩ := ih (min x y)
    rw [List.foldl_cons]
    refine ⟨?_, fun a ha => ?_⟩
    · rcases List.mem_cons.mp h1 with e | e
      · rw [e]
        by_cases c : x ≤ y
        · rw [Int.min_eq_left c]; simp
        · rw [Int.min_eq_right (by omega)]; simp
      · simp [e]
    · have h3 := h2 (min x y) (by simp)
      rcases List.mem_cons.mp ha with rfl | ha
      · omega
      · rcases List.mem_cons.mp ha with rfl | ha
        · omega
        · exact h2 a (by simp [ha])
theorem foldl_max (xs : List Int) : ∀ x : Int, (xs.foldl (fun a b => max a b) x ∈ x :: xs) ∧ ∀ a ∈ x :: xs, a ≤ xs.foldl (fun a b => max a b) x := by
  induction xs with
  | nil => intro x; simp
  | cons y ys ih =>
    intro x
    obtain ⟨h1, h2⟩ := ih (max x y)
    rw [List.foldl_cons]
    refine ⟨?_, fun a ha => ?_⟩
    · rcases List.mem_cons.mp h1 with e | e
      · rw [e]
        by_cases c : x ≤ y
        · rw [Int.max_eq_right c]; simp
        · rw [Int.max_eq_left (by omega)]; simp
      · simp [e]
    · have h3 := h2 (max x y) (by simp)
      rcases List.mem_cons.mp ha with rfl | ha
      · omega
      · rcases List.mem_cons.mp ha with rfl | ha
        · omega
        · exact h2 a (by simp [ha])
theorem numAt_get {xs : List (Int × Tok)} {i : Nat} (h : i < xs.length) : numAt xs.toArray i = (xs.map (·.1))[i]'(by simpa using h) := by simp [numAt, h]
theorem lmin_best {xs : List (Int × Tok)} (hne : 0 < xs.length) : numAt xs.toArray (argBest (fun i j => decide (numAt xs.toArray i < numAt xs.toArray j)) (xs.length - 1)) = lmin (xs.map (·.1)) := by
  obtain ⟨h1, h2⟩ := argBest_lt (numAt xs.toArray) (xs.length - 1)
  generalize argBest (fun i j => decide (numAt xs.toArray i < numAt xs.toArray j)) (xs.length - 1) = k at h1 h2 ⊢
  cases hx : xs.map (·.1) with
  | nil => have : (xs.map (·.1)).length = xs.length := List.length_map _
           rw [hx] at this; simp at this; omega
  | cons x r =>
    obtain ⟨m1, m2⟩ := foldl_min r x
    apply Int.le_antisymm
    · obtain ⟨j, hj, e⟩ := List.mem_iff_getElem.mp m1
      have hj' : j < xs.length := by rw [← List.length_map (f := (·.1)), hx]; exact hj
      have := h2 j (by omega)
      rw [numAt_get hj'] at this
      have e2 : (xs.map (·.1))[j]'(by simpa using hj') = r.foldl (fun a b => min a b) x := by
        rw [← e]; congr 1
      rw [e2] at this; exact this
    · refine m2 _ ?_
      rw [← hx, numAt_get (by omega)]
      exact List.getElem_mem _
theorem lmax_best {xs : List (Int × Tok)} (hne : 0 < xs.length) : numAt xs.toArray (argBest (fun i j => decide (numAt xs.toArray i > numAt xs.toArray j)) (xs.length - 1)) = lmax (xs.map (·.1)) := by
  obtain ⟨h1, h2⟩ := argBest_gt (numAt xs.toArray) (xs.length - 1)
  generalize argBest (fun i j => decide (numAt xs.toArray i > numAt xs.toArray j)) (xs.length - 1) = k at h1 h2 ⊢
  cases hx : xs.map (·.1) with
  | nil => have : (xs.map (·.1)).length = xs.length := List.length_map _
           rw [hx] at this; simp at this; omega
  | cons x r =>
    obtain ⟨m1, m2⟩ := foldl_max r x
    apply Int.le_antisymm
    · refine m2 _ ?_
      rw [← hx, numAt_get (by omega)]
      exact List.getElem_mem _
    · obtain ⟨j, hj, e⟩ := List.mem_iff_getElem.mp m1
      have hj' : j < xs.length := by rw [← List.length_map (f := (·.1)), hx]; exact hj
      have := h2 j (by omega)
      rw [numAt_get hj'] at this
      have e2 : (xs.map (·.1))[j]'(by simpa using hj') = r.foldl (fun a b => max a b) x := by
        rw [← e]; congr 1
      rw [e2] at this; exact this
noncomputable def fMin : List V → Option V
  | [.lst l] => (vInts l).bind fun ns => if 0 < ns.length then some (.int (lmin ns)) else none
  | _ => none
noncomputable def fMax : List V → Option V
  | [.lst l] => (vInts l).bind fun ns => if 0 < ns.length then some (.int (lmax ns)) else none
  | [.int a, .int b] => some (.int (max a b))
  | _ => none
theorem vMin : SoundV g n (.builtin "min") fMin := by
  (try unfold SoundV at *)
  intro args d hd A ao av s vals Q E iv tb fr r q
  unfold fMin at hd
  split at hd
  · rename_i l
    obtain ⟨ns, hn, hd⟩ := bind_some hd
    split at hd
    · rename_i hne
      cases hd
      cases r with
      | cons hx hr =>
        cases hr
        cases hx with
        | lst _ vs a hm hl hz hr =>
          obtain ⟨xs, e1, e2⟩ := vInts_items hr hn
          subst e1 e2
          have e3 : (xs.map fun p => Value.int p.1 p.2).toArray = intItems xs.toArray := by simp [intItems]
          rw [e3] at hl
          have hne' : 0 < xs.length := by simpa using hne
          refine up iv.tok fun E' => min_intList ao.handled hl (by simpa using hne') fun v h' tk hv hk ht => ?_
          obtain ⟨t, rfl⟩ := intItems_at hv
          have : xs.toArray.size = xs.length := by simp
          rw [this, lmin_best hne']
          exact q _ _ (Ext.of hk fun _ => ht) (.int _ _)
    · cases hd
  · cases hd
theorem vMax : SoundV g n (.builtin "max") fMax := by
  (try unfold SoundV at *)
  intro args d hd A ao av s vals Q E iv tb fr r q
  unfold fMax at hd
  split at hd
  · rename_i l
    obtain ⟨ns, hn, hd⟩ := bind_some hd
    split at hd
    · rename_i hne
      cases hd
      cases r with
      | cons hx hr =>
        cases hr
        cases hx with
        | lst _ vs a hm hl hz hr =>
          obtain ⟨xs, e1, e2⟩ := vInts_items hr hn
          subst e1 e2
          have e3 : (xs.map fun p => Value.int p.1 p.2).toArray = intItems xs.toArray := by simp [intItems]
          rw [e3] at hl
          have hne' : 0 < xs.length := by simpa using hne
          refine up iv.tok fun E' => max_intList ao.handled hl (by simpa using hne') fun v h' tk hv hk ht => ?_
          obtain ⟨t, rfl⟩ := intItems_at hv
          have : xs.toArray.size = xs.length := by simp
          rw [this, lmax_best hne']
          exact q _ _ (Ext.of hk fun _ => ht) (.int _ _)
    · cases hd
  · rename_i a b
    cases hd
    cases r with
    | cons hx hr =>
      cases hr with
      | cons hy hr =>
        cases hr; cases hx; cases hy
        refine up iv.tok fun E' => max_two_ints ao.handled fun h' tk hk ht => ?_
        split
        · rename_i c
          rw [Int.max_eq_right (by omega)] at q
          exact q _ _ (Ext.of hk fun _ => ht) (.int _ _)
        · rename_i c
          rw [Int.max_eq_left (by omega)] at q
          exact q _ _ (Ext.of hk fun _ => ht) (.int _ _)
  · cases hd
noncomputable def fAbs : List V → Option V
  | [.int a] => some (.int (if a < 0 then -a else a))
  | _ => none
theorem vAbs : SoundV g n (.builtin "abs") fAbs := by
  (try unfold SoundV at *)
  intro args d hd A ao av s vals Q E iv tb fr r q
  unfold fAbs at hd
  split at hd
  · cases hd
    cases r with
    | cons hx hr =>
      cases hr; cases hx
      exact up iv.tok fun E' => call_abs_int fun u tk ht => q _ _ (Ext.tok g s _ fun _ => ht) (.int _ _)
  · cases hd
noncomputable def fSum : List V → Option V
  | [.lst l] => (vInts l).map fun ns => .int ns.sum
  | _ => none
theorem vSum : SoundV g n (.builtin "sum") fSum := by
  (try unfold SoundV at *)
  intro args d hd A ao av s vals Q E iv tb fr r q
  unfold fSum at hd
  split at hd
  · rename_i l
    cases hn : vInts l with
    | none => rw [hn] at hd; cases hd
    | some ns =>
      rw [hn] at hd; cases hd
      cases r with
      | cons hx hr =>
        cases hr
        cases hx with
        | lst _ vs a hm hl hz hr =>
          obtain ⟨xs, e1, e2⟩ := vInts_items hr hn
          subst e1 e2
          refine up iv.tok fun E' => call_sum_walkAnyS (wpAny_pyIter_list hl ?_)
          have ha : a ≠ s.heap.objs.size := by obtain ⟨o, ho, _⟩ := hl; exact Nat.ne_of_lt (Heap.lt_size ho)
          refine ⟨_, _, _, _, _, _, _, fun i => numAt xs.toArray i, rfl, (Walks.list (A := A.in1) ao.handled _ a ha _).toS, ⟨⟨_, Heap.get?_push_size _ rfl, rfl, rfl⟩, hl.push _⟩, ?_, ?_, ?_⟩
          · intro b hb
            simp only [List.mem_cons, List.not_mem_nil, or_false] at hb
            show b < (s.heap.push _).objs.size
            rw [Heap.size_push]
            rcases hb with rfl | rfl
            · exact Nat.lt_succ_self _
            · obtain ⟨o, ho, _⟩ := hl; exact Nat.lt_succ_of_lt (Heap.lt_size ho)
          · intro i v hv
            simp at hv
            obtain ⟨p, t, hp, rfl⟩ := hv
            exact ⟨t, by simp [numAt, hp]⟩
          · intro s' t' hm' ht
            have e : preSum (fun i => numAt xs.toArray i) (xs.map fun p => Value.int p.1 p.2).toArray.size = (xs.map (·.1)).sum := by
              have key : ∀ k, k ≤ xs.length → preSum (fun i => numAt xs.toArray i) k = ((xs.map (·.1)).take k).sum := by
                intro k
                induction k with
                | zero => intro _; simp [preSum]
                | succ k ih =>
                  intro hk
                  rw [preSum, ih (by omega), List.take_add_one, List.sum_append, numAt_get (by omega)]
                  simp [show k < xs.length by omega]
              rw [List.size_toArray, List.length_map, key _ (Nat.le_refl _), List.take_of_length_le (by simp)]
            rw [e]
            refine q _ _ ⟨fun b o _ hb => hm'.heap b o ?_ (Heap.get?_push_of_some _ hb), fun i => ?_⟩ (.int _ _)
            · simp only [List.mem_singleton]; rintro rfl; exact Nat.lt_irrefl _ (Heap.lt_size hb)
            · have k2 : ∀ b o, s.heap.get? b = some o → s'.heap.get? b = some o := fun b o hb => hm'.heap b o (by simp only [List.mem_singleton]; rintro rfl; exact Nat.lt_irrefl _ (Heap.lt_size hb)) (Heap.get?_push_of_some _ hb)
              refine ⟨i.keep.trans fun b o _ hb => k2 b o hb, let ⟨m, hm⟩ := i.tab; ⟨m, hm.keeps k2⟩, ?_, hm'.os.trans i.os, ht, i.cb⟩
              have := hm'.gens
              simp only at this
              rw [this]; exact i.gens
  · cases hd
end
end Mine
end

noncomputable section
open PySem PySem.W PyProof.Rows
open PySem.Builtin.Str
namespace Mine

section
variable {g : Gl} {n : Nat} {ft : FT}

/- methods of texts -/
structure StrMeth (name : Str) (id : String) : Prop where
  slot : Slot "str" name id
  ty : typeOf (.builtin id) = pure (.type "method_descriptor")

noncomputable def eMeth (f : List V → Option V) (h : Sig → Option V) (k : Sig → Option (List V)) : Sig → Option V := fun σ => (h σ).bind fun a => match a with
  | .str x => (k σ).bind fun l => f (.str x :: l)
  | _ => none
theorem sMeth {o : Expr} {name : Str} {id : String} {apos pos : Pos} {es : List Expr} {f : List V → Option V} {h : Sig → Option V} {k : Sig → Option (List V)} (hm : StrMeth name id) (hf : SoundV g n (.builtin id) f) (ho : SoundE g n ft o h) (he : SoundEs g n ft es k) (hp : Plain es)
    (hbase : ∀ env, attributeBase o name env (eval o env) = eval o env) (hfew : ∀ env, ((backTo pos (starEach es env)).all (fun x => !x.1) && (backToKw pos (keywordEach [] env)).all (fun x => x.1.isSome)
      && decide (es.length + ([] : List Keyword).length + (if ([] : List Keyword).isEmpty then 0 else 1) < 30)) = true) (hline : (apos.endLine == pos.line) = true) :
    SoundE g n ft (.Call (.Attribute o name apos) es [] pos) (eMeth f h k) := by
  (try unfold SoundE at *); (try unfold SoundEs at *); (try unfold SoundV at *)
  intro env eo σ d hd A ao M B F s Q E iv S q
  obtain ⟨a, ha, hd⟩ := bind_some hd
  refine wpAny_Call_method_lateS (hbase env) (hfew env) hline (ho env eo σ a ha A ao M B F s _ E iv S fun va s₁ x₁ ra => ?_)
  cases ra <;> (try (simp at hd; done))
  rename_i x t hx
  simp only at hd
  obtain ⟨l, hl, hd⟩ := bind_some hd
  refine ⟨"str", id, PySem.F.plainAttrs_str, hm.slot, hm.ty, typeIs_str _ _ _, fun _ e => (nomatch e), ?_⟩
  obtain ⟨_, _, _, hany⟩ := hp env pos
  have iv₁ := x₁.inv iv
  have S₁ := S.extE x₁
  refine Calls.callWith_builtin hany (evalArgs_es hp (by unfold SoundEs; exact he) eo hl ao iv₁ S₁ fun vs s₂ x₂ r => ?_)
  have S₂ := S₁.extE x₂
  have iv₂ := x₂.inv iv₁
  exact hf _ d hd A ao _ s₂ _ _ _ iv₂ (.inl S.Mtab) (S₂.avSome iv₂) (.cons (.str x t hx) r) fun v s₃ x₃ r₃ => q v s₃ ((x₁.trans x₂).trans x₃) r₃

theorem mStarts : StrMeth "startswith" "str.startswith" := ⟨F.slot_str_startswith, F.type_str_startswith⟩
theorem mEnds : StrMeth "endswith" "str.endswith" := ⟨F.slot_str_endswith, F.type_str_endswith⟩
theorem mFind : StrMeth "find" "str.find" := ⟨F.slot_str_find, F.type_str_find⟩
theorem mRfind : StrMeth "rfind" "str.rfind" := ⟨F.slot_str_rfind, F.type_str_rfind⟩
theorem mRstrip : StrMeth "rstrip" "str.rstrip" := ⟨F.slot_str_rstrip, F.type_str_rstrip⟩
theorem mSplit : StrMeth "split" "str.split" := ⟨F.slot_str_split, F.type_str_split⟩
theorem mJoin : StrMeth "join" "str.join" := ⟨F.slot_str_join, F.type_str_join⟩

noncomputable def fStarts : List V → Option V
  | [.str x, .str y] => some (.bool (Txt.startswith x y))
  | _ => none
theorem vStarts : SoundV g n (.builtin "str.startswith") fStarts := by
  (try unfold SoundV at *)
  intro args d hd A ao av s vals Q E iv tb fr r q
  unfold fStarts at hd
  split at hd
  · cases hd
    cases r with
    | cons hx hr => cases hr with
      | cons hy hr => cases hr; cases hx; cases hy; exact SC.startswith (q _ _ (Ext.refl g s) (.bool _))
  · cases hd
noncomputable def fEnds : List V → Option V
  | [.str x, .str y] => some (.bool (Txt.endswith x y))
  | _ => none
theorem vEnds : SoundV g n (.builtin "str.endswith") fEnds := by
  (try unfold SoundV at *)
  intro args d hd A ao av s vals Q E iv tb fr r q
  unfold fEnds at hd
  split at hd
  · cases hd
    cases r with
    | cons hx hr => cases hr with
      | cons hy hr => cases hr; cases hx; cases hy; exact SC.endswith (q _ _ (Ext.refl g s) (.bool _))
  · cases hd
noncomputable def fRfind : List V → Option V
  | [.str x, .str y] => some (.int (Txt.rfind x y))
  | _ => none
theorem vRfind : SoundV g n (.builtin "str.rfind") fRfind := by
  (try unfold SoundV at *)
  intro args d hd A ao av s vals Q E iv tb fr r q
  unfold fRfind at hd
  split at hd
  · cases hd
    cases r with
    | cons hx hr => cases hr with
      | cons hy hr => cases hr; cases hx; cases hy; exact SC.rfind (q _ _ (Ext.tok g s _ fun _ => Nat.succ_pos _) (.int _ _))
  · cases hd
noncomputable def fRstrip : List V → Option V
  | [.str x, .str y] => some (.str (Txt.rstripChars x y))
  | _ => none
theorem rstrip_len (x y : Str) : (Txt.rstripChars x y).length ≤ x.length := by
  unfold Txt.rstripChars Txt.stripBy
  split
  · exact Nat.le_refl _
  · exact le_strSub _ _ _
theorem vRstrip : SoundV g n (.builtin "str.rstrip") fRstrip := by
  (try unfold SoundV at *)
  intro args d hd A ao av s vals Q E iv tb fr r q
  unfold fRstrip at hd
  split at hd
  · cases hd
    cases r with
    | cons hx hr => cases hr with
      | cons hy hr =>
        cases hr; cases hx; cases hy
        rename_i hx _ _
        exact up iv.tok fun E' => SC.rstripChars (fun t' k ht => q _ _ (Ext.tok g s _ fun _ => ht) (.str _ _ (Nat.le_trans (rstrip_len _ _) hx))) hx
  · cases hd
noncomputable def fFind : List V → Option V
  | [.str x, .str y, .int i, .int j] => some (.int (match occurrences x y (fromIndex x.length i) (min (fromIndex x.length j) x.length) 1 with | k :: _ => (k : Int) | [] => -1))
  | _ => none
theorem gives_find (x y : Str) (i j : Int) (t u v w : Tok) : Gives (Builtin.«str.find» ⟨[.str x t, .str y u, .int i v, .int j w], []⟩) (.int (match occurrences x y (fromIndex x.length i) (min (fromIndex x.length j) x.length) 1 with | k :: _ => (k : Int) | [] => -1)) := by
  show Gives (match occurrences x y (fromIndex x.length i) (min (fromIndex x.length j) x.length) 1 with | k :: _ => retInt k | [] => (do rule "str.find.not-found"; retInt (-1))) _
  cases occurrences x y (fromIndex x.length i) (min (fromIndex x.length j) x.length) 1 with
  | nil => exact .rule (.of_eq rfl)
  | cons k _ => exact .of_eq rfl
theorem vFind : SoundV g n (.builtin "str.find") fFind := by
  (try unfold SoundV at *)
  intro args d hd A ao av s vals Q E iv tb fr r q
  unfold fFind at hd
  split at hd
  · cases hd
    cases r with
    | cons h1 hr => cases hr with
      | cons h2 hr => cases hr with
        | cons h3 hr => cases hr with
          | cons h4 hr =>
            cases hr; cases h1; cases h2; cases h3; cases h4
            exact call_gives F.slot_str_find (typeIs_str _ _ _) F.entry_str_find (F.args_str_find_4 _ _ _ _) (gives_find _ _ _ _ _ _ _ _) (q _ _ (Ext.tok g s _ fun _ => Nat.succ_pos _) (.int _ _))
  · cases hd

/- lists of texts -/
noncomputable def vStrs : List V → Option (List Str)
  | [] => some []
  | .str x :: l => (vStrs l).map (x :: ·)
  | _ :: _ => none
theorem vStrs_items {h : Heap} {M : AS} : ∀ {l : List V} {vs : List Value} {ns : List Str}, RepL h M l vs → vStrs l = some ns → ∃ xs : List (Str × Tok), vs = strValues xs ∧ xs.map (·.1) = ns
  | _, _, _, .nil, e => by cases e; exact ⟨[], rfl, rfl⟩
  | _, _, ns, .cons hx hr, e => by
    cases hx <;> (try (simp [vStrs] at e; done))
    rename_i i t _
    simp only [vStrs] at e
    cases hn : vStrs _ with
    | none => rw [hn] at e; cases e
    | some ms =>
      rw [hn] at e; cases e
      obtain ⟨xs, e1, e2⟩ := vStrs_items hr hn
      exact ⟨(i, t) :: xs, by rw [e1]; rfl, by rw [← e2]; rfl⟩
theorem repL_strs {h : Heap} {M : AS} : ∀ (l : List (Str × Tok)), (∀ p ∈ l, p.1.length ≤ sizeLine) → RepL h M (l.map fun p => V.str p.1) (strValues l)
  | [], _ => .nil
  | p :: l, hs => .cons (.str p.1 p.2 (hs p (.head _))) (repL_strs l fun q hq => hs q (.tail _ hq))

noncomputable def fJoin : List V → Option V
  | [.str x, .lst l] => (vStrs l).bind fun ts => if JoinOk x ts = true then some (.str (Txt.join x ts)) else none
  | _ => none
theorem vJoin : SoundV g n (.builtin "str.join") fJoin := by
  (try unfold SoundV at *)
  intro args d hd A ao av s vals Q E iv tb fr r q
  unfold fJoin at hd
  split at hd
  · obtain ⟨ts, ht, hd⟩ := bind_some hd
    split at hd
    · rename_i hok
      cases hd
      cases r with
      | cons hx hr => cases hr with
        | cons hy hr =>
          cases hr; cases hx
          cases hy with
          | lst _ vs a hm hl hz hr =>
            obtain ⟨xs, e1, e2⟩ := vStrs_items hr ht
            subst e1
            have hlen : (Txt.join _ ts).length ≤ sizeLine := joinFit_length (by unfold JoinOk at hok; simpa using hok)
            exact up iv.tok fun E' => SC.join hl e2 hok fun t' k ht => q _ _ (Ext.tok g s _ fun _ => ht) (.str _ _ hlen)
    · cases hd
  · cases hd

theorem parts_len (x : Str) (cuts : List Nat) (w : Nat) : ∀ p ∈ partsBetween x cuts w, p.length ≤ x.length := by
  intro p hp
  unfold partsBetween at hp
  obtain ⟨⟨i, j⟩, _, rfl⟩ := List.mem_map.mp hp
  exact le_strSub _ _ _
theorem split_len (x y : Str) : ∀ p ∈ Txt.split x y, p.length ≤ x.length := by
  intro p hp
  unfold Txt.split at hp
  split at hp
  · simp at hp; rw [hp]; exact Nat.le_refl _
  split at hp
  · simp at hp; rw [hp]; exact Nat.le_refl _
  · exact parts_len _ _ _ _ hp
theorem parts_count (x : Str) (cuts : List Nat) (w : Nat) : (partsBetween x cuts w).length = cuts.length + 1 := by
  unfold partsBetween
  simp
theorem split_count (x y : Str) : (Txt.split x y).length ≤ x.length + 2 := by
  unfold Txt.split
  split
  · simp
  split
  · simp
  · rw [parts_count]
    have := PySem.StrLaws.occ_length_le x y 0 x.length (x.length + 1)
    omega
noncomputable def fSplit : List V → Option V
  | [.str x, .str y] => if y.length ≠ 0 ∧ x.length ≤ 1000 then some (.lst ((Txt.split x y).map .str)) else none
  | _ => none
theorem vSplit : SoundV g n (.builtin "str.split") fSplit := by
  (try unfold SoundV at *)
  intro args d hd A ao av s vals Q E iv tb fr r q
  unfold fSplit at hd
  split at hd
  · rename_i x y
    split at hd
    · rename_i hok
      cases hd
      cases r with
      | cons hx hr => cases hr with
        | cons hy hr =>
          cases hr; cases hx; cases hy
          rename_i t hx u hy
          have hcnt := split_count x y
          have fin : ∀ (l : List (Str × Tok)) (k : Tok), 0 < k → l.map (·.1) = Txt.split x y → wants Q E (.ok (.ret (.ref s.heap.objs.size))) { s with toks := k, heap := s.heap.push { cls := .type "list", data := .seq (strValues l).toArray } } := by
            intro l k hk hl
            show Q _ _
            have e : (Txt.split x y).map V.str = l.map fun p => V.str p.1 := by rw [← hl, List.map_map]; rfl
            rw [e] at q
            refine q _ _ (Ext.push g s _ k fun _ => hk) (.lst _ _ _ (fun ha => fr _ ha (size_none _)) ⟨_, Heap.get?_push_size _ rfl, rfl, _, rfl⟩ ?_ ?_)
            · rw [List.length_map, ← List.length_map (f := (·.1)), hl, sizeLine_is]; omega
            · refine repL_strs l fun p hp => ?_
              have : p.1 ∈ Txt.split x y := by rw [← hl]; exact List.mem_map.mpr ⟨p, hp, rfl⟩
              exact Nat.le_trans (split_len x y _ this) hx
          have hy0 : (y.length == 0) = false := by simpa using hok.1
          cases h1 : (decide (x.length < y.length) || decide (strKind x < strKind y)) with
          | true =>
            refine call_meets F.slot_str_split (typeIs_str _ _ _) F.entry_str_split (F.args_str_split_2 _ _) (meets_str_split_cannot_occur x y t u h1) (fin [(x, t)] s.toks iv.tok ?_)
            unfold Txt.split; rw [if_pos h1]; rfl
          | false =>
            cases hf : (occurrences x y 0 x.length (x.length + 1)).isEmpty with
            | true =>
              refine call_meets F.slot_str_split (typeIs_str _ _ _) F.entry_str_split (F.args_str_split_2 _ _) (meets_str_split_not_found x y t u h1 hy0 hf) (fin [(x, t)] s.toks iv.tok ?_)
              unfold Txt.split; rw [if_neg (by rw [h1]; decide), if_pos hf]; rfl
            | false =>
              have hz : (partsBetween x (occurrences x y 0 x.length (x.length + 1)) y.length).length ≤ sizeLine := by
                rw [parts_count, sizeLine_is]
                have := PySem.StrLaws.occ_length_le x y 0 x.length (x.length + 1)
                omega
              have e : Txt.split x y = partsBetween x (occurrences x y 0 x.length (x.length + 1)) y.length := by unfold Txt.split; rw [if_neg (by rw [h1]; decide), if_neg (by rw [hf]; decide)]
              refine call_meets F.slot_str_split (typeIs_str _ _ _) F.entry_str_split (F.args_str_split_2 _ _) (meets_str_split_sep x y t u h1 hy0 hf hx hz) ?_
              have := fin (numbered s.toks (partsBetween x (occurrences x y 0 x.length (x.length + 1)) y.length)) (s.toks + (partsBetween x (occurrences x y 0 x.length (x.length + 1)) y.length).length) (Nat.lt_of_lt_of_le iv.tok (Nat.le_add_right _ _)) (by rw [numbered_texts, e])
              rw [← strsFrom_eq] at this
              exact this
    · cases hd
  · cases hd

/- replace, by two written texts -/
noncomputable def fReplace (x y z : Str) : Option V := if (y == z) = false ∧ x.length ≤ 1000 ∧ z.length ≤ 14 ∧ y.length ≤ 14 ∧ (Txt.replace x y z).length ≤ 1000 then some (.str (Txt.replace x y z)) else none
noncomputable def eReplace (f : Sig → Option V) (y z : Str) : Sig → Option V := fun σ => (f σ).bind fun a => match a with
  | .str x => fReplace x y z
  | _ => none
theorem sReplace {o : Expr} {apos pos p1 p2 : Pos} {k1 k2} {y z : Str} {name : Str} {f : Sig → Option V} (hn : name = "replace") (ho : SoundE g n ft o f) (hbase : ∀ env, attributeBase o name env (eval o env) = eval o env) (hline : (apos.endLine == pos.line) = true) :
    SoundE g n ft (.Call (.Attribute o name apos) [.Constant (.str y) k1 p1, .Constant (.str z) k2 p2] [] pos) (eReplace f y z) := by
  (try unfold SoundE at *)
  subst hn
  intro env eo σ d hd A ao M B F s Q E iv S q
  obtain ⟨a, ha, hd⟩ := bind_some hd
  refine wpAny_Call_method_lateS (hbase env) (by rfl) hline (ho env eo σ a ha A ao M B F s _ E iv S fun va s₁ x₁ ra => ?_)
  cases ra <;> (try (simp at hd; done))
  rename_i x t hx
  simp only [fReplace] at hd
  split at hd
  · rename_i hc
    cases hd
    obtain ⟨hyz, hxl, hzl, hyl, hrl⟩ := hc
    refine ⟨"str", "str.replace", PySem.F.plainAttrs_str, PySem.F.slot_str_replace, PySem.F.type_str_replace, typeIs_str _ _ _, fun _ e => (nomatch e), ?_⟩
    have iv₁ := x₁.inv iv
    have e : backTo pos (starEach [.Constant (.str y) k1 p1, .Constant (.str z) k2 p2] env) = [(false, eval (.Constant (.str y) k1 p1) env), (false, eval (.Constant (.str z) k2 p2) env)] := rfl
    rw [e]
    refine Calls.callWith_builtin rfl (Calls.evalArgs_plain (Calls.spliced_cons (Calls.Constant_str (Calls.spliced_cons (Calls.Constant_str (Calls.spliced_nil ?_))))))
    have ht := iv₁.tok
    refine up (Nat.succ_pos _) fun E' => SC.replace (by show s₁.toks ≠ 0; omega) (by show s₁.toks + 1 ≠ 0; omega) (by show s₁.toks ≠ s₁.toks + 1; omega) hyz ?_ fun t' k ht' => ?_
    · have : (x.length + 1) * z.length ≤ 1001 * 14 := Nat.mul_le_mul (by omega) hzl
      omega
    · exact q _ _ (x₁.trans (Ext.tok g s₁ _ fun _ => ht')) (.str _ _ (Nat.le_trans hrl (by decide)))
  · cases hd

/- f'[{x}]' -/
noncomputable def eFmt (a b : Str) (f : Sig → Option V) : Sig → Option V := fun σ => (f σ).bind fun d => match d with
  | .str x => if a.length ≤ 10 ∧ b.length ≤ 10 ∧ x.length ≤ 1000 then some (.str (((Str.empty ++ a) ++ x) ++ b)) else none
  | _ => none
theorem sFmt {a b : Str} {k1 k2} {p1 p2 p3 pos : Pos} {e : Expr} {f : Sig → Option V} (he : SoundE g n ft e f) : SoundE g n ft (.JoinedStr [.Constant (.str a) k1 p1, .FormattedValue e (-1) none p2, .Constant (.str b) k2 p3] pos) (eFmt a b f) := by
  (try unfold SoundE at *)
  intro env eo σ d hd A ao M B F s Q E iv S q
  obtain ⟨c, hc, hd⟩ := bind_some hd
  cases c <;> (try (simp at hd; done))
  rename_i x
  simp only at hd
  split at hd
  · rename_i hz
    cases hd
    refine wpAny_JoinedStr ?_
    obtain ⟨ha, hb, hx⟩ := hz
    have l1 : (Str.empty ++ a).length = a.length := by rw [PySem.Str.empty_append]
    have l2 : ((Str.empty ++ a) ++ x).length = a.length + x.length := by rw [PySem.Str.length_append, l1]
    have l3 : (((Str.empty ++ a) ++ x) ++ b).length = a.length + x.length + b.length := by rw [PySem.Str.length_append, l2]
    refine Calls.Constant_str ⟨_, _, rfl, by rw [l1, sizeLine_is]; omega, ?_⟩
    have x₀ := Ext.tok g s (s.toks + 1) fun _ => Nat.succ_pos _
    refine wpAny_FormattedValue_plain (he env eo σ _ hc A ao M B F _ _ E (x₀.inv iv) (S.extE x₀) fun v s₁ x₁ r => ?_)
    cases r with
    | str _ t hs =>
      have fin : ∀ (t' : Tok) (s₂ : Shared), Ext g s₁ s₂ → ∃ y t, Value.str x t' = .str y t ∧ ((Str.empty ++ a) ++ y).length ≤ sizeLine ∧ Joins (model g.prog g.w) A E (evalEach [.Constant (.str b) k2 p3] env) ((Str.empty ++ a) ++ y) (fun out s₁ => out.length ≤ sizeLine ∧ Q (.str out s₁.toks) { s₁ with toks := s₁.toks + 1 }) s₂ := by
        intro t' s₂ x₂
        refine ⟨_, _, rfl, by rw [l2, sizeLine_is]; omega, ?_⟩
        refine Calls.Constant_str ⟨_, _, rfl, by rw [l3, sizeLine_is]; omega, ?_⟩
        refine ⟨by rw [l3, sizeLine_is]; omega, ?_⟩
        refine q _ _ (((x₀.trans x₁).trans x₂).trans ?_) (.str _ _ (by rw [l3, sizeLine_is]; omega))
        exact Ext.tok g s₂ (s₂.toks + 1 + 1) fun _ => Nat.succ_pos _
      exact wpAny_formatField_str (fin _ _ (Ext.refl g _)) (fin _ _ (Ext.tok g s₁ _ fun _ => Nat.succ_pos _)) hs
  · cases hd
end
end Mine
end

noncomputable section
open PySem PySem.W PyProof.Rows
namespace Mine

section
variable {g : Gl} {n : Nat} {ft : FT}

theorem getD_set {σ : Sig} {i j : Nat} {x : Option V} {d : V} (h : (σ.set i x).getD j none = some d) : (j = i ∧ x = some d) ∨ (j ≠ i ∧ σ.getD j none = some d) := by
  rw [List.getD_eq_getElem?_getD, List.getElem?_set] at h
  by_cases e : i = j
  · subst e
    by_cases hl : i < σ.length
    · simp [hl] at h; exact .inl ⟨rfl, h⟩
    · simp [hl] at h
  · simp [e] at h
    exact .inr ⟨fun q => e q.symm, by rw [List.getD_eq_getElem?_getD]; exact h⟩

/-- one object that the frame owns is changed: what else it knows stands -/
theorem St.poke {env : Env} {M : AS} {B : Heap} {F : Fm} {σ : Sig} {h h' : Heap} {b : Addr} {r : Role} (S : St g ft env M B F σ h) (hb : F.W b = some r) (hs : Heap.SameBut b h h') (hn : h'.get? b ≠ none) :
    (∀ a, B.get? a ≠ none → a ≠ b) ∧ Kp g.tab B h' ∧ (∀ a r, F.W a = some r → B.get? a = none ∧ h'.get? a ≠ none ∧ g.G.get? a = none ∧ a ≠ g.TB) ∧ Step g F F h h' := by
  have l := S.low b r hb
  refine ⟨fun a ha e => ha (e ▸ l.1), fun a o n e => ?_, fun a r' w => ?_, ⟨fun a o n e => ?_, fun a t q => .inl q⟩⟩
  · have : a ≠ b := by rintro rfl; rw [l.1] at e; cases e
    exact (hs.2 a this).trans (S.keep a o n e)
  · obtain ⟨a1, a2, a3, a4⟩ := S.low a r' w
    refine ⟨a1, ?_, a3, a4⟩
    by_cases e : a = b
    · subst e; exact hn
    · rw [hs.2 a e]; exact a2
  · have : a ≠ b := by rintro rfl; exact n (.inr (by rw [hb]; exact fun z => nomatch z))
    exact (hs.2 a this).trans e

theorem repPoke {env : Env} {M : AS} {B : Heap} {F : Fm} {σ : Sig} {h h' : Heap} {b : Addr} {r : Role} (S : St g ft env M B F σ h) (hb : F.W b = some r) (hs : Heap.SameBut b h h') {d : V} {v : Value} (x : Rep h (F.av M) d v) : Rep h' (F.av M) d v :=
  x.keep (X := fun a => a = b) (Kp.same hs rfl) (fun a e => .inr (by rw [e, hb]; exact fun z => nomatch z)) fun _ q => q
theorem repLPoke {env : Env} {M : AS} {B : Heap} {F : Fm} {σ : Sig} {h h' : Heap} {b : Addr} {r : Role} (S : St g ft env M B F σ h) (hb : F.W b = some r) (hs : Heap.SameBut b h h') {d : List V} {v : List Value} (x : RepL h (F.av M) d v) : RepL h' (F.av M) d v :=
  x.keep (X := fun a => a = b) (Kp.same hs rfl) (fun a e => .inr (by rw [e, hb]; exact fun z => nomatch z)) fun _ q => q

theorem get_ne_none {h : Heap} {a : Addr} {o : Obj} (e : h.get? a = some o) : h.get? a ≠ none := by rw [e]; exact fun z => nomatch z

/-- a name takes a value -/
theorem stName {env : Env} (eo : EnvOk ft env) {i : Nat} {x : Str} {k : NameKind} (hi : ft.tbl[i]? = some (x, k, false)) (hw : k ≠ .local → ft.wc = true ∧ k = .cell) {M : AS} {B : Heap} {F : Fm} {σ : Sig} {s : Shared} {d : V} {v : Value} {A : Around} {Q : Unit → Shared → Prop} {E : Value → Shared → Prop}
    (iv : Inv g s) (S : St g ft env M B F σ s.heap) (r : Rep s.heap (F.av M) d v)
    (q : ∀ s' F', Inv g s' → F'.W = F.W → Step g F F' s.heap s'.heap → St g ft env M B F' (σ.set i (some d)) s'.heap → Q () s') : wpAny (model g.prog g.w) A (storeName env x v) Q E s := by
  obtain ⟨hl, hk⟩ := eo.tbl i x k false hi
  have hkd : env.scope.kind = .function := by rw [eo.scope]; exact eo.kind
  have hko : env.kindOf x = some k := by show env.scope.names.lookup x = some k; rw [eo.scope]; exact hl
  rcases hk with rfl | ⟨hk, _, hcl, c, hc⟩
  · refine wpAny_storeName_local hko S.ns (fun h' hn hs => ?_) (by rw [hkd]; rfl)
    have hL : h'.get? env.locals ≠ none := by obtain ⟨o, _, _, ho, _⟩ := hn; exact get_ne_none ho
    obtain ⟨p1, p2, p3, p4⟩ := S.poke S.loc hs hL
    have l := S.low _ _ S.loc
    refine q _ { F with m := fun y => if y = x then some v else F.m y } (iv.same hs l.2.2.1 l.2.2.2 fun _ => Nat.succ_pos _) rfl ⟨p4.kp, p4.gr⟩ ⟨hn, S.loc, fun y c e => ?_, fun a o w => ?_, p3, S.Mlow, S.Mtab, p2, fun j y k' own d' ej hd' => ?_⟩
    · obtain ⟨p, hcell⟩ := S.cell y c e
      refine ⟨p, hcell.sameBut hs ?_⟩
      rintro rfl
      rcases p with w | ⟨_, m, _⟩
      · rw [S.loc] at w; cases w
      · exact p1 _ (S.Mlow _ m) rfl
    · have : a ≠ env.locals := by rintro rfl; rw [S.loc] at w; cases w
      exact (hs.2 a this).trans (S.priv a o w)
    · rcases getD_set hd' with ⟨rfl, e⟩ | ⟨ne, hd'⟩
      · cases e
        rw [hi] at ej; cases ej
        exact ⟨v, by simp, .inl ⟨rfl, repPoke S S.loc hs r⟩⟩
      · obtain ⟨v', ev, rv⟩ := S.var j y k' own d' ej hd'
        have hne : y ≠ x := by rintro rfl; exact ne (eo.uniq _ _ _ _ _ _ _ ej hi)
        refine ⟨v', ?_, rv.keep (X := fun a => a = env.locals) (Kp.same hs rfl) (fun a e => .inr (by rw [e, S.loc]; exact fun z => nomatch z)) (fun _ q => q) (fun a _ w => ⟨w, fun _ vs ⟨m, hm⟩ => ⟨m, (hs.2 a ?_).trans hm⟩⟩) fun _ _ _ _ h => h⟩
        · by_cases e : k' = .local
          · simp [e, hne] at ev ⊢; exact ev
          · simp [e] at ev ⊢; exact ev
        · rintro rfl; rw [S.loc] at w; cases w
  · obtain ⟨wc, rfl⟩ := hw (by rcases hk with rfl | rfl <;> decide)
    obtain ⟨p, hcell⟩ := S.cell x c hc
    have hW : F.W c = some (.cell x) := by
      rcases p with w | ⟨w, _⟩
      · exact w
      · rw [wc] at w; cases w
    refine wpAny_storeName_cell hkd hko hc hcell fun h' hcell' hs => ?_
    have hL : h'.get? c ≠ none := by obtain ⟨o, ho, _⟩ := hcell'; exact get_ne_none ho
    obtain ⟨p1, p2, p3, p4⟩ := S.poke hW hs hL
    have l := S.low _ _ hW
    have hLc : env.locals ≠ c := by rintro e; rw [← e, S.loc] at hW; cases hW
    refine q _ { F with cm := fun y => if y = x then some v else F.cm y } (iv.same (t := s.toks) hs l.2.2.1 l.2.2.2) rfl ⟨p4.kp, p4.gr⟩ ⟨S.ns.sameBut hs hLc, S.loc, fun y c' e => ?_, fun a o w => ?_, p3, S.Mlow, S.Mtab, p2, fun j y k' own d' ej hd' => ?_⟩
    · obtain ⟨p', hcell₂⟩ := S.cell y c' e
      refine ⟨p', ?_⟩
      by_cases e2 : c' = c
      · subst e2
        have : y = x := name_of_addr eo.apart (mem_of_lookup e) (mem_of_lookup hc)
        subst this
        simpa using hcell'
      · have : y ≠ x := by rintro rfl; rw [e] at hc; cases hc; exact e2 rfl
        simp [this]
        exact hcell₂.sameBut hs e2
    · have : a ≠ c := by rintro rfl; rw [hW] at w; cases w
      exact (hs.2 a this).trans (S.priv a o w)
    · rcases getD_set hd' with ⟨rfl, e⟩ | ⟨ne, hd'⟩
      · cases e
        rw [hi] at ej; cases ej
        exact ⟨v, by simp, .inl ⟨rfl, repPoke S hW hs r⟩⟩
      · obtain ⟨v', ev, rv⟩ := S.var j y k' own d' ej hd'
        have hne : y ≠ x := by rintro rfl; exact ne (eo.uniq _ _ _ _ _ _ _ ej hi)
        refine ⟨v', ?_, rv.keep (X := fun a => a = c) (Kp.same hs rfl) (fun a e => .inr (by rw [e, hW]; exact fun z => nomatch z)) (fun _ q => q) (fun a _ w => ⟨w, fun _ vs ⟨m, hm⟩ => ⟨m, (hs.2 a ?_).trans hm⟩⟩) fun _ _ _ _ h => h⟩
        · by_cases e : k' = .local
          · simp [e] at ev ⊢; exact ev
          · simp [e, hne] at ev ⊢; exact ev
        · rintro rfl; rw [hW] at w; cases w

theorem Ext.step {s s' : Shared} (x : Ext g s s') (F : Fm) : Step g F F s.heap s'.heap := ⟨x.keep.mono fun a e => .inl e, fun _ _ q => .inl q⟩
theorem Privs.mono {P : Addr → Obj → Prop} {F F' : Fm} (p : Privs P F) (h : ∀ a r, F.W a = some r → F'.W a = some r) : Privs P F' := fun a o q => h a _ (p a o q)

/- statements -/
noncomputable def sAsg (i : Nat) (f : Sig → Option V) : Sig → Option (Fl × Sig) := fun σ => (f σ).map fun d => (.next, σ.set i (some d))
theorem asgEnd {env : Env} {M : AS} {B : Heap} {P : Addr → Obj → Prop} {F F' : Fm} {σ : Sig} {s s₁ s' : Shared} {Q : Flow → Shared → Prop} (x : Ext g s s₁) (pv : Privs P F) (hW : F'.W = F.W) (st : Step g F F' s₁.heap s'.heap) (S' : St g ft env M B F' σ s'.heap) (iv' : Inv g s')
    (q : ∀ fv s', Inv g s' → FlowOk g ft env M B P F s.heap .next σ fv s' → Q fv s') : Q .next s' :=
  q _ _ iv' (.inl ⟨rfl, F', pv.mono (by rw [hW]; exact fun _ _ e => e), (x.step F).trans st, S'⟩)
theorem ssAsg {i : Nat} {x : Str} {k : NameKind} {e : Expr} {p pos : Pos} {f : Sig → Option V} (hi : ft.tbl[i]? = some (x, k, false)) (hw : k ≠ .local → ft.wc = true ∧ k = .cell) (he : SoundE g n ft e f) (hs : ∀ env, swapsWith e (some (.Name x p)) pos.line env = pure false := by intro _; rfl) :
    SoundS g n ft (.Assign [.Name x p] e pos) (sAsg i f) := by
  (try unfold SoundE at *); (try unfold SoundS at *)
  intro env eo σ fl σ' hd A ao M B P F s Q E iv S pv q
  cases hf : f σ with
  | none => simp [sAsg, hf] at hd
  | some d =>
    simp [sAsg, hf] at hd
    obtain ⟨rfl, rfl⟩ := hd
    refine wpAny_Assign_Name (he env eo σ d hf A ao M B F s _ E iv S fun v s₁ x₁ r => ?_) (hs env)
    exact stName eo hi hw (x₁.inv iv) (S.extE x₁) r fun s' F' iv' hW st S' => asgEnd x₁ pv hW st S' iv' q

/- sequences -/
noncomputable def sNil : Sig → Option (Fl × Sig) := fun σ => some (.next, σ)
noncomputable def sSeq (f h : Sig → Option (Fl × Sig)) : Sig → Option (Fl × Sig) := fun σ => (f σ).bind fun p => match p with
  | (.next, σ') => h σ'
  | p => some p
theorem sssNil : SoundSS g n ft [] sNil := by
  (try unfold SoundSS at *)
  intro env eo σ fl σ' hd A ao M B P F s Q E iv S pv q
  cases hd
  exact wpAny_execs_nil (q _ _ iv (.inl ⟨rfl, F, pv, Step.refl _ _ _, S⟩))
theorem sssCons {st : Stmt} {rest : List Stmt} {f h : Sig → Option (Fl × Sig)} (hf : SoundS g n ft st f) (hh : SoundSS g n ft rest h) : SoundSS g n ft (st :: rest) (sSeq f h) := by
  (try unfold SoundS at *); (try unfold SoundSS at *)
  intro env eo σ fl σ' hd A ao M B P F s Q E iv S pv q
  obtain ⟨⟨fl₁, σ₁⟩, h1, hd⟩ := bind_some hd
  refine wpAny_execs_cons (hf env eo σ fl₁ σ₁ h1 A ao M B P F s _ E iv S pv fun fv s₁ iv₁ ok => ?_)
  cases fl₁ with
  | next =>
    rcases ok with ⟨e, F₁, pv₁, st₁, S₁⟩ | ⟨d, v, e, _⟩
    · cases e
      refine hh env eo σ₁ fl σ' hd A ao M B P F₁ s₁ _ E iv₁ S₁ pv₁ fun fv s₂ iv₂ ok₂ => q fv s₂ iv₂ ?_
      rcases ok₂ with ⟨e, F₂, pv₂, st₂, S₂⟩ | r
      · exact .inl ⟨e, F₂, pv₂, st₁.trans st₂, S₂⟩
      · exact .inr r
    · cases e
  | brk =>
    cases hd
    have ok' := ok
    rcases ok with ⟨e, _⟩ | ⟨d, v, e, _⟩
    · cases e; exact q _ _ iv₁ ok'
    · cases e
  | cont =>
    cases hd
    have ok' := ok
    rcases ok with ⟨e, _⟩ | ⟨d, v, e, _⟩
    · cases e; exact q _ _ iv₁ ok'
    · cases e
  | ret d =>
    cases hd
    have ok' := ok
    rcases ok with ⟨e, _⟩ | ⟨d, v, e, e2, _⟩
    · cases e
    · cases e2; exact q _ _ iv₁ ok'

noncomputable def sIf (t : Sig → Option Bool) (f h : Sig → Option (Fl × Sig)) : Sig → Option (Fl × Sig) := fun σ => (t σ).bind fun b => match b with | true => f σ | false => h σ
theorem ssIf {t : Expr} {x y : List Stmt} {pos : Pos} {c : Sig → Option Bool} {f h : Sig → Option (Fl × Sig)} (ht : SoundT g n ft t c) (hx : SoundSS g n ft x f) (hy : SoundSS g n ft y h) : SoundS g n ft (.If t x y pos) (sIf c f h) := by
  (try unfold SoundT at *); (try unfold SoundS at *); (try unfold SoundSS at *)
  intro env eo σ fl σ' hd A ao M B P F s Q E iv S pv q
  obtain ⟨b, hb, hd⟩ := bind_some hd
  refine wpAny_If (ht env eo σ b hb A ao M B F s _ E iv S fun s₁ x₁ => ?_)
  have fin : ∀ fv s', Inv g s' → FlowOk g ft env M B P F s₁.heap fl σ' fv s' → Q fv s' := fun fv s' iv' ok => q fv s' iv' (by
    rcases ok with ⟨e, F₂, pv₂, st₂, S₂⟩ | r
    · exact .inl ⟨e, F₂, pv₂, (x₁.step F).trans st₂, S₂⟩
    · exact .inr r)
  cases b with
  | true => exact hx env eo σ fl σ' hd A ao M B P F s₁ _ E (x₁.inv iv) (S.extE x₁) pv fin
  | false => exact hy env eo σ fl σ' hd A ao M B P F s₁ _ E (x₁.inv iv) (S.extE x₁) pv fin

/-- what is handed back -/
theorem retOk {env : Env} {M : AS} {B : Heap} {F : Fm} {σ : Sig} {h : Heap} (S : St g ft env M B F σ h) {d : V} {v : Value} (r : Rep1 h (F.av M) d v) (own : ∀ l vs a, d = .lst l → v = .ref a → h.IsList a vs → ¬ M a) : Rep h M d v := by
  cases r with
  | rep r => exact r.weaken fun a q => .inl q
  | lst l vs a hl hz hr => exact .lst l vs a (own l _ a rfl rfl hl) hl hz (hr.weaken fun a q => .inl q)
noncomputable def sRet (f : Sig → Option V) : Sig → Option (Fl × Sig) := fun σ => (f σ).map fun d => (.ret d, σ)
theorem ssRet {e : Expr} {pos : Pos} {f : Sig → Option V} (he : SoundE g n ft e f) : SoundS g n ft (.Return (some e) pos) (sRet f) := by
  (try unfold SoundE at *); (try unfold SoundS at *)
  intro env eo σ fl σ' hd A ao M B P F s Q E iv S pv q
  cases hf : f σ with
  | none => simp [sRet, hf] at hd
  | some d =>
    simp [sRet, hf] at hd
    obtain ⟨rfl, rfl⟩ := hd
    refine wpAny_Return_some (he env eo σ d hf A ao M B F s _ E iv S fun v s₁ x₁ r => ?_)
    exact q _ _ (x₁.inv iv) (.inr ⟨d, v, rfl, rfl, (S.extE x₁).keep, r.weaken fun a q => .inl q⟩)
/-- a list of the frame's own is handed back -/
theorem ssRetOwn {x : Str} {i : Nat} {k : NameKind} {p pos : Pos} (hi : ft.tbl[i]? = some (x, k, true)) (hdb : (x == ("__debug__" : Str)) = false) : SoundS g n ft (.Return (some (.Name x p)) pos) (sRet (eNameL i)) := by
  (try unfold SoundS at *)
  intro env eo σ fl σ' hd A ao M B P F s Q E iv S pv q
  cases hf : eNameL i σ with
  | none => simp [sRet, hf] at hd
  | some d =>
    simp [sRet, hf] at hd
    obtain ⟨rfl, rfl⟩ := hd
    obtain ⟨l₀, rfl, hf'⟩ := eNameL_is hf
    refine wpAny_Return_some (wpAny_Name (ldName eo hi hf' S fun v r => ?_) hdb)
    rcases r with ⟨o, _⟩ | ⟨_, l, vs, a, el, rfl, hw, hl, hz, hr⟩ | ⟨_, _, _, _, el, _⟩
    · cases o
    rotate_left
    · cases el
    · cases el
      refine q _ _ iv (.inr ⟨_, _, rfl, rfl, S.keep, .lst _ vs a (fun hm => ?_) hl.isList hz (hr.weaken fun a q => .inl q)⟩)
      exact S.Mlow a hm (S.low a _ hw).1

theorem ssBreak {pos : Pos} : SoundS g n ft (.Break pos) (fun σ => some (.brk, σ)) := by
  (try unfold SoundS at *)
  intro env eo σ fl σ' hd A ao M B P F s Q E iv S pv q
  cases hd; exact wpAny_Break (q _ _ iv (.inl ⟨rfl, F, pv, Step.refl _ _ _, S⟩))
theorem ssContinue {pos : Pos} : SoundS g n ft (.Continue pos) (fun σ => some (.cont, σ)) := by
  (try unfold SoundS at *)
  intro env eo σ fl σ' hd A ao M B P F s Q E iv S pv q
  cases hd; exact wpAny_Continue (q _ _ iv (.inl ⟨rfl, F, pv, Step.refl _ _ _, S⟩))
noncomputable def sAssert (t : Sig → Option Bool) : Sig → Option (Fl × Sig) := fun σ => (t σ).bind fun b => if b then some (.next, σ) else none
theorem ssAssert {t : Expr} {m : Option Expr} {pos : Pos} {c : Sig → Option Bool} (ht : SoundT g n ft t c) : SoundS g n ft (.Assert t m pos) (sAssert c) := by
  (try unfold SoundT at *); (try unfold SoundS at *)
  intro env eo σ fl σ' hd A ao M B P F s Q E iv S pv q
  obtain ⟨b, hb, hd⟩ := bind_some hd
  cases b with
  | false => simp at hd
  | true =>
    simp at hd
    obtain ⟨rfl, rfl⟩ := hd
    exact wpAny_Assert_holds (ht env eo σ true hb A ao M B F s _ E iv S fun s₁ x₁ => ⟨rfl, q _ _ (x₁.inv iv) (.inl ⟨rfl, F, pv, x₁.step F, S.extE x₁⟩)⟩)

/- x += e -/
noncomputable def sAug (i : Nat) (f : Sig → Option V) : Sig → Option (Fl × Sig) := fun σ => (eName i σ).bind fun a => (f σ).bind fun b => (vBin .Add a b).bind fun d => match a with
  | .lst _ => none
  | _ => some (.next, σ.set i (some d))
theorem iaddOp {a b d : V} (h : vBin .Add a b = some d) (hl : ∀ l, a ≠ .lst l) {A : Around} {av : AS} {s : Shared} {va vb : Value} {Q : Value → Shared → Prop} {E : Value → Shared → Prop} (ra : Rep s.heap av a va) (rb : Rep s.heap av b vb)
    (q : ∀ v s', Ext g s s' → Rep s'.heap av d v → Q v s') : wpAny (model g.prog g.w) A (inplaceOp .Add va vb) Q E s := by
  cases ra with
  | int x t => cases rb with
    | int y u => exact wpAny_iadd_int (q _ _ (Ext.tok g s _ fun _ => Nat.succ_pos _) (sos h ▸ .int _ _))
    | _ => exact nos h
  | str x t hx => cases rb with
    | str y u hy =>
      obtain ⟨hc, h⟩ := ifs (show (if x.length + y.length ≤ 1000 then some (V.str (x ++ y)) else none) = some d from h)
      exact P.iadd_str (catStr hx hy hc (sos h ▸ q))
    | _ => exact nos h
  | lst => exact absurd rfl (hl _)
  | _ => exact nos h
theorem ssAug {i : Nat} {x : Str} {k : NameKind} {e : Expr} {p pos : Pos} {f : Sig → Option V} (hi : ft.tbl[i]? = some (x, k, false)) (hw : k ≠ .local → ft.wc = true ∧ k = .cell) (he : SoundE g n ft e f) : SoundS g n ft (.AugAssign (.Name x p) .Add e pos) (sAug i f) := by
  (try unfold SoundE at *); (try unfold SoundS at *)
  intro env eo σ fl σ' hd A ao M B P F s Q E iv S pv q
  obtain ⟨a, ha, hd⟩ := bind_some hd
  obtain ⟨b, hb, hd⟩ := bind_some hd
  obtain ⟨d, hv, hd⟩ := bind_some hd
  refine wpAny_AugAssign_Name (ldName eo hi ha S fun va ra => he env eo σ b hb A ao M B F s _ E iv S fun vb s₁ x₁ rb => ?_)
  rcases ra with ⟨_, ra⟩ | o
  · have key : (∀ l, a ≠ .lst l) ∧ fl = .next ∧ σ' = σ.set i (some d) := by
      cases a <;> simp at hd <;> (obtain ⟨rfl, rfl⟩ := hd; exact ⟨fun l e => (nomatch e), rfl, rfl⟩)
    obtain ⟨hl, rfl, rfl⟩ := key
    refine iaddOp hv hl (S.repExt x₁ ra) rb fun v s₂ x₂ r => ?_
    have x := x₁.trans x₂
    exact stName eo hi hw (x.inv iv) (S.extE x) r fun s' F' iv' hW st S' => asgEnd x pv hW st S' iv' q
  · rcases o with ⟨o, _⟩ | ⟨o, _⟩ <;> cases o
end
end Mine
end

noncomputable section
open PySem PySem.W PyProof.Rows
namespace Mine

section
variable {g : Gl} {n : Nat} {ft : FT}

/- new objects become the frame's own -/
noncomputable def Fm.plus (F : Fm) (N : Addr → Option Obj) : Fm := { F with W := fun a => match N a with | some o => some (.priv o) | none => F.W a }
theorem St.adopt {env : Env} {M : AS} {B : Heap} {F : Fm} {σ : Sig} {s : Shared} {h' : Heap} (S : St g ft env M B F σ s.heap) (iv : Inv g s) (k : Kp g.tab s.heap h') (N : Addr → Option Obj) (hN : ∀ a o, N a = some o → s.heap.get? a = none ∧ h'.get? a = some o) :
    St g ft env M B (F.plus N) σ h' ∧ (∀ a r, F.W a = some r → (F.plus N).W a = some r) ∧ Step g F (F.plus N) s.heap h' := by
  have S' := S.ext k
  have hW : ∀ a r, F.W a = some r → (F.plus N).W a = some r := by
    intro a r w
    show (match N a with | some o => some (Role.priv o) | none => F.W a) = some r
    cases e : N a with
    | none => exact w
    | some o => exact absurd (hN a o e).1 (S.low a r w).2.1
  have inv : ∀ a r, (F.plus N).W a = some r → F.W a = some r ∨ ∃ o, N a = some o ∧ r = .priv o := by
    intro a r w
    have w' : (match N a with | some o => some (Role.priv o) | none => F.W a) = some r := w
    cases e : N a with
    | none => rw [e] at w'; exact .inl w'
    | some o => rw [e] at w'; cases w'; exact .inr ⟨o, rfl, rfl⟩
  have av : ∀ a, (F.plus N).av M a → F.av M a ∨ s.heap.get? a = none := by
    intro a ha
    rcases ha with m | w
    · exact .inl (.inl m)
    · cases e : (F.plus N).W a with
      | none => exact absurd e w
      | some r =>
        rcases inv a r e with w | ⟨o, e', _⟩
        · exact .inl (.inr (by rw [w]; exact fun z => nomatch z))
        · exact .inr (hN a o e').1
  refine ⟨⟨S'.ns, hW _ _ S.loc, fun x c e => ?_, fun a o w => ?_, fun a r w => ?_, S.Mlow, S.Mtab, S'.keep, fun i x kd own d e hd => ?_⟩, hW, k.mono fun a e => .inl e, fun a t w => ?_⟩
  · obtain ⟨p, q⟩ := S'.cell x c e
    exact ⟨p.imp (hW _ _) id, q⟩
  · rcases inv a _ w with w | ⟨o', e', h⟩
    · exact S'.priv a o w
    · cases h; exact (hN a o e').2
  · rcases inv a r w with w | ⟨o, e', _⟩
    · exact S'.low a r w
    · have h1 := hN a o e'
      have ht : a ≠ g.TB := by rintro rfl; exact iv.tabSome h1.1
      refine ⟨?_, get_ne_none h1.2, ?_, ht⟩
      · cases q : B.get? a with
        | none => rfl
        | some ob => rw [S.keep a ob ht q] at h1; cases h1.1
      · cases q : g.G.get? a with
        | none => rfl
        | some ob => rw [iv.keep a ob ht q] at h1; cases h1.1
  · obtain ⟨v, ev, r⟩ := S.var i x kd own d e hd
    refine ⟨v, ev, ?_⟩
    rcases r with ⟨o, r⟩ | ⟨o, l, vs, a, e1, e2, e3, e4, e5, r⟩ | ⟨o, j, a, b, e1, e2, e3, e4, e5, e6⟩
    · exact .inl ⟨o, (r.fresh av).keep k (fun a e => .inl (e ▸ S.Mtab)) fun _ q => q⟩
    · refine .inr (.inl ⟨o, l, vs, a, e1, e2, hW _ _ e3, ?_, e5, (r.fresh av).keep k (fun a e => .inl (e ▸ S.Mtab)) fun _ q => q⟩)
      obtain ⟨m, hm⟩ := e4
      exact ⟨m, k a _ (S.low a _ e3).2.2.2 hm⟩
    · refine .inr (.inr ⟨o, j, a, b, e1, e2, hW _ _ e3, fun q => ?_, k b _ (fun q => e4 (S.tabAv b q)) e5, fun a' h => ?_⟩)
      rotate_left
      · rcases inv a' _ h with h | ⟨_, _, h⟩
        · exact e6 a' h
        · cases h
      rcases av b q with q | q
      · exact e4 q
      · rw [q] at e5; cases e5
  · cases e : (F.plus N).W a with
    | none => exact absurd e w
    | some r =>
      rcases inv a r e with w | ⟨o, e', _⟩
      · exact .inl (by rw [w]; exact fun z => nomatch z)
      · exact .inr (hN a o e').1

/-- no bound append of the own list i is named -/
noncomputable def noBm (ft : FT) (i : Nat) (σ : Sig) : Bool := (List.range ft.tbl.length).all fun j => match ft.tbl[j]? with | some (_, _, true) => (match σ.getD j none with | some (.int k) => k != (i : Int) | _ => true) | _ => true
theorem noBm_ne {i : Nat} {σ : Sig} (h : noBm ft i σ = true) {j k : Nat} {x : Str} {kd : NameKind} (e : ft.tbl[j]? = some (x, kd, true)) (hd : σ.getD j none = some (.int k)) : k ≠ i := by
  have hlt : j < ft.tbl.length := by rw [List.getElem?_eq_some_iff] at e; exact e.1
  have := List.all_eq_true.mp h j (List.mem_range.mpr hlt)
  rw [e] at this
  simp only [hd] at this
  rintro rfl
  simp at this
/-- an own name takes a list that the frame owns -/
theorem stOwn {env : Env} (eo : EnvOk ft env) {i : Nat} {x : Str} (hi : ft.tbl[i]? = some (x, .local, true)) {M : AS} {B : Heap} {F : Fm} {σ : Sig} {s : Shared} {l : List V} {vs : List Value} {a : Addr} {o : Obj} {A : Around} {Q : Unit → Shared → Prop} {E : Value → Shared → Prop}
    (iv : Inv g s) (S : St g ft env M B F σ s.heap) (hw : F.W a = some (.priv o)) (hl : Own s.heap a vs) (hz : l.length ≤ sizeLine) (r : RepL s.heap (F.av M) l vs) (hnb : noBm ft i σ = true)
    (q : ∀ s' F', Inv g s' → (∀ b, b ≠ a → F'.W b = F.W b) → Step g F F' s.heap s'.heap → St g ft env M B F' (σ.set i (some (.lst l))) s'.heap → Kp (fun b => b = env.locals) s.heap s'.heap → Q () s') : wpAny (model g.prog g.w) A (storeName env x (.ref a)) Q E s := by
  obtain ⟨hlk, hk⟩ := eo.tbl i x .local true hi
  have hkd : env.scope.kind = .function := by rw [eo.scope]; exact eo.kind
  have hko : env.kindOf x = some .local := by show env.scope.names.lookup x = some _; rw [eo.scope]; exact hlk
  refine wpAny_storeName_local hko S.ns (fun h' hn hs => ?_) (by rw [hkd]; rfl)
  have hL : h'.get? env.locals ≠ none := by obtain ⟨o, _, _, ho, _⟩ := hn; exact get_ne_none ho
  obtain ⟨p1, p2, p3, p4⟩ := S.poke S.loc hs hL
  have lo := S.low _ _ S.loc
  have ha : a ≠ env.locals := by rintro rfl; rw [S.loc] at hw; cases hw
  let F' : Fm := { F with W := fun b => if b = a then some (.own i) else F.W b, m := fun y => if y = x then some (.ref a) else F.m y }
  have w1 : ∀ b, b ≠ a → F'.W b = F.W b := fun b h => if_neg h
  have w2 : F'.W a = some (.own i) := if_pos rfl
  have av1 : ∀ b, F'.av M b → F.av M b := by
    intro b hb
    rcases hb with m | w
    · exact .inl m
    · by_cases e : b = a
      · subst e; exact .inr (by rw [hw]; exact fun z => nomatch z)
      · rw [w1 b e] at w; exact .inr w
  refine q _ F' (iv.same hs lo.2.2.1 lo.2.2.2 fun _ => Nat.succ_pos _) w1 ⟨p4.kp, fun b t w => .inl ?_⟩ ⟨hn, ?_, fun y c e => ?_, fun b o' w => ?_, fun b r' w => ?_, S.Mlow, S.Mtab, p2, fun j y k' own d' ej hd' => ?_⟩ (Kp.same hs rfl)
  · by_cases e : b = a
    · subst e; rw [hw]; exact fun z => nomatch z
    · rw [w1 b e] at w; exact w
  · rw [w1 _ (Ne.symm ha)]; exact S.loc
  · obtain ⟨p, hcell⟩ := S.cell y c e
    have hca : c ≠ a := by
      rintro rfl
      rcases p with w | ⟨_, m, _⟩
      · rw [hw] at w; cases w
      · exact S.Mlow _ m (S.low _ _ hw).1
    refine ⟨p.imp (fun w => by rw [w1 c hca]; exact w) id, hcell.sameBut hs ?_⟩
    rintro rfl
    rcases p with w | ⟨_, m, _⟩
    · rw [S.loc] at w; cases w
    · exact p1 _ (S.Mlow _ m) rfl
  · by_cases e : b = a
    · subst e; rw [w2] at w; cases w
    · rw [w1 b e] at w
      have : b ≠ env.locals := by rintro rfl; rw [S.loc] at w; cases w
      exact (hs.2 b this).trans (S.priv b o' w)
  · by_cases e : b = a
    · subst e; exact p3 b _ hw
    · rw [w1 b e] at w; exact p3 b r' w
  · rcases getD_set hd' with ⟨rfl, e⟩ | ⟨ne, hd'⟩
    · cases e
      rw [hi] at ej; cases ej
      refine ⟨.ref a, by simp [F'], .inr (.inl ⟨rfl, l, vs, a, rfl, rfl, w2, ?_, hz, (repLPoke S S.loc hs r).weaken av1⟩)⟩
      obtain ⟨m, hm⟩ := hl
      exact ⟨m, (hs.2 a ha).trans hm⟩
    · obtain ⟨v', ev, rv⟩ := S.var j y k' own d' ej hd'
      have hne : y ≠ x := by rintro rfl; exact ne (eo.uniq _ _ _ _ _ _ _ ej hi)
      refine ⟨v', ?_, rv.keep (X := fun a => a = env.locals) (Kp.same hs rfl) (fun a e => .inr (by rw [e, S.loc]; exact fun z => nomatch z)) av1 (fun b _ w => ?_) fun ho j e b h => ?_⟩
      · by_cases e : k' = .local
        · simp [e, hne, F'] at ev ⊢; exact ev
        · simp [e, F'] at ev ⊢; exact ev
      rotate_left
      · subst ho e
        have hji := noBm_ne hnb ej hd'
        by_cases q : b = a
        · subst q; rw [w2] at h; cases h; exact absurd rfl hji
        · rw [w1 b q] at h; exact h
      · have hba : b ≠ a := by rintro rfl; rw [hw] at w; cases w
        refine ⟨by rw [w1 b hba]; exact w, fun _ vs ⟨m, hm⟩ => ⟨m, (hs.2 b ?_).trans hm⟩⟩
        rintro rfl; rw [S.loc] at w; cases w

/-- x = [] where x is a name of a list of the frame's own -/
noncomputable def sOwn (ft : FT) (i : Nat) : Sig → Option (Fl × Sig) := fun σ => if noBm ft i σ then some (.next, σ.set i (some (.lst []))) else none
theorem ssOwn {i : Nat} {x : Str} {p p' pos : Pos} (hi : ft.tbl[i]? = some (x, .local, true)) : SoundS g n ft (.Assign [.Name x p] (.List [] p') pos) (sOwn ft i) := by
  (try unfold SoundS at *)
  intro env eo σ fl σ' hd A ao M B P F s Q E iv S pv q
  unfold sOwn at hd
  split at hd
  case isFalse => cases hd
  rename_i hnb
  cases hd
  refine wpAny_Assign_Name (wpAny_List (wpAny_items_nil ⟨Nat.zero_le _, ?_⟩))
  let o : Obj := { cls := .type "list", data := .seq ([] : List Value).toArray }
  have k : Kp g.tab s.heap (s.heap.push o) := Kp.push _ _
  have hg : (s.heap.push o).get? s.heap.objs.size = some o := Heap.get?_push_size _ rfl
  obtain ⟨S', hW, st⟩ := S.adopt iv k (fun a => if a = s.heap.objs.size then some o else none) (fun a o' e => by
    by_cases h : a = s.heap.objs.size
    · subst h; simp at e; subst e; exact ⟨size_none _, hg⟩
    · simp [h] at e)
  refine stOwn eo hi (s := { s with heap := s.heap.push o }) (l := []) (vs := []) (o := o) ((Ext.push g s o s.toks).inv iv) S' (by simp [Fm.plus]) ⟨0, hg⟩ (Nat.zero_le _) .nil hnb fun s' F' iv' w st' S'' _ => ?_
  refine q _ _ iv' (.inl ⟨rfl, F', fun a o' e => ?_, st.trans st', S''⟩)
  have h1 := pv a o' e
  have hne : a ≠ s.heap.objs.size := by rintro rfl; exact (S.low _ _ h1).2.1 (size_none _)
  rw [w a hne]; exact hW _ _ h1

/-- x, y = [], [] -/
noncomputable def sOwn2 (ft : FT) (i j : Nat) : Sig → Option (Fl × Sig) := fun σ => if noBm ft j σ = true ∧ noBm ft i (σ.set j (some (.lst []))) = true then some (.next, (σ.set j (some (.lst []))).set i (some (.lst []))) else none
theorem ssOwn2 {i j : Nat} {x y : Str} {p1 p2 p3 p4 tp tp' pos : Pos} {k1 k2 : Nat} (hi : ft.tbl[i]? = some (x, .local, true)) (hj : ft.tbl[j]? = some (y, .local, true))
    (hw : ∀ env : Env, env.scope = ft.scope → swappedStores [.Tuple [.Name x p1, .Name y p2] k1 tp] (.Tuple [.List [] p3, .List [] p4] k2 tp') env = pure (some [x, y])) :
    SoundS g n ft (.Assign [.Tuple [.Name x p1, .Name y p2] k1 tp] (.Tuple [.List [] p3, .List [] p4] k2 tp') pos) (sOwn2 ft i j) := by
  (try unfold SoundS at *)
  intro env eo σ fl σ' hd A ao M B P F s Q E iv S pv q
  unfold sOwn2 at hd
  split at hd
  case isFalse => cases hd
  rename_i hnb
  cases hd
  refine Assign_Tuple_swapped ?_ (by rfl) (hw env eo.scope)
  refine wpAny_Tuple (wpAny_items_cons (wpAny_List (wpAny_items_nil ⟨Nat.zero_le _, wpAny_items_cons (wpAny_List (wpAny_items_nil ⟨Nat.zero_le _, wpAny_items_nil ⟨by show 2 ≤ sizeLine; decide, ?_⟩⟩))⟩)))
  let o : Obj := { cls := .type "list", data := .seq ([] : List Value).toArray }
  have z1 : (s.heap.push o).objs.size = s.heap.objs.size + 1 := Heap.size_push ..
  let a1 := s.heap.objs.size
  let a2 := (s.heap.push o).objs.size
  let ot : Obj := { cls := .type "tuple", data := .seq [Value.ref a1, Value.ref a2].toArray }
  have z2 : ((s.heap.push o).push o).objs.size = s.heap.objs.size + 2 := by rw [Heap.size_push, z1]
  let h3 := ((s.heap.push o).push o).push ot
  have z3 : h3.objs.size = s.heap.objs.size + 3 := by show (((s.heap.push o).push o).push ot).objs.size = _; rw [Heap.size_push, z2]
  have k3 : ∀ a ob, s.heap.get? a = some ob → h3.get? a = some ob := fun a ob e => Heap.get?_push_of_some _ (Heap.get?_push_of_some _ (Heap.get?_push_of_some _ e))
  have g1 : h3.get? a1 = some o := Heap.get?_push_of_some _ (Heap.get?_push_of_some _ (Heap.get?_push_size _ rfl))
  have g2 : h3.get? a2 = some o := Heap.get?_push_of_some _ (Heap.get?_push_size _ rfl)
  have gt : h3.IsTuple ((s.heap.push o).push o).objs.size #[.ref a1, .ref a2] := ⟨_, Heap.get?_push_size _ rfl, rfl, _, rfl⟩
  have x₁ : Ext g s { s with heap := h3 } := Ext.heap k3
  refine wpAny_unpackItems_tuple (items := #[.ref a1, .ref a2]) ao.handled gt fun h4 hx => ?_
  have k4 : ∀ a ob, s.heap.get? a = some ob → h4.get? a = some ob := fun a ob e => hx a ob (by
    intro q
    have h6 : a = h3.objs.size := q
    rw [z3] at h6
    exact absurd (Heap.lt_size e) (by rw [h6]; exact Nat.not_lt.mpr (Nat.le_add_right _ _))) (k3 a ob e)
  have g1' : h4.get? a1 = some o := hx a1 o (by show s.heap.objs.size ≠ h3.objs.size; rw [z3]; exact Nat.ne_of_lt (Nat.lt_add_of_pos_right (by decide))) g1
  have g2' : h4.get? a2 = some o := hx a2 o (by show (s.heap.push o).objs.size ≠ h3.objs.size; rw [z3, z1]; exact fun z => by omega) g2
  have x₂ : Ext g s { s with heap := h4 } := Ext.heap k4
  have hne : a1 ≠ a2 := by show s.heap.objs.size ≠ (s.heap.push o).objs.size; rw [z1]; exact Nat.ne_of_lt (Nat.lt_succ_self _)
  have n2 : s.heap.get? a2 = none := by
    cases e : s.heap.get? a2 with
    | none => rfl
    | some ob => have h5 : (s.heap.push o).objs.size < s.heap.objs.size := Heap.lt_size e
                 rw [z1] at h5
                 exact absurd h5 (Nat.not_lt.mpr (Nat.le_succ _))
  obtain ⟨S', hW, st⟩ := S.adopt iv x₂.keep (fun a => if a = a1 ∨ a = a2 then some o else none) (fun a o' e => by
    by_cases h : a = a1 ∨ a = a2
    · rw [if_pos h] at e; cases e
      rcases h with rfl | rfl
      · exact ⟨size_none _, g1'⟩
      · exact ⟨n2, g2'⟩
    · rw [if_neg h] at e; cases e)
  have hw2 : (F.plus fun a => if a = a1 ∨ a = a2 then some o else none).W a2 = some (.priv o) := by simp [Fm.plus]
  have hw1 : (F.plus fun a => if a = a1 ∨ a = a2 then some o else none).W a1 = some (.priv o) := by simp [Fm.plus]
  show wpAny _ A (assignInOrder [bindName env y, bindName env x] [.ref a2, .ref a1]) _ _ _
  refine wpAny_bind (wpAny_holding (wpAny_bindName (stOwn eo hj (s := { s with heap := h4 }) (l := []) (vs := []) (o := o) (x₂.inv iv) S' hw2 ⟨0, g2'⟩ (Nat.zero_le _) .nil hnb.1 fun s₅ F₅ iv₅ w₅ st₅ S₅ kp₅ => ?_)))
  refine wpAny_bind (wpAny_holding (wpAny_bindName (stOwn eo hi (l := []) (vs := []) (o := o) iv₅ S₅ (by rw [w₅ a1 hne]; exact hw1) ⟨0, kp₅ a1 _ ?_ g1'⟩ (Nat.zero_le _) .nil hnb.2 fun s₆ F₆ iv₆ w₆ st₆ S₆ kp₆ => ?_)))
  · show ¬ (a1 = env.locals)
    intro e
    have := S'.loc
    rw [← e, hw1] at this; cases this
  · refine wpAny_pure (q _ _ iv₆ (.inl ⟨rfl, F₆, fun a o' e => ?_, (st.trans st₅).trans st₆, S₆⟩))
    have h1 := pv a o' e
    have e1 : a ≠ a1 := by rintro rfl; exact (S.low _ _ h1).2.1 (size_none _)
    have e2 : a ≠ a2 := by rintro rfl; exact (S.low _ _ h1).2.1 n2
    rw [w₆ a e1, w₅ a e2]; exact hW _ _ h1
end
end Mine
end

noncomputable section
open PySem PySem.W PyProof.Rows
namespace Mine

section
variable {g : Gl} {n : Nat} {ft : FT}

/-- the list of an own name is changed in its place -/
theorem St.setOwn {env : Env} (eo : EnvOk ft env) {M : AS} {B : Heap} {F : Fm} {σ : Sig} {h h' : Heap} {i : Nat} {x : Str} {k : NameKind} {d₀ : V} {a : Addr} {l : List V} {vs : List Value} (S : St g ft env M B F σ h) (hi : ft.tbl[i]? = some (x, k, true)) (hd : eNameL i σ = some d₀)
    (hv : (if k = .local then F.m x else F.cm x) = some (.ref a)) (hw : F.W a = some (.own i)) (hs : Heap.SameBut a h h') (hl : Own h' a vs) (hz : l.length ≤ sizeLine) (r : RepL h (F.av M) l vs) :
    St g ft env M B F (σ.set i (some (.lst l))) h' ∧ Step g F F h h' := by
  have ha : h'.get? a ≠ none := by obtain ⟨m, e⟩ := hl; exact get_ne_none e
  obtain ⟨p1, p2, p3, p4⟩ := S.poke hw hs ha
  have hL : env.locals ≠ a := by intro e; have := S.loc; rw [e, hw] at this; cases this
  refine ⟨⟨S.ns.sameBut hs hL, S.loc, fun y c e => ?_, fun b o w => ?_, p3, S.Mlow, S.Mtab, p2, fun j y k' own d' ej hd' => ?_⟩, p4⟩
  · obtain ⟨p, hcell⟩ := S.cell y c e
    refine ⟨p, hcell.sameBut hs ?_⟩
    rintro rfl
    rcases p with w | ⟨_, m, _⟩
    · rw [hw] at w; cases w
    · exact p1 _ (S.Mlow _ m) rfl
  · have : b ≠ a := by rintro rfl; rw [hw] at w; cases w
    exact (hs.2 b this).trans (S.priv b o w)
  · rcases getD_set hd' with ⟨rfl, e⟩ | ⟨ne, hd'⟩
    · cases e
      rw [hi] at ej; cases ej
      exact ⟨.ref a, hv, .inr (.inl ⟨rfl, l, vs, a, rfl, rfl, hw, hl, hz, repLPoke S hw hs r⟩)⟩
    · obtain ⟨v', ev, rv⟩ := S.var j y k' own d' ej hd'
      refine ⟨v', ev, rv.keep (X := fun b => b = a) (Kp.same hs rfl) (fun b e => .inr (by rw [e, hw]; exact fun z => nomatch z)) (fun _ q => q) (fun b _ w => ⟨w, fun ij vs ⟨m, hm⟩ => ⟨m, (hs.2 b ?_).trans hm⟩⟩) fun _ _ _ _ h => h⟩
      rintro rfl; rw [hw] at w; cases w; exact ne ij.symm

theorem ldOwn {env : Env} (eo : EnvOk ft env) {i : Nat} {x : Str} {k : NameKind} {pos : Pos} (hi : ft.tbl[i]? = some (x, k, true)) (hdb : (x == ("__debug__" : Str)) = false) {σ : Sig} {d : V} (hd : eNameL i σ = some d)
    {A : Around} {M : AS} {B : Heap} {F : Fm} {s : Shared} {Q : Value → Shared → Prop} {E : Value → Shared → Prop} (S : St g ft env M B F σ s.heap)
    (q : ∀ l vs a, d = .lst l → (if k = .local then F.m x else F.cm x) = some (.ref a) → F.W a = some (.own i) → Own s.heap a vs → l.length ≤ sizeLine → RepL s.heap (F.av M) l vs → Q (.ref a) s) :
    wpAny (model g.prog g.w) A (eval (.Name x pos) env) Q E s := by
  obtain ⟨l₀, rfl, hd'⟩ := eNameL_is hd
  obtain ⟨v₀, hv₀, r₀⟩ := S.var i x k true _ hi hd'
  obtain ⟨hl, hk⟩ := eo.tbl i x k true hi
  have hkd : env.scope.kind = .function := by rw [eo.scope]; exact eo.kind
  have hko : env.kindOf x = some k := by show env.scope.names.lookup x = some k; rw [eo.scope]; exact hl
  rcases r₀ with ⟨o, _⟩ | ⟨_, l, vs, a, el, rfl, hw, hown, hz, hr⟩ | ⟨_, _, _, _, el, _⟩
  · cases o
  rotate_left
  · cases el
  cases el
  rcases hk with rfl | ⟨_, o, _⟩
  · exact wpAny_Name (wpAny_loadName_local hkd hko S.ns (by simpa using hv₀) (q _ vs a rfl hv₀ hw hown hz hr)) hdb
  · cases o

theorem St.ownExt {env : Env} {M : AS} {B : Heap} {F : Fm} {σ : Sig} {s s' : Shared} (S : St g ft env M B F σ s.heap) (x : Ext g s s') {a : Addr} {r : Role} (hw : F.W a = some r) {vs : List Value} (o : Own s.heap a vs) : Own s'.heap a vs :=
  let ⟨m, e⟩ := o; ⟨m, x.keep a _ (S.low a r hw).2.2.2 e⟩

theorem flowNext {env : Env} {M : AS} {B : Heap} {P : Addr → Obj → Prop} {F F' : Fm} {σ : Sig} {s s' : Shared} {Q : Flow → Shared → Prop} (pv : Privs P F') (st : Step g F F' s.heap s'.heap) (S' : St g ft env M B F' σ s'.heap) (iv' : Inv g s')
    (q : ∀ fv s', Inv g s' → FlowOk g ft env M B P F s.heap .next σ fv s' → Q fv s') : Q .next s' := q _ _ iv' (.inl ⟨rfl, F', pv, st, S'⟩)

theorem own_update {h : Heap} {a : Addr} {vs : List Value} (o : Own h a vs) (f : Array Value → Array Value) {ws : List Value} (e : f vs.toArray = ws.toArray) : Own (h.update a (Obj.mapSeq f)) a ws := by
  obtain ⟨m, ho⟩ := o
  have := IsL.update (h := h) (l := a) (items := vs.toArray) (n := m) ho f
  rw [e] at this
  exact ⟨_, this⟩

/-- x.append(e) -/
noncomputable def sApp (i : Nat) (f : Sig → Option V) : Sig → Option (Fl × Sig) := fun σ => (eNameL i σ).bind fun a => (f σ).bind fun d => match a with
  | .lst l => if l.length ≤ 1000 then some (.next, σ.set i (some (.lst (l ++ [d])))) else none
  | _ => none
theorem ssApp {i : Nat} {x : Str} {k : NameKind} {e : Expr} {name : Str} {p ap cp pos : Pos} {f : Sig → Option V} (hn : name = "append") (hi : ft.tbl[i]? = some (x, k, true)) (hdb : (x == ("__debug__" : Str)) = false) (he : SoundE g n ft e f) (hst : ∀ env, starEach [e] env = [(false, eval e env)]) (hline : (ap.endLine == cp.line) = true)
    (hin : ∀ env : Env, env.scope = ft.scope → interactive env = false) : SoundS g n ft (.Expr (.Call (.Attribute (.Name x p) name ap) [e] [] cp) pos) (sApp i f) := by
  (try unfold SoundE at *); (try unfold SoundS at *)
  subst hn
  intro env eo σ fl σ' hd A ao M B P F s Q E iv S pv q
  obtain ⟨a, ha, hd⟩ := bind_some hd
  obtain ⟨d, hf, hd⟩ := bind_some hd
  refine wpAny_Expr ?_ (hin env eo.scope) (by rfl)
  refine wpAny_Call_method_lateS (by rfl) (by rw [hst]; rfl) hline (ldOwn eo hi hdb ha S fun l vs b e1 hv hw hown hz hr => ?_)
  subst e1
  simp only at hd
  split at hd
  · rename_i hz'
    cases hd
    obtain ⟨m, hm⟩ := hown
    refine ⟨"list", "list.append", PySem.F.plainAttrs_list, PySem.F.slot_list_append, PySem.F.type_list_append, ⟨_, hm, rfl⟩, fun _ e => by cases e; exact ⟨_, hm, rfl⟩, ?_⟩
    rw [hst]
    refine PySem.P.append_list (he env eo σ d hf A ao M B F s _ E iv S fun v s₁ x₁ r => ?_)
    have iv₁ := x₁.inv iv
    have S₁ := S.extE x₁
    obtain ⟨m₁, hm₁⟩ := S.ownExt x₁ hw ⟨m, hm⟩
    refine ⟨vs.toArray, m₁, by rw [List.size_toArray, hr.length]; exact hz, hm₁, ?_⟩
    have o' := own_update (f := fun xs => xs.push v) (ws := vs ++ [v]) ⟨m₁, hm₁⟩ (by simp)
    have sb := Heap.SameBut.update s₁.heap b (Obj.mapSeq fun xs => xs.push v)
    obtain ⟨S', st⟩ := S₁.setOwn eo hi ha hv hw sb o' (l := l ++ [d]) (by rw [List.length_append, sizeLine_is]; simp; omega) ((S.repLExt x₁ hr).snoc r)
    have lo := S.low _ _ hw
    exact flowNext pv ((x₁.step F).trans st) S' (iv₁.same (t := s₁.toks) sb lo.2.2.1 lo.2.2.2) q
  · cases hd

/-- x.pop(), where what is taken is no object -/
noncomputable def sPop (i : Nat) : Sig → Option (Fl × Sig) := fun σ => (eNameL i σ).bind fun a => match a with
  | .lst l => match l.getLast? with
    | some (.str _) => some (.next, σ.set i (some (.lst l.dropLast)))
    | _ => none
  | _ => none
theorem ssPop {i : Nat} {x : Str} {k : NameKind} {name : Str} {p ap cp pos : Pos} (hn : name = "pop") (hi : ft.tbl[i]? = some (x, k, true)) (hdb : (x == ("__debug__" : Str)) = false) (hline : (ap.endLine == cp.line) = true)
    (hin : ∀ env : Env, env.scope = ft.scope → interactive env = false) : SoundS g n ft (.Expr (.Call (.Attribute (.Name x p) name ap) [] [] cp) pos) (sPop i) := by
  (try unfold SoundS at *)
  subst hn
  intro env eo σ fl σ' hd A ao M B P F s Q E iv S pv q
  obtain ⟨a, ha, hd⟩ := bind_some hd
  refine wpAny_Expr ?_ (hin env eo.scope) (by rfl)
  refine wpAny_Call_method_lateS (by rfl) (by rfl) hline (ldOwn eo hi hdb ha S fun l vs b e1 hv hw hown hz hr => ?_)
  subst e1
  simp only at hd
  split at hd
  · rename_i y hy
    cases hd
    obtain ⟨m, hm⟩ := hown
    refine ⟨"list", "list.pop", PySem.F.plainAttrs_list, PySem.F.slot_list_pop, PySem.F.type_list_pop, ⟨_, hm, rfl⟩, fun _ e => by cases e; exact ⟨_, hm, rfl⟩, ?_⟩
    rw [List.getLast?_eq_getElem?] at hy
    obtain ⟨v, hvv, rv⟩ := hr.getElem? hy
    have o' := own_update (f := fun xs => xs.eraseIdxIfInBounds (vs.toArray.size - 1)) (ws := vs.dropLast) ⟨m, hm⟩ (by simp)
    have sb := Heap.SameBut.update s.heap b (Obj.mapSeq fun xs => xs.eraseIdxIfInBounds (vs.toArray.size - 1))
    refine PySem.P.pop_list hm (y := v) (by rw [List.size_toArray, hr.length]; simpa using hvv) ?_ (by rw [List.size_toArray, hr.length]; exact hz)
    have hr' : RepL s.heap (F.av M) l.dropLast vs.dropLast := by
      rw [List.dropLast_eq_take, List.dropLast_eq_take, hr.length]
      exact hr.take _
    obtain ⟨S', st⟩ := S.setOwn eo hi ha hv hw sb o' (l := l.dropLast) (by rw [List.length_dropLast]; omega) hr'
    have lo := S.low _ _ hw
    cases rv with
    | str _ t hs => exact flowNext pv st S' (iv.same (t := s.toks) sb lo.2.2.1 lo.2.2.2) q
  · cases hd

/-- y = x for an own x that is no more named -/
noncomputable def sMove (j i : Nat) : Sig → Option (Fl × Sig) := fun σ => (eNameL i σ).map fun d => (.next, (σ.set i none).set j (some d))
end
end Mine
end

noncomputable section
open PySem PySem.W PyProof.Rows
namespace Mine

section
variable {g : Gl} {n : Nat} {ft : FT}

noncomputable def iterNames : List String := ["list_iterator", "tuple_iterator", "range_iterator"]
theorem letOwned_any {target : Expr} {I : Addr} {o : Obj} {v : Value} {T : String} {A : Around} {s : Shared} {Q : Unit → Shared → Prop} {E : Value → Shared → Prop} (ho : s.heap.get? I = some o) (hc : o.cls = .type T) (hT : T ∈ iterNames) (q : Q () s) : wpAny (model g.prog g.w) A (letOwnedTupleGo target (.ref I) v) Q E s := by
  have key : ∀ a : Addr, wpAny (model g.prog g.w) A (do
      let o ← load I
      match o.cls, o.data with
      | .type n, .fields vs =>
        if (["enumerate", "zip", "dict_itemiterator", "dict_reverseitemiterator", "odict_iterator", "itertools.zip_longest", "itertools.pairwise"].contains n && vs[0]? == some (rawInt a)) = true then
          rule "for.unpacks-the-owned-tuple"
          updateField I 0 .none
        else pure ()
      | _, _ => pure () : Sem Unit) Q E s := by
    intro a
    refine wpAny_bind (wpAny_load ho ?_)
    rw [hc]
    split
    · rename_i n vs e1 e2
      cases e1
      have : (["enumerate", "zip", "dict_itemiterator", "dict_reverseitemiterator", "odict_iterator", "itertools.zip_longest", "itertools.pairwise"].contains T) = false := by
        simp only [iterNames, List.mem_cons, List.not_mem_nil, or_false] at hT
        rcases hT with rfl | rfl | rfl <;> decide
      rw [this]
      exact wpAny_pure q
    · exact wpAny_pure q
  unfold letOwnedTupleGo
  split
  · cases v with
    | ref a => exact key a
    | _ => exact wpAny_pure q
  · cases v with
    | ref a => exact key a
    | _ => exact wpAny_pure q
  · exact wpAny_pure q

theorem forLoopC {prog : Program} {w : World} {A : Around} {s : Shared} {R : Result → Shared → Prop} {target body env} {it : Value} (I : Nat → Shared → Prop)
    (turn : ∀ n s, I n s → ∀ E, wpAny (model prog w) A (pyNext it) (fun r s₁ => match r with
      | none => R (.ok .next) s₁
      | some v => ∀ E, wpAny (model prog w) A (letOwnedTupleGo target it v) (fun _ s₁' => ∀ E, wpAny (model prog w) A (assign target env v) (fun _ s₂ => ∀ E, wpAny (model prog w) A (execs body env) (fun f s₃ => match f with
          | .next | .cont => ∃ m, m < n ∧ I m s₃
          | .brk => R (.ok .next) s₃
          | .ret v => R (.ok (.ret v)) s₃) E s₂) E s₁') E s₁) E s)
    (n : Nat) (h : I n s) : codeAny (model prog w) A (.forLoop target it body [] env) R s := by
  refine codeAny_loop' rfl I (fun n s hI => ?_) n h
  show wpAny _ _ ((forTurn target it body [] env).onRaise (fun x => do noteFrame x env; theTreesLotGoes x)) _ _ s
  refine wpAny_noted ?_
  simp only [forTurn]
  refine wpAny_bind (wpAny_standAt (wpAny_bind (wpAny_onRaise (wpAny_mono (turn n s hI (notedBy (model prog w) A env fun e s' => R (.error e) s')) (fun r s₁ h₁ => ?_) fun _ _ h' => wpAny_standAt h'))))
  cases r with
  | none => exact wpAny_pure (.inr ⟨rfl, codeAny_block (wpAny_execs_nil h₁)⟩)
  | some v =>
    refine wpAny_bind (wpAny_mono (h₁ _) (fun _ s₁' h₁' => wpAny_bind (wpAny_mono (h₁' _) (fun _ s₂ h₂ => wpAny_bind (wpAny_mono (h₂ _) (fun f s₃ h₃ => ?_) fun _ _ h' => h')) fun _ _ h' => h')) fun _ _ h' => h')
    cases f with
    | next => exact wpAny_pure (.inl ⟨rfl, h₃⟩)
    | cont => exact wpAny_pure (.inl ⟨rfl, h₃⟩)
    | brk => exact wpAny_pure h₃
    | ret v => exact wpAny_pure h₃
end
end Mine
end

noncomputable section
open PySem PySem.W PyProof.Rows
namespace Mine

section
variable {g : Gl} {n : Nat} {ft : FT}

/- what is iterated -/
structure ItOk (g : Gl) (av : AS) (h h' : Heap) (I : Addr) (fp : List Addr) (P : Nat → Value → Prop) (StI : Nat → Heap → Prop) (l : List V) : Prop where
  walks : ∀ A' : Around, A'.handled = none → Walks g.prog g.w A' I fp [I] l.length P StI
  start : StI 0 h'
  fresh : h.get? I = none
  fps : ∀ b ∈ fp, b ≠ I → ¬ av b ∧ ∃ o, h'.get? b = some o
  has : ∀ i h, StI i h → ∃ o T, h.get? I = some o ∧ o.cls = .type T ∧ T ∈ iterNames
  item : ∀ i v, P i v → ∃ x, l[i]? = some x ∧ Rep h' (fun a => av a ∨ a = I) x v
@[irreducible] noncomputable def SoundI (g : Gl) (n : Nat) (ft : FT) (e : Expr) (f : Sig → Option (List V)) : Prop :=
  ∀ (env : Env), EnvOk ft env → ∀ (σ : Sig) (l : List V), f σ = some l → ∀ (A : Around), AOk n A → ∀ (M : AS) (B : Heap) (F : Fm) (s : Shared) (Q : Value → Shared → Prop) (E : Value → Shared → Prop), Inv g s → St g ft env M B F σ s.heap →
    (∀ I s' fp P StI, Ext g s s' → ItOk g (F.av M) s.heap s'.heap I fp P StI l → Q (.ref I) s') → wpAny (model g.prog g.w) A (eval e env) (fun x s₁ => wpAny (model g.prog g.w) A (pyIter x) Q E s₁) E s

noncomputable def vSeq : V → Option (List V)
  | .lst l => some l
  | .tup l => some l
  | _ => none
noncomputable def iSeq (f : Sig → Option V) : Sig → Option (List V) := fun σ => (f σ).bind vSeq
theorem siSeq {e : Expr} {f : Sig → Option V} (he : SoundE g n ft e f) : SoundI g n ft e (iSeq f) := by
  (try unfold SoundE at *); (try unfold SoundI at *)
  intro env eo σ l hd A ao M B F s Q E iv S q
  obtain ⟨d, hf, hd⟩ := bind_some hd
  refine he env eo σ d hf A ao M B F s _ E iv S fun v s₁ x₁ r => ?_
  have iv₁ := x₁.inv iv
  have S₁ := S.extE x₁
  have frI : s.heap.get? s₁.heap.objs.size = none := by
    cases e : s.heap.get? s₁.heap.objs.size with
    | none => rfl
    | some o =>
      by_cases t : s₁.heap.objs.size = g.TB
      · exact absurd (size_none s₁.heap) (by rw [t]; exact iv₁.tabSome)
      · exact absurd (Heap.lt_size (x₁.keep _ o t e)) (Nat.lt_irrefl _)
  cases r <;> (try (simp [vSeq] at hd; done))
  case tup l' vs a hm hl hr =>
    cases hd
    have ha : a ≠ s₁.heap.objs.size := by obtain ⟨m, e⟩ := hl; exact Nat.ne_of_lt (Heap.lt_size e)
    refine wpAny_pyIter_tuple hl.isTuple (q _ _ [s₁.heap.objs.size, a] (fun i v => vs.toArray[i]? = some v) (fun i h => h.IsTupleIter s₁.heap.objs.size a i ∧ h.IsTuple a vs.toArray) (x₁.trans (Ext.push g s₁ _ s₁.toks)) ⟨fun A' hh => ?_, ⟨⟨_, Heap.get?_push_size _ rfl, rfl, rfl⟩, ?_⟩, frI, fun b hb hne => ?_, fun i h st => ?_, fun i v hv => ?_⟩)
    · have := Walks.tuple (prog := g.prog) (w := g.w) (A := A') hh s₁.heap.objs.size a ha vs.toArray
      have e2 : vs.toArray.size = _ := (List.size_toArray ..).trans hr.length
      rw [e2] at this; exact this
    · obtain ⟨o, e, r⟩ := hl.isTuple; exact ⟨o, Heap.get?_push_of_some _ e, r⟩
    · simp only [List.mem_cons, List.not_mem_nil, or_false] at hb
      rcases hb with rfl | rfl
      · exact absurd rfl hne
      · obtain ⟨m, e⟩ := hl; exact ⟨hm, _, Heap.get?_push_of_some _ e⟩
    · obtain ⟨⟨o, ho, hc, _⟩, _⟩ := st; exact ⟨o, _, ho, hc, by simp [iterNames]⟩
    · obtain ⟨x, hx, rx⟩ := hr.ofValue (by simpa using hv)
      exact ⟨x, hx, (rx.fresh (M' := fun a => F.av M a ∨ a = s₁.heap.objs.size) (fun a h => h.imp id (fun e => e ▸ size_none _))).keep (Kp.push (X := g.tab) _ _) (fun a e => .inl (.inl (e ▸ S.Mtab))) fun _ q => q⟩
  case lst l' vs a hm hl hz hr =>
    cases hd
    have ha : a ≠ s₁.heap.objs.size := by obtain ⟨o, e, _⟩ := hl; exact Nat.ne_of_lt (Heap.lt_size e)
    refine wpAny_pyIter_list hl (q _ _ [s₁.heap.objs.size, a] (fun i v => vs.toArray[i]? = some v) (fun i h => h.IsListIter s₁.heap.objs.size a i ∧ h.IsList a vs.toArray) (x₁.trans (Ext.push g s₁ _ s₁.toks)) ⟨fun A' hh => ?_, ⟨⟨_, Heap.get?_push_size _ rfl, rfl, rfl⟩, hl.push _⟩, frI, fun b hb hne => ?_, fun i h st => ?_, fun i v hv => ?_⟩)
    · have := Walks.list (prog := g.prog) (w := g.w) (A := A') hh s₁.heap.objs.size a ha vs.toArray
      have e2 : vs.toArray.size = _ := (List.size_toArray ..).trans hr.length
      rw [e2] at this; exact this
    · simp only [List.mem_cons, List.not_mem_nil, or_false] at hb
      rcases hb with rfl | rfl
      · exact absurd rfl hne
      · obtain ⟨o, e, _⟩ := hl; exact ⟨hm, _, Heap.get?_push_of_some _ e⟩
    · obtain ⟨⟨o, ho, hc, _⟩, _⟩ := st; exact ⟨o, _, ho, hc, by simp [iterNames]⟩
    · obtain ⟨x, hx, rx⟩ := hr.ofValue (by simpa using hv)
      exact ⟨x, hx, (rx.fresh (M' := fun a => F.av M a ∨ a = s₁.heap.objs.size) (fun a h => h.imp id (fun e => e ▸ size_none _))).keep (Kp.push (X := g.tab) _ _) (fun a e => .inl (.inl (e ▸ S.Mtab))) fun _ q => q⟩

/- range -/
noncomputable def rangeOf (a b c : Int) : List Int := (List.range (Builtin.Range.rangeSize a b c).toNat).map fun (i : Nat) => a + (i : Int) * c
noncomputable def rOk (a b : Int) : Bool := decide (a.natAbs ≤ 1000) && decide (b.natAbs ≤ 1000)
theorem rOk_one {a b : Int} (h : rOk a b = true) : Builtin.Range.small a b 1 = true := by
  simp only [rOk, Bool.and_eq_true, decide_eq_true_eq] at h
  exact small_one (by omega) (by omega) (by omega) (by omega)
theorem rOk_down {a b : Int} (h : rOk a b = true) : Builtin.Range.small a b (-1) = true := by
  simp only [rOk, Bool.and_eq_true, decide_eq_true_eq] at h
  exact small_down (by omega) (by omega) (by omega) (by omega)
noncomputable def vRange : List V → Option (List Int)
  | [.int b] => if rOk 0 b = true then some (rangeOf 0 b 1) else none
  | [.int a, .int b] => if rOk a b = true then some (rangeOf a b 1) else none
  | [.int a, .int b, .int c] => if rOk a b = true ∧ c = -1 then some (rangeOf a b c) else none
  | _ => none
theorem rangeSize_nonneg (a b c : Int) (hc : c = 1 ∨ c = -1) : 0 ≤ Builtin.Range.rangeSize a b c := by
  unfold Builtin.Range.rangeSize
  rcases hc with rfl | rfl
  · simp; split <;> omega
  · simp; split <;> omega
/-- range(..) made: the object stands -/
theorem mkRange {l : List V} {ns : List Int} (h : vRange l = some ns) {A : Around} {av : AS} {s : Shared} {vals : List Value} {Q : Value → Shared → Prop} {E : Value → Shared → Prop} (r : RepL s.heap av l vals)
    (q : ∀ a b c t u v s', Ext g s s' → (∃ o, s'.heap = s.heap.push o) → IsRange s'.heap s.heap.objs.size a b c t u v → Builtin.Range.small a b c = true → ns = rangeOf a b c → 0 ≤ Builtin.Range.rangeSize a b c → Q (.ref s.heap.objs.size) s') : wpAny (model g.prog g.w) A (call (.type "range") vals) Q E s := by
  unfold vRange at h
  split at h
  · split at h
    · rename_i b hs
      replace hs := rOk_one hs
      cases h
      cases r with
      | cons h1 hr => cases hr; cases h1
                      exact call_range_1 (q _ _ _ _ _ _ _ (Ext.push g s _ _ fun _ => Nat.succ_pos _) ⟨_, rfl⟩ (Heap.get?_push_size _ rfl) hs rfl (rangeSize_nonneg _ _ _ (.inl rfl)))
    · cases h
  · split at h
    · rename_i a b hs
      replace hs := rOk_one hs
      cases h
      cases r with
      | cons h1 hr => cases hr with
        | cons h2 hr => cases hr; cases h1; cases h2
                        exact call_range_2 (q _ _ _ _ _ _ _ (Ext.push g s _ _ fun _ => Nat.succ_pos _) ⟨_, rfl⟩ (Heap.get?_push_size _ rfl) hs rfl (rangeSize_nonneg _ _ _ (.inl rfl)))
    · cases h
  · split at h
    · rename_i a b c hs
      obtain ⟨hs, rfl⟩ := hs
      replace hs := rOk_down hs
      cases h
      cases r with
      | cons h1 hr => cases hr with
        | cons h2 hr => cases hr with
          | cons h3 hr => cases hr; cases h1; cases h2; cases h3
                          exact call_range_3 (by decide) (q _ _ _ _ _ _ _ (Ext.push g s _ _) ⟨_, rfl⟩ (Heap.get?_push_size _ rfl) hs rfl (rangeSize_nonneg _ _ _ (.inr rfl))) (.inl (PyProof.noPylong_small (by decide)))
    · cases h
  · cases h
noncomputable def iRange (k : Sig → Option (List V)) : Sig → Option (List V) := fun σ => (k σ).bind fun l => (vRange l).map fun ns => ns.map .int
theorem siRange (G : GlB g) {x : Str} {p pos : Pos} {es : List Expr} {k : Sig → Option (List V)} (hx : x = "range") (hs : ft.scope.names.lookup x = some .globalImplicit) (hp : Plain es) (he : SoundEs g n ft es k) : SoundI g n ft (.Call (.Name x p) es [] pos) (iRange k) := by
  (try unfold SoundEs at *); (try unfold SoundI at *)
  subst hx
  intro env eo σ l hd A ao M B F s Q E iv S q
  obtain ⟨vs, hv, hd⟩ := bind_some hd
  cases hr : vRange vs with
  | none => rw [hr] at hd; cases hd
  | some ns =>
    rw [hr] at hd; cases hd
    refine wpAny_Call_ofName (ldBi G eo (v := .type "range") (by simp [builtinTab]) hs iv ?_ (by decide))
    obtain ⟨_, _, _, ha⟩ := hp env pos
    refine callWith_machine rfl ha (evalArgs_es hp (by unfold SoundEs; exact he) eo hv ao iv S fun ws s₁ x₁ r => ?_)
    refine mkRange hr r fun a b c t u v s₂ x₂ ⟨o, ho⟩ hR hsm e hnn => ?_
    have iv₁ := x₁.inv iv
    have iv₂ := x₂.inv iv₁
    have x := x₁.trans x₂
    have frI : s.heap.get? s₂.heap.objs.size = none := by
      cases e : s.heap.get? s₂.heap.objs.size with
      | none => rfl
      | some o =>
        by_cases t : s₂.heap.objs.size = g.TB
        · exact absurd (size_none s₂.heap) (by rw [t]; exact iv₂.tabSome)
        · exact absurd (Heap.lt_size (x.keep _ o t e)) (Nat.lt_irrefl _)
    have hnat : ((Builtin.Range.rangeSize a b c).toNat : Int) = Builtin.Range.rangeSize a b c := by omega
    refine wpAny_pyIter_range hR hsm (q _ _ [s₂.heap.objs.size] (fun i v => ∃ t, v = .int (a + i * c) t ∧ i < (Builtin.Range.rangeSize a b c).toNat) (fun i h => IsRangeIter h s₂.heap.objs.size (a + (i : Nat) * c) (((Builtin.Range.rangeSize a b c).toNat : Int) - (i : Nat)) c) (x.trans (Ext.push g s₂ _ s₂.toks)) ⟨fun A' hh => ?_, ?_, frI, fun b hb hne => ?_, fun i h st => ?_, fun i v hv => ?_⟩)
    · subst e
      rw [List.length_map, rangeOf, List.length_map, List.length_range]
      have W := Walks.range (prog := g.prog) (w := g.w) (A := A') hh s₂.heap.objs.size a c (Builtin.Range.rangeSize a b c).toNat
      exact ⟨W.sub, W.frame, fun i s Q E hi st hQ => W.item i s Q E hi st fun v h' tk ⟨t, hv⟩ => hQ v h' tk ⟨t, hv, hi⟩, W.done, W.self⟩
    · show Heap.get? _ _ = _
      rw [Heap.get?_push_size _ rfl]
      simp [hnat]
    · simp only [List.mem_cons, List.not_mem_nil, or_false] at hb
      exact absurd hb hne
    · exact ⟨_, _, st, rfl, by simp [iterNames]⟩
    · obtain ⟨t, rfl, hi⟩ := hv
      refine ⟨.int (a + i * c), ?_, .int _ _⟩
      subst e
      simp [rangeOf, hi]
end
end Mine
end

noncomputable section
open PySem PySem.W PyProof.Rows
namespace Mine

section
variable {g : Gl} {n : Nat} {ft : FT}

theorem avStep {M : AS} {F F' : Fm} {h h' : Heap} (st : Step g F F' h h') (tb : M g.TB) : ∀ a, F'.av M a → F.av M a ∨ h.get? a = none := by
  intro a ha
  rcases ha with m | w
  · exact .inl (.inl m)
  · by_cases t : a = g.TB
    · exact .inl (.inl (t ▸ tb))
    · rcases st.gr a t w with w | e
      · exact .inl (.inr w)
      · exact .inr e
theorem chAv {M : AS} {F : Fm} (tb : M g.TB) : ∀ a, F.ch g a → F.av M a := fun _ e => e.elim (fun q => .inl (q ▸ tb)) .inr
theorem repStep {M : AS} {F F' : Fm} {h h' : Heap} (st : Step g F F' h h') (tb : M g.TB) {d : V} {v : Value} (r : Rep h (F.av M) d v) : Rep h' (F'.av M) d v := by
  have r1 := r.fresh (M' := fun a => F.av M a ∨ F'.av M a) fun a ha => ha.elim .inl (avStep st tb a)
  exact r1.keep st.kp (fun a e => .inl (chAv tb a e)) fun a e => .inr e
theorem repLStep {M : AS} {F F' : Fm} {h h' : Heap} (st : Step g F F' h h') (tb : M g.TB) {d : List V} {v : List Value} (r : RepL h (F.av M) d v) : RepL h' (F'.av M) d v := by
  have r1 := r.fresh (M' := fun a => F.av M a ∨ F'.av M a) fun a ha => ha.elim .inl (avStep st tb a)
  exact r1.keep st.kp (fun a e => .inl (chAv tb a e)) fun a e => .inr e

/-- a private object is changed -/
theorem St.repriv {env : Env} {M : AS} {B : Heap} {F : Fm} {σ : Sig} {h h' : Heap} {I : Addr} {o o' : Obj} (S : St g ft env M B F σ h) (hw : F.W I = some (.priv o)) (k : Kp (fun a => a = I) h h') (ho : h'.get? I = some o') :
    St g ft env M B { F with W := fun a => if a = I then some (.priv o') else F.W a } σ h' ∧ Step g F { F with W := fun a => if a = I then some (.priv o') else F.W a } h h' := by
  let F' : Fm := { F with W := fun a => if a = I then some (.priv o') else F.W a }
  have w1 : ∀ b, b ≠ I → F'.W b = F.W b := fun b h => if_neg h
  have w2 : F'.W I = some (.priv o') := if_pos rfl
  have av1 : ∀ b, F'.av M b → F.av M b := by
    intro b hb
    rcases hb with m | w
    · exact .inl m
    · by_cases e : b = I
      · subst e; exact .inr (by rw [hw]; exact fun z => nomatch z)
      · rw [w1 b e] at w; exact .inr w
  have lo := S.low I _ hw
  have hL : env.locals ≠ I := by intro e; have := S.loc; rw [e, hw] at this; cases this
  have get : ∀ a ob, a ≠ I → h.get? a = some ob → h'.get? a = some ob := fun a ob n e => k a ob n e
  refine ⟨⟨get_ns S.ns fun ob e => get _ ob hL e, by rw [w1 _ hL]; exact S.loc, fun y c e => ?_, fun b ob w => ?_, fun b r w => ?_, S.Mlow, S.Mtab, fun a ob nt e => ?_, fun j y k' own d' ej hd' => ?_⟩, fun a ob nt e => ?_, fun a t w => .inl ?_⟩
  · obtain ⟨p, oc, hoc, hcd⟩ := S.cell y c e
    have hcI : c ≠ I := by
      rintro rfl
      rcases p with w | ⟨_, m, _⟩
      · rw [hw] at w; cases w
      · exact S.Mlow _ m lo.1
    exact ⟨p.imp (fun w => by rw [w1 c hcI]; exact w) id, oc, get c oc hcI hoc, hcd⟩
  · by_cases e : b = I
    · subst e; rw [w2] at w; cases w; exact ho
    · rw [w1 b e] at w; exact get b ob e (S.priv b ob w)
  · by_cases e : b = I
    · subst e; exact ⟨lo.1, get_ne_none ho, lo.2.2.1, lo.2.2.2⟩
    · rw [w1 b e] at w
      obtain ⟨a1, a2, a3, a4⟩ := S.low b r w
      exact ⟨a1, k.some e a2, a3, a4⟩
  · have : a ≠ I := by rintro rfl; rw [lo.1] at e; cases e
    exact get a ob this (S.keep a ob nt e)
  · obtain ⟨v', ev, rv⟩ := S.var j y k' own d' ej hd'
    refine ⟨v', ev, rv.keep k (fun b e => .inr (by rw [e, hw]; exact fun z => nomatch z)) av1 (fun b _ w => ?_) fun _ _ _ b h => ?_⟩
    rotate_left
    · by_cases e : b = I
      · subst e; rw [w2] at h; cases h
      · rw [w1 b e] at h; exact h
    have hbI : b ≠ I := by rintro rfl; rw [hw] at w; cases w
    · exact ⟨by rw [w1 b hbI]; exact w, fun _ vs ⟨m, hm⟩ => ⟨m, get b _ hbI hm⟩⟩
  · have : a ≠ I := by rintro rfl; exact nt (.inr (by rw [hw]; exact fun z => nomatch z))
    exact get a ob this e
  · by_cases e : a = I
    · subst e; rw [hw]; exact fun z => nomatch z
    · rw [w1 a e] at w; exact w

/- targets -/
noncomputable def aName (i : Nat) : V → Sig → Option Sig := fun d σ => some (σ.set i (some d))
theorem saName {i : Nat} {x : Str} {k : NameKind} {p : Pos} (hi : ft.tbl[i]? = some (x, k, false)) (hw : k ≠ .local → ft.wc = true ∧ k = .cell) : SoundA g n ft (.Name x p) (aName i) := by
  (try unfold SoundA at *)
  intro env eo σ d σ' hd A ao M B F s v Q E iv S r q
  cases hd
  exact wpAny_assign_Name (stName eo hi hw iv S r fun s' F' iv' hW st S' => q s' F' iv' (fun a r w => by rw [hW]; exact w) st S')

@[irreducible] noncomputable def SoundAs (g : Gl) (n : Nat) (ft : FT) (ts : List Expr) (f : List V → Sig → Option Sig) : Prop :=
  ∀ (env : Env), EnvOk ft env → ∀ (σ : Sig) (d : List V) (σ' : Sig), f d σ = some σ' → ∀ (A : Around), AOk n A → ∀ (M : AS) (B : Heap) (F : Fm) (s : Shared) (vs : List Value) (Q : Unit → Shared → Prop) (E : Value → Shared → Prop), Inv g s → St g ft env M B F σ s.heap → RepL s.heap (F.av M) d vs →
    (∀ s' F', Inv g s' → (∀ a r, F.W a = some r → F'.W a = some r) → Step g F F' s.heap s'.heap → St g ft env M B F' σ' s'.heap → Q () s') → wpAny (model g.prog g.w) A (assignInOrder ((assignEach ts env).map (·.2)) vs) Q E s
noncomputable def asNil : List V → Sig → Option Sig := fun l σ => match l with | [] => some σ | _ :: _ => none
noncomputable def asCons (f : V → Sig → Option Sig) (h : List V → Sig → Option Sig) : List V → Sig → Option Sig := fun l σ => match l with | [] => none | d :: l => (f d σ).bind fun σ => h l σ
theorem sasNil : SoundAs g n ft [] asNil := by
  (try unfold SoundAs at *)
  intro env eo σ d σ' hd A ao M B F s vs Q E iv S r q
  unfold asNil at hd
  split at hd
  · cases hd; cases r
    exact wpAny_pure (q s F iv (fun _ _ e => e) (Step.refl _ _ _) S)
  · cases hd
theorem sasCons {t : Expr} {ts : List Expr} {f : V → Sig → Option Sig} {h : List V → Sig → Option Sig} (hf : SoundA g n ft t f) (hh : SoundAs g n ft ts h) (ht : ∀ env, assignEach (t :: ts) env = (false, assign t env) :: assignEach ts env) : SoundAs g n ft (t :: ts) (asCons f h) := by
  (try unfold SoundA at *); (try unfold SoundAs at *)
  intro env eo σ d σ' hd A ao M B F s vs Q E iv S r q
  unfold asCons at hd
  split at hd
  · cases hd
  · obtain ⟨σ₁, h1, hd⟩ := bind_some hd
    cases r with
    | cons hx hr =>
      rw [ht]
      refine wpAny_bind (wpAny_holding (hf env eo σ _ σ₁ h1 A ao M B F s _ _ E iv S hx fun s₁ F₁ iv₁ w₁ st₁ S₁ => ?_))
      exact hh env eo σ₁ _ σ' hd A ao M B F₁ s₁ _ Q E iv₁ S₁ (repLStep st₁ S.Mtab hr) fun s₂ F₂ iv₂ w₂ st₂ S₂ => q s₂ F₂ iv₂ (fun a r w => w₂ a r (w₁ a r w)) (st₁.trans st₂) S₂
noncomputable def aTup (k : Nat) (f : List V → Sig → Option Sig) : V → Sig → Option Sig := fun d σ => match d with
  | .tup l => if l.length = k then f l σ else none
  | _ => none
theorem saTup {ts : List Expr} {x1 : Nat} {p : Pos} {k : Nat} {f : List V → Sig → Option Sig} (h : SoundAs g n ft ts f) (hn : ∀ env, (assignEach ts env).length = k) (hstar : ∀ env, (assignEach ts env).findIdx? (·.1) = none) : SoundA g n ft (.Tuple ts x1 p) (aTup k f) := by
  (try unfold SoundA at *); (try unfold SoundAs at *)
  intro env eo σ d σ' hd A ao M B F s v Q E iv S r q
  cases r <;> (try (simp [aTup] at hd; done))
  rename_i l vs a hm hl hr
  simp only [aTup] at hd
  split at hd
  · rename_i hk
    have hsz : vs.toArray.size = k := (List.size_toArray ..).trans (hr.length.trans hk)
    refine wpAny_assign_Tuple ao.handled hl.isTuple ((hn env).trans hsz.symm) (hstar env) fun h' hx => ?_
    have x : Ext g s { s with heap := h' } := Ext.heap fun b o e => hx b o (Nat.ne_of_lt (Heap.lt_size e)) e
    exact h env eo σ l σ' hd A ao M B F _ _ Q E (x.inv iv) (S.extE x) (S.repLExt x hr) fun s' F' iv' w st S' => q s' F' iv' w ((x.step F).trans st) S'
  · cases hd

noncomputable def sAsgT (f : Sig → Option V) (h : V → Sig → Option Sig) : Sig → Option (Fl × Sig) := fun σ => (f σ).bind fun d => (h d σ).map fun σ' => (.next, σ')
theorem ssAsgT {ts : List Expr} {k : Nat} {tp pos : Pos} {e : Expr} {f : Sig → Option V} {h : V → Sig → Option Sig} (he : SoundE g n ft e f) (ht : SoundA g n ft (.Tuple ts k tp) h) (hs : ∀ env, swapsWithSole [.Tuple ts k tp] e pos.line env = pure false)
    (hw : ∀ env : Env, env.scope = ft.scope → swappedStores [.Tuple ts k tp] e env = pure none) : SoundS g n ft (.Assign [.Tuple ts k tp] e pos) (sAsgT f h) := by
  (try unfold SoundE at *); (try unfold SoundS at *); (try unfold SoundA at *)
  intro env eo σ fl σ' hd A ao M B P F s Q E iv S pv q
  obtain ⟨d, hf, hd⟩ := bind_some hd
  cases hh : h d σ with
  | none => rw [hh] at hd; cases hd
  | some σ₁ =>
    rw [hh] at hd; cases hd
    refine Assign_Tuple (he env eo σ d hf A ao M B F s _ E iv S fun v s₁ x₁ r => ?_) (hs env) (hw env eo.scope)
    exact ht env eo σ d _ hh A ao M B F s₁ v _ E (x₁.inv iv) (S.extE x₁) r fun s₂ F₂ iv₂ w₂ st₂ S₂ => flowNext (pv.mono w₂) ((x₁.step F).trans st₂) S₂ iv₂ q

/-- names that take values, one by one -/
noncomputable def stAll : List Nat → List V → Sig → Option Sig
  | [], [], σ => some σ
  | i :: is, d :: ds, σ => stAll is ds (σ.set i (some d))
  | _, _, _ => none
theorem stNames {env : Env} (eo : EnvOk ft env) : ∀ (ns : List (Str × Nat)) (_ : ∀ p ∈ ns, ft.tbl[p.2]? = some (p.1, .local, false)) {M : AS} {B : Heap} {F : Fm} {σ σ' : Sig} {s : Shared} {ds : List V} {vs : List Value} {A : Around} {Q : Unit → Shared → Prop} {E : Value → Shared → Prop}
    (_ : stAll (ns.map (·.2)) ds σ = some σ') (_ : Inv g s) (_ : St g ft env M B F σ s.heap) (_ : RepL s.heap (F.av M) ds vs)
    (_ : ∀ s' F', Inv g s' → F'.W = F.W → Step g F F' s.heap s'.heap → St g ft env M B F' σ' s'.heap → Q () s'), wpAny (model g.prog g.w) A (assignInOrder ((ns.map (·.1)).map fun x => bindName env x) vs) Q E s
  | [], _, _, _, _, _, _, s, _, _, _, _, _, h, iv, S, r, q => by
    cases r with
    | nil => cases h; exact wpAny_pure (q s _ iv rfl (Step.refl _ _ _) S)
    | cons => cases h
  | (x, i) :: ns, hn, M, B, F, σ, σ', s, _, _, A, Q, E, h, iv, S, r, q => by
    cases r with
    | nil => cases h
    | cons hx hr =>
      refine wpAny_bind (wpAny_holding (wpAny_bindName (stName eo (hn _ (.head _)) (fun e => absurd rfl e) iv S hx fun s₁ F₁ iv₁ w₁ st₁ S₁ => ?_)))
      exact stNames eo ns (fun p hp => hn p (.tail _ hp)) h iv₁ S₁ (repLStep st₁ S.Mtab hr) fun s₂ F₂ iv₂ w₂ st₂ S₂ => q s₂ F₂ iv₂ (w₂.trans w₁) (st₁.trans st₂) S₂
theorem RepL.rev {h : Heap} {M : AS} {l : List V} {vs : List Value} (r : RepL h M l vs) : RepL h M l.reverse vs.reverse := r.reverse
/-- x, y, .. = a tuple's display: the stores go from behind -/
noncomputable def sAsgW (is : List Nat) (f : Sig → Option V) : Sig → Option (Fl × Sig) := fun σ => (f σ).bind fun d => match d with
  | .tup l => if l.length = is.length then (stAll is.reverse l.reverse σ).map fun σ' => (.next, σ') else none
  | _ => none
theorem ssAsgW {ts : List Expr} {k : Nat} {tp pos : Pos} {e : Expr} {f : Sig → Option V} (ns : List (Str × Nat)) (hn : ∀ p ∈ ns, ft.tbl[p.2]? = some (p.1, .local, false)) (he : SoundE g n ft e f) (hs : ∀ env, swapsWithSole [.Tuple ts k tp] e pos.line env = pure false)
    (hw : ∀ env : Env, env.scope = ft.scope → swappedStores [.Tuple ts k tp] e env = pure (some (ns.map (·.1)))) : SoundS g n ft (.Assign [.Tuple ts k tp] e pos) (sAsgW (ns.map (·.2)) f) := by
  (try unfold SoundE at *); (try unfold SoundS at *)
  intro env eo σ fl σ' hd A ao M B P F s Q E iv S pv q
  obtain ⟨d, hf, hd⟩ := bind_some hd
  cases d <;> (try (simp at hd; done))
  rename_i l
  simp only at hd
  split at hd
  · rename_i hlen
    cases hh : stAll (ns.map (·.2)).reverse l.reverse σ with
    | none => rw [hh] at hd; cases hd
    | some σ₁ =>
      rw [hh] at hd; cases hd
      refine Assign_Tuple_swapped (he env eo σ _ hf A ao M B F s _ E iv S fun v s₁ x₁ r => ?_) (hs env) (hw env eo.scope)
      cases r with
      | tup _ vs a hm hl hr =>
        have e2 : (ns.map (·.1)).length = vs.toArray.size := by
          have : vs.toArray.size = l.length := (List.size_toArray ..).trans hr.length
          rw [this, hlen]; simp
        rw [e2]
        refine wpAny_unpackItems_tuple ao.handled hl.isTuple fun h' hx => ?_
        have x : Ext g s₁ { s₁ with heap := h' } := Ext.heap fun b o e => hx b o (Nat.ne_of_lt (Heap.lt_size e)) e
        have iv₂ := x.inv (x₁.inv iv)
        have S₂ := (S.extE x₁).extE x
        have hr₂ := ((S.extE x₁).repLExt x hr).reverse
        have := stNames (g := g) (A := A) (E := E) (Q := fun _ => Q .next) eo ns.reverse (fun p hp => hn p (List.mem_reverse.mp hp)) (by rw [List.map_reverse]; exact hh) iv₂ S₂ hr₂ fun s₃ F₃ iv₃ w₃ st₃ S₃ =>
          flowNext (s := s) (pv.mono fun a r w => by rw [w₃]; exact w) (((x₁.trans x).step F).trans st₃) S₃ iv₃ q
        rw [List.map_reverse] at this
        exact this
  · cases hd
end
end Mine
end

noncomputable section
open PySem PySem.W PyProof.Rows
namespace Mine

section
variable {g : Gl} {n : Nat} {ft : FT}

/- for -/
noncomputable def forL (upd : V → Sig → Option Sig) (body : Sig → Option (Fl × Sig)) : List V → Sig → Option (Fl × Sig)
  | [], σ => some (.next, σ)
  | x :: xs, σ => (upd x σ).bind fun σ₁ => (body σ₁).bind fun p => match p with
    | (.next, σ₂) => forL upd body xs σ₂
    | (.cont, σ₂) => forL upd body xs σ₂
    | (.brk, σ₂) => some (.next, σ₂)
    | (.ret d, σ₂) => some (.ret d, σ₂)
noncomputable def sFor (it : Sig → Option (List V)) (upd : V → Sig → Option Sig) (body : Sig → Option (Fl × Sig)) : Sig → Option (Fl × Sig) := fun σ => (it σ).bind fun l => forL upd body l σ

/-- what holds between the turns -/
structure Turn (g : Gl) (ft : FT) (env : Env) (M : AS) (B : Heap) (P : Addr → Obj → Prop) (F : Fm) (h : Heap) (I : Addr) (StI : Nat → Heap → Prop) (i : Nat) (σ : Sig) (F' : Fm) (s : Shared) : Prop where
  inv : Inv g s
  it : StI i s.heap
  priv : ∃ o, F'.W I = some (.priv o)
  old : Privs P F'
  step : Step g F F' h s.heap
  st : St g ft env M B F' σ s.heap

theorem kpOne {h h' : Heap} {I : Addr} (k : ∀ b o, b ∉ [I] → h.get? b = some o → h'.get? b = some o) : Kp (fun a => a = I) h h' := fun a o n e => k a o (by simpa using n) e

/-- one item is fetched -/
theorem turnNext {env : Env} {M : AS} {B : Heap} {P : Addr → Obj → Prop} {F F' : Fm} {s s₁ : Shared} {I : Addr} {StI : Nat → Heap → Prop} {i : Nat} {σ : Sig} {h' : Heap} {tk : Tok} (hI : ∀ o, ¬ P I o) (T : Turn g ft env M B P F s.heap I StI i σ F' s₁)
    (k : ∀ b o, b ∉ [I] → s₁.heap.get? b = some o → h'.get? b = some o) {o' : Obj} (ho : h'.get? I = some o') (htk : 0 < tk) {j : Nat} (hst : StI j h') :
    ∃ F'', Turn g ft env M B P F s.heap I StI j σ F'' { s₁ with heap := h', toks := tk } ∧ F''.W I = some (.priv o') ∧ Step g F' F'' s₁.heap h' := by
  obtain ⟨o, hw⟩ := T.priv
  obtain ⟨S', st'⟩ := T.st.repriv hw (kpOne k) ho
  have lo := T.st.low I _ hw
  refine ⟨_, ⟨?_, hst, ⟨o', if_pos rfl⟩, fun a ob p => ?_, T.step.trans st', S'⟩, if_pos rfl, st'⟩
  · refine ⟨fun a ob nt e => ?_, ?_, T.inv.gens, T.inv.os, htk, T.inv.cb⟩
    · have : a ≠ I := by rintro rfl; rw [lo.2.2.1] at e; cases e
      exact k a ob (by simpa using this) (T.inv.keep a ob nt e)
    · obtain ⟨m, ht⟩ := T.inv.tab
      refine ⟨m, ?_⟩
      have hc : g.CB ≠ I := by
        intro e
        have hcb := T.inv.cb
        rw [e, lo.2.2.1] at hcb
        exact hcb rfl
      exact ht.but (fun b o n e => k b o (by simpa using n) e) hc (Ne.symm lo.2.2.2)
  · have h1 := T.old a ob p
    have : a ≠ I := by rintro rfl; exact hI _ p
    show (if a = I then _ else _) = _
    rw [if_neg this]; exact h1

theorem Inv.but {s : Shared} (iv : Inv g s) {B : Heap} {I : Addr} {h' : Heap} {tk : Tok} (lo : B.get? I = none ∧ s.heap.get? I ≠ none ∧ g.G.get? I = none ∧ I ≠ g.TB) (k : Kp (fun a => a = I) s.heap h') (htk : 0 < tk) : Inv g { s with heap := h', toks := tk } := by
  refine ⟨fun a ob nt e => ?_, ?_, iv.gens, iv.os, htk, iv.cb⟩
  · have : a ≠ I := by rintro rfl; rw [lo.2.2.1] at e; cases e
    exact k a ob this (iv.keep a ob nt e)
  · obtain ⟨m, ht⟩ := iv.tab
    have hc : g.CB ≠ I := by
      intro e
      have hcb := iv.cb
      rw [e, lo.2.2.1] at hcb
      exact hcb rfl
    exact ⟨m, ht.but (fun b o n e => k b o n e) hc (Ne.symm lo.2.2.2)⟩
theorem St.drop {env : Env} {M : AS} {B : Heap} {F : Fm} {σ : Sig} {h h' : Heap} {I : Addr} {o : Obj} (S : St g ft env M B F σ h) (hw : F.W I = some (.priv o)) (k : Kp (fun a => a = I) h h') :
    St g ft env M B { F with W := fun a => if a = I then none else F.W a } σ h' ∧ Step g F { F with W := fun a => if a = I then none else F.W a } h h' := by
  let F' : Fm := { F with W := fun a => if a = I then none else F.W a }
  have w1 : ∀ b, b ≠ I → F'.W b = F.W b := fun b h => if_neg h
  have w2 : F'.W I = none := if_pos rfl
  have av1 : ∀ b, F'.av M b → F.av M b := by
    intro b hb
    rcases hb with m | w
    · exact .inl m
    · by_cases e : b = I
      · subst e; exact absurd w2 w
      · rw [w1 b e] at w; exact .inr w
  have lo := S.low I _ hw
  have hL : env.locals ≠ I := by intro e; have := S.loc; rw [e, hw] at this; cases this
  have get : ∀ a ob, a ≠ I → h.get? a = some ob → h'.get? a = some ob := fun a ob n e => k a ob n e
  refine ⟨⟨get_ns S.ns fun ob e => get _ ob hL e, by rw [w1 _ hL]; exact S.loc, fun y c e => ?_, fun b ob w => ?_, fun b r w => ?_, S.Mlow, S.Mtab, fun a ob nt e => ?_, fun j y k' own d' ej hd' => ?_⟩, fun a ob nt e => ?_, fun a t w => .inl ?_⟩
  · obtain ⟨p, oc, hoc, hcd⟩ := S.cell y c e
    have hcI : c ≠ I := by
      rintro rfl
      rcases p with w | ⟨_, m, _⟩
      · rw [hw] at w; cases w
      · exact S.Mlow _ m lo.1
    exact ⟨p.imp (fun w => by rw [w1 c hcI]; exact w) id, oc, get c oc hcI hoc, hcd⟩
  · by_cases e : b = I
    · subst e; rw [w2] at w; cases w
    · rw [w1 b e] at w; exact get b ob e (S.priv b ob w)
  · by_cases e : b = I
    · subst e; rw [w2] at w; cases w
    · rw [w1 b e] at w
      obtain ⟨a1, a2, a3, a4⟩ := S.low b r w
      exact ⟨a1, k.some e a2, a3, a4⟩
  · have : a ≠ I := by rintro rfl; rw [lo.1] at e; cases e
    exact get a ob this (S.keep a ob nt e)
  · obtain ⟨v', ev, rv⟩ := S.var j y k' own d' ej hd'
    refine ⟨v', ev, rv.keep k (fun b e => .inr (by rw [e, hw]; exact fun z => nomatch z)) av1 (fun b _ w => ?_) fun _ _ _ b h => ?_⟩
    rotate_left
    · by_cases e : b = I
      · subst e; rw [w2] at h; cases h
      · rw [w1 b e] at h; exact h
    have hbI : b ≠ I := by rintro rfl; rw [hw] at w; cases w
    exact ⟨by rw [w1 b hbI]; exact w, fun _ vs ⟨m, hm⟩ => ⟨m, get b _ hbI hm⟩⟩
  · have : a ≠ I := by rintro rfl; exact nt (.inr (by rw [hw]; exact fun z => nomatch z))
    exact get a ob this e
  · by_cases e : a = I
    · subst e; exact absurd w2 w
    · rw [w1 a e] at w; exact w

theorem forRun {env : Env} (eo : EnvOk ft env) {A : Around} (ao : AOk n A) {M : AS} {B : Heap} {P : Addr → Obj → Prop} {F : Fm} {s : Shared} {I : Addr} {fp : List Addr} {PI : Nat → Value → Prop} {StI : Nat → Heap → Prop} {l : List V} {h₀ : Heap} {tg : Expr} {upd : V → Sig → Option Sig} {bd : List Stmt} {body : Sig → Option (Fl × Sig)}
    (hu : SoundA g n ft tg upd) (hb : SoundSS g n ft bd body) {av : AS} (ok : ItOk g av h₀ s.heap I fp PI StI l) (hav : ∀ a, F.av M a → av a ∨ a = I) (hI : ∀ o, ¬ P I o) {fl : Fl} {σ' : Sig} {R : Result → Shared → Prop} {F₀ : Fm} {σ₀ : Sig}
    (h0 : forL upd body l σ₀ = some (fl, σ')) (T0 : Turn g ft env M B P F s.heap I StI 0 σ₀ F₀ s)
    (hR : ∀ fv s', Inv g s' → FlowOk g ft env M B P F s.heap fl σ' fv s' → R (.ok fv) s') : codeAny (model g.prog g.w) A (.forLoop tg (.ref I) bd [] env) R s := by
  (try unfold SoundSS at *); (try unfold SoundA at *)
  refine forLoopC (fun m s₁ => ∃ i F' σ₁, i ≤ l.length ∧ m = l.length - i ∧ forL upd body (l.drop i) σ₁ = some (fl, σ') ∧ Turn g ft env M B P F s.heap I StI i σ₁ F' s₁) ?_ l.length ⟨0, F₀, σ₀, Nat.zero_le _, rfl, by simpa using h0, T0⟩
  rintro m s₁ ⟨i, F', σ₁, hi, rfl, hf, T⟩ E
  have W := ok.walks A ao.handled
  have tb := T.st.Mtab
  by_cases hlt : i < l.length
  · refine up T.inv.tok fun E' => W.item i s₁ _ E' hlt T.it fun v h' tk hP hst hk ht => ?_
    obtain ⟨o', Ty, ho, hc, hT⟩ := ok.has _ _ hst
    obtain ⟨F'', T', hw', st'⟩ := turnNext hI T hk ho ht hst
    obtain ⟨x, hx, rx⟩ := ok.item i v hP
    have rx' := repStep T'.step tb (rx.weaken (M' := F.av M) hav)
    intro E
    refine letOwned_any ho hc hT ?_
    intro E
    rw [List.drop_eq_getElem_cons hlt] at hf
    have e : l[i] = x := by rw [List.getElem?_eq_getElem hlt] at hx; cases hx; rfl
    rw [e, forL] at hf
    obtain ⟨σ₂, h2, hf⟩ := bind_some hf
    obtain ⟨⟨fl₃, σ₃⟩, h3, hf⟩ := bind_some hf
    refine hu env eo σ₁ x σ₂ h2 A ao M B F'' _ v _ E T'.inv T'.st rx' fun s₂ F₂ iv₂ w₂ st₂ S₂ => ?_
    intro E
    refine hb env eo σ₂ fl₃ σ₃ h3 A ao M B (fun a o => P a o ∨ (a = I ∧ o = o')) F₂ s₂ _ E iv₂ S₂ (fun a o p => ?_) fun fv s₃ iv₃ okf => ?_
    · rcases p with p | ⟨rfl, rfl⟩
      · exact w₂ _ _ (T'.old a o p)
      · exact w₂ _ _ hw'
    · have again : ∀ F₃, Privs (fun a o => P a o ∨ (a = I ∧ o = o')) F₃ → Step g F₂ F₃ s₂.heap s₃.heap → St g ft env M B F₃ σ₃ s₃.heap → forL upd body (l.drop (i + 1)) σ₃ = some (fl, σ') →
          ∃ m, m < l.length - i ∧ ∃ i F' σ₁, i ≤ l.length ∧ m = l.length - i ∧ forL upd body (l.drop i) σ₁ = some (fl, σ') ∧ Turn g ft env M B P F s.heap I StI i σ₁ F' s₃ := by
        intro F₃ pv₃ st₃ S₃ hfin
        have stA : Step g F F₃ s.heap s₃.heap := (T'.step.trans st₂).trans st₃
        have hwI : F₃.W I = some (.priv o') := pv₃ I o' (.inr ⟨rfl, rfl⟩)
        refine ⟨l.length - (i + 1), by omega, i + 1, F₃, σ₃, hlt, rfl, hfin, ⟨iv₃, ?_, ⟨o', hwI⟩, fun a o p => pv₃ a o (.inl p), stA, S₃⟩⟩
        refine W.frame _ _ _ hst fun b hbf ob e => ?_
        by_cases hbI : b = I
        · subst hbI
          have e1 : ob = o' := by rw [ho] at e; cases e; rfl
          rw [e1]; exact S₃.priv _ _ hwI
        · obtain ⟨nav, ob', hob⟩ := ok.fps b hbf hbI
          have nch : ¬ F.ch g b := fun q => (hav b (chAv tb b q)).elim nav hbI
          have h1 := T'.step.kp b ob' nch hob
          have h2 : ob' = ob := by
            have h3 : h'.get? b = some ob' := h1
            rw [h3] at e; cases e; rfl
          rw [← h2]; exact stA.kp b ob' nch hob
      cases fl₃ with
      | next =>
        rcases okf with ⟨e, F₃, pv₃, st₃, S₃⟩ | ⟨d, v, e, _⟩
        · cases e; exact again F₃ pv₃ st₃ S₃ hf
        · cases e
      | cont =>
        rcases okf with ⟨e, F₃, pv₃, st₃, S₃⟩ | ⟨d, v, e, _⟩
        · cases e; exact again F₃ pv₃ st₃ S₃ hf
        · cases e
      | brk =>
        cases hf
        rcases okf with ⟨e, F₃, pv₃, st₃, S₃⟩ | ⟨d, v, e, _⟩
        · cases e
          exact hR _ _ iv₃ (.inl ⟨rfl, F₃, fun a o p => pv₃ a o (.inl p), (T'.step.trans st₂).trans st₃, S₃⟩)
        · cases e
      | ret d =>
        cases hf
        rcases okf with ⟨e, _⟩ | ⟨d, v, e, e2, k, r⟩
        · cases e
        · cases e2; exact hR _ _ iv₃ (.inr ⟨d, v, e, rfl, k, r⟩)
  · have hil : i = l.length := by omega
    subst hil
    refine up T.inv.tok fun E' => W.done s₁ _ E' T.it fun h' tk hk ht => ?_
    rw [List.drop_length] at hf
    cases hf
    -- the iterator may have been changed at its end: it is let go
    obtain ⟨o, hw⟩ := T.priv
    obtain ⟨S', st'⟩ := T.st.drop hw (kpOne hk)
    refine hR _ _ (T.inv.but (T.st.low I _ hw) (kpOne hk) ht) (.inl ⟨rfl, _, fun a ob p => ?_, T.step.trans st', S'⟩)
    have h1 := T.old a ob p
    have : a ≠ I := by rintro rfl; exact hI _ p
    show (if a = I then _ else _) = _
    rw [if_neg this]; exact h1

noncomputable def sForS (it : Sig → Option (List V)) (upd : V → Sig → Option Sig) (body : Sig → Option (Fl × Sig)) : Sig → Option (Fl × Sig) := sFor it upd body
theorem ssFor {e tg : Expr} {bd : List Stmt} {pos : Pos} {it : Sig → Option (List V)} {upd : V → Sig → Option Sig} {body : Sig → Option (Fl × Sig)} (hi : SoundI g n ft e it) (hu : SoundA g n ft tg upd) (hb : SoundSS g n ft bd body)
    (hs : ∀ env x, foldedSetIterable e env x = pure x := by intro _ _; rfl) : SoundS g n ft (.For tg e bd [] pos) (sFor it upd body) := by
  (try unfold SoundS at *); (try unfold SoundSS at *); (try unfold SoundA at *); (try unfold SoundI at *)
  intro env eo σ fl σ' hd A ao M B P F s Q E iv S pv q
  obtain ⟨l, hl, hd⟩ := bind_some hd
  refine wpAny_For (hi env eo σ l hl A ao M B F s _ E iv S fun I s₁ fp PI StI x₁ ok => ?_) (hs env)
  obtain ⟨o, T, ho, hc, hT⟩ := ok.has 0 _ ok.start
  obtain ⟨S', hW, st⟩ := S.adopt iv x₁.keep (fun a => if a = I then some o else none) (fun a o' e => by
    by_cases h : a = I
    · subst h; simp at e; subst e; exact ⟨ok.fresh, ho⟩
    · simp [h] at e)
  have hI : ∀ o, ¬ P I o := fun o p => (S.low I _ (pv I o p)).2.1 ok.fresh
  have hw : (F.plus fun a => if a = I then some o else none).W I = some (.priv o) := by simp [Fm.plus]
  refine forRun (F := F.plus fun a => if a = I then some o else none) eo ao (by unfold SoundA; exact hu) (by unfold SoundSS; exact hb) ok (fun a h => ?_) hI hd ⟨x₁.inv iv, ok.start, ⟨o, hw⟩, pv.mono hW, Step.refl _ _ _, S'⟩ fun fv s' iv' okf => q fv s' iv' ?_
  · rcases h with m | w
    · exact .inl (.inl m)
    · by_cases e : a = I
      · exact .inr e
      · have : (F.plus fun a => if a = I then some o else none).W a = F.W a := by simp [Fm.plus, e]
        rw [this] at w; exact .inl (.inr w)
  · rcases okf with ⟨e, F₃, pv₃, st₃, S₃⟩ | r
    · exact .inl ⟨e, F₃, pv₃, st.trans st₃, S₃⟩
    · exact .inr r
end
end Mine
end

noncomputable section
open PySem PySem.W PyProof.Rows
namespace Mine

section
variable {g : Gl} {n : Nat} {ft : FT}

/- while -/
noncomputable def whileL (t : Sig → Option Bool) (body : Sig → Option (Fl × Sig)) : Nat → Sig → Option (Fl × Sig)
  | 0, _ => none
  | k + 1, σ => (t σ).bind fun b => match b with
    | false => some (.next, σ)
    | true => (body σ).bind fun p => match p with
      | (.next, σ₂) => whileL t body k σ₂
      | (.cont, σ₂) => whileL t body k σ₂
      | (.brk, σ₂) => some (.next, σ₂)
      | (.ret d, σ₂) => some (.ret d, σ₂)
noncomputable def sWhile (fuel : Nat) (t : Sig → Option Bool) (body : Sig → Option (Fl × Sig)) : Sig → Option (Fl × Sig) := fun σ => whileL t body fuel σ
theorem ssWhile {fuel : Nat} {t : Expr} {bd : List Stmt} {pos : Pos} {c : Sig → Option Bool} {body : Sig → Option (Fl × Sig)} (ht : SoundT g n ft t c) (hb : SoundSS g n ft bd body) : SoundS g n ft (.While t bd [] pos) (sWhile fuel c body) := by
  (try unfold SoundT at *); (try unfold SoundS at *); (try unfold SoundSS at *)
  intro env eo σ fl σ' hd A ao M B P F s Q E iv S pv q
  refine wpAny_While (codeAny_whileLoop (fun m s₁ => ∃ F' σ₁, whileL c body m σ₁ = some (fl, σ') ∧ Inv g s₁ ∧ Privs P F' ∧ Step g F F' s.heap s₁.heap ∧ St g ft env M B F' σ₁ s₁.heap) ?_ fuel ⟨F, σ, hd, iv, pv, Step.refl _ _ _, S⟩)
  rintro m s₁ ⟨F', σ₁, hf, iv₁, pv₁, st₁, S₁⟩
  cases m with
  | zero => cases hf
  | succ k =>
    rw [whileL] at hf
    obtain ⟨b, hb', hf⟩ := bind_some hf
    refine ht env eo σ₁ b hb' A ao M B F' s₁ _ _ iv₁ S₁ fun s₂ x₂ => ?_
    have st₂ := st₁.trans (x₂.step F')
    have S₂ := S₁.extE x₂
    cases b with
    | false =>
      cases hf
      exact wpAny_execs_nil (q _ _ (x₂.inv iv₁) (.inl ⟨rfl, F', pv₁, st₂, S₂⟩))
    | true =>
      obtain ⟨⟨fl₃, σ₃⟩, h3, hf⟩ := bind_some hf
      simp only [if_true]
      refine hb env eo σ₁ fl₃ σ₃ h3 A ao M B P F' s₂ _ _ (x₂.inv iv₁) S₂ pv₁ fun fv s₃ iv₃ ok => ?_
      cases fl₃ with
      | next =>
        rcases ok with ⟨e, F₃, pv₃, st₃, S₃⟩ | ⟨d, v, e, _⟩
        · cases e; exact ⟨k, Nat.lt_succ_self k, F₃, σ₃, hf, iv₃, pv₃, st₂.trans st₃, S₃⟩
        · cases e
      | cont =>
        rcases ok with ⟨e, F₃, pv₃, st₃, S₃⟩ | ⟨d, v, e, _⟩
        · cases e; exact ⟨k, Nat.lt_succ_self k, F₃, σ₃, hf, iv₃, pv₃, st₂.trans st₃, S₃⟩
        · cases e
      | brk =>
        cases hf
        rcases ok with ⟨e, F₃, pv₃, st₃, S₃⟩ | ⟨d, v, e, _⟩
        · cases e; exact q _ _ iv₃ (.inl ⟨rfl, F₃, pv₃, st₂.trans st₃, S₃⟩)
        · cases e
      | ret d =>
        cases hf
        rcases ok with ⟨e, _⟩ | ⟨d, v, e, e2, kp, r⟩
        · cases e
        · cases e2; exact q _ _ iv₃ (.inr ⟨d, v, e, rfl, kp, r⟩)

/- try: nothing is raised -/
theorem ssTry {bd : List Stmt} {h₀ : ExceptHandler} {hs : List ExceptHandler} {pos : Pos} {body : Sig → Option (Fl × Sig)} (hb : SoundSS g n ft bd body) : SoundS g n ft (.Try bd (h₀ :: hs) [] [] pos) body := by
  (try unfold SoundS at *); (try unfold SoundSS at *)
  intro env eo σ fl σ' hd A ao M B P F s Q E iv S pv q
  refine wpAny_Try_except (hb env eo σ fl σ' hd A ao M B P F s _ _ iv S pv fun fv s₁ iv₁ ok => ?_)
  have z := q fv s₁ iv₁ ok
  cases fv with
  | next => exact wpAny_execs_nil z
  | _ => exact z

/- y = x, where x's list is handed on and x is named no more -/
theorem St.noName {env : Env} {M : AS} {B : Heap} {F : Fm} {σ : Sig} {h : Heap} {i : Nat} {x : Str} {k : NameKind} {a : Addr} (S : St g ft env M B F σ h) (hi : ft.tbl[i]? = some (x, k, true)) (hw : F.W a = some (.own i))
    (nb : ∀ j y k' d, ft.tbl[j]? = some (y, k', true) → j ≠ i → σ.getD j none = some d → ∃ l, d = .lst l) :
    St g ft env M B { F with W := fun b => if b = a then none else F.W b } (σ.set i none) h ∧ Step g F { F with W := fun b => if b = a then none else F.W b } h h := by
  let F' : Fm := { F with W := fun b => if b = a then none else F.W b }
  have w1 : ∀ b, b ≠ a → F'.W b = F.W b := fun b h => if_neg h
  have w2 : F'.W a = none := if_pos rfl
  have av1 : ∀ b, F'.av M b → F.av M b := by
    intro b hb
    rcases hb with m | w
    · exact .inl m
    · by_cases e : b = a
      · subst e; exact absurd w2 w
      · rw [w1 b e] at w; exact .inr w
  have hL : env.locals ≠ a := by intro e; have := S.loc; rw [e, hw] at this; cases this
  refine ⟨⟨S.ns, by rw [w1 _ hL]; exact S.loc, fun y c e => ?_, fun b ob w => ?_, fun b r w => ?_, S.Mlow, S.Mtab, S.keep, fun j y k' own d' ej hd' => ?_⟩, fun _ _ _ e => e, fun b t w => .inl ?_⟩
  · obtain ⟨p, hc⟩ := S.cell y c e
    refine ⟨p.imp (fun w => ?_) id, hc⟩
    have : c ≠ a := by rintro rfl; rw [hw] at w; cases w
    rw [w1 c this]; exact w
  · by_cases e : b = a
    · subst e; rw [w2] at w; cases w
    · rw [w1 b e] at w; exact S.priv b ob w
  · by_cases e : b = a
    · subst e; rw [w2] at w; cases w
    · rw [w1 b e] at w; exact S.low b r w
  · rcases getD_set hd' with ⟨rfl, e⟩ | ⟨ne, hd'⟩
    · cases e
    · obtain ⟨v', ev, rv⟩ := S.var j y k' own d' ej hd'
      refine ⟨v', ev, ?_⟩
      rcases rv with ⟨o, r⟩ | ⟨o, l, vs, b, e1, e2, e3, e4, e5, r⟩ | ⟨o, j', b, c, e1, e2, e3, e4, e5, _⟩
      · exact .inl ⟨o, r.weaken av1⟩
      · have hba : b ≠ a := by rintro rfl; rw [hw] at e3; cases e3; exact ne rfl
        exact .inr (.inl ⟨o, l, vs, b, e1, e2, by rw [w1 b hba]; exact e3, e4, e5, r.weaken av1⟩)
      · subst o
        obtain ⟨l, el⟩ := nb j y k' d' ej ne hd'
        rw [e1] at el; cases el
  · by_cases e : b = a
    · subst e; exact absurd w2 w
    · rw [w1 b e] at w; exact w

noncomputable def ownLists (ft : FT) (i : Nat) (σ : Sig) : Bool := (List.range ft.tbl.length).all fun j => j == i || match ft.tbl[j]? with | some (_, _, true) => (match σ.getD j none with | some (.lst _) => true | none => true | _ => false) | _ => true
noncomputable def sMv (ft : FT) (j i : Nat) : Sig → Option (Fl × Sig) := fun σ => (eNameL i σ).bind fun d => if ownLists ft i σ then some (.next, (σ.set i none).set j (some d)) else none
theorem ssMv {i j : Nat} {x y : Str} {k : NameKind} {p p' pos : Pos} (hi : ft.tbl[i]? = some (x, .local, true)) (hj : ft.tbl[j]? = some (y, .local, false)) (hdb : (x == ("__debug__" : Str)) = false)
    (hs : ∀ env, swapsWith (.Name x p) (some (.Name y p')) pos.line env = pure false := by intro _; rfl) : SoundS g n ft (.Assign [.Name y p'] (.Name x p) pos) (sMv ft j i) := by
  (try unfold SoundS at *)
  intro env eo σ fl σ' hd A ao M B P F s Q E iv S pv q
  obtain ⟨d, hf, hd⟩ := bind_some hd
  split at hd
  · rename_i hol
    cases hd
    refine wpAny_Assign_Name (ldOwn eo hi hdb hf S fun l vs a e hv hw hown hz hr => ?_) (hs env)
    subst e
    obtain ⟨S', st⟩ := S.noName hi hw (fun j' y' k' d' ej ne hd' => by
      have hlt : j' < ft.tbl.length := by
        rw [List.getElem?_eq_some_iff] at ej; exact ej.1
      have := List.all_eq_true.mp hol j' (List.mem_range.mpr hlt)
      rw [ej] at this
      simp only [Bool.or_eq_true, beq_iff_eq, hd'] at this
      rcases this with e | e
      · exact absurd e ne
      · split at e
        · rename_i l e'; cases e'; exact ⟨l, rfl⟩
        · rename_i e'; cases e'
        · cases e)
    have r : Rep s.heap ({ F with W := fun b => if b = a then none else F.W b }.av M) (.lst l) (.ref a) := by
      refine .lst l vs a (fun q => ?_) hown.isList hz (hr.weaken fun b hb => ?_)
      · rcases q with m | w
        · exact S.Mlow a m (S.low a _ hw).1
        · exact w (if_pos rfl)
      · rcases hb with m | w
        · exact .inl m
        · refine .inr fun e => w ?_
          show (if b = a then none else F.W b) = none
          split
          · rfl
          · exact e
    refine stName eo hj (fun e => absurd rfl e) iv S' r fun s' F' iv' hW st' S'' => q _ _ iv' (.inl ⟨rfl, F', fun b o w => ?_, st.trans st', S''⟩)
    have h1 := pv b o w
    have : b ≠ a := by rintro rfl; rw [hw] at h1; cases h1
    rw [hW]
    show (if b = a then none else F.W b) = _
    rw [if_neg this]; exact h1
  · cases hd
end
end Mine
end

noncomputable section
open PySem PySem.W PyProof.Rows
namespace Mine

/-- a def of the text as the top leaves it -/
structure FnAt (g : Gl) (a : Addr) (fd : FuncData) : Prop where
  obj : ∃ o, g.G.get? a = some o ∧ o.data = .func fd
  ne : a ≠ g.TB
  code : ∃ c o vs t, fd.code = .ref c ∧ c ≠ g.TB ∧ g.G.get? c = some o ∧ o.data = .fields vs ∧ vs[1]? = some (.str fd.qualname t)
  glob : fd.globals = mainGlobals
  bi : fd.builtins = builtinsNs
  clo : fd.closure = []

section
variable {g : Gl} {n : Nat} {ft : FT}
theorem FnAt.at {a : Addr} {fd : FuncData} (x : FnAt g a fd) {s : Shared} (iv : Inv g s) : ∃ o, s.heap.get? a = some o ∧ o.data = .func fd := let ⟨o, e, d⟩ := x.obj; ⟨o, iv.keep a o x.ne e, d⟩
theorem FnAt.crec {a : Addr} {fd : FuncData} (x : FnAt g a fd) {s : Shared} (iv : Inv g s) : s.heap.CodeRec fd.code fd.qualname :=
  let ⟨c, o, vs, t, e, ne, h, r⟩ := x.code; ⟨c, o, vs, t, e, iv.keep c o ne h, r⟩

/-- how the arguments are bound -/
noncomputable def SoundBd (fd : FuncData) (names : List Str) (bd : List V → Option (List V)) : Prop :=
  ∀ (g : Gl) (av : AS) (args d : List V), bd args = some d → ∀ (A : Around) (s : Shared) (vals : List Value) (Q : List (Str × Value) → Shared → Prop) (E : Value → Shared → Prop), Inv g s → RepL s.heap av args vals → av g.TB → (∀ a, av a → s.heap.get? a ≠ none) →
    (∀ vs s', Ext g s s' → RepL s'.heap av d vs → vs.length = names.length → Q (names.zip vs) s') → wpAny (model g.prog g.w) A (bindArgs fd ⟨vals, []⟩) Q E s

noncomputable def bdN (k : Nat) : List V → Option (List V) := fun l => if l.length = k then some l else none
theorem soundBd_plain {fd : FuncData} {names : List Str} (h : ∀ vals : List Value, vals.length = names.length → bindArgs fd ⟨vals, []⟩ = pure (names.zip vals)) : SoundBd fd names (bdN names.length) := by
  intro g av args d hd A s vals Q E iv r tb fr q
  unfold bdN at hd
  split at hd
  · rename_i e
    cases hd
    rw [h vals (r.length.trans e)]
    exact wpAny_pure (q vals s (Ext.refl g s) r (r.length.trans e))
  · cases hd

theorem nodup_inj {α : Type} : ∀ {l : List α} {i j : Nat} {x : α}, l.Nodup → l[i]? = some x → l[j]? = some x → i = j
  | [], i, _, _, _, h, _ => by simp at h
  | _ :: _, 0, 0, _, _, _, _ => rfl
  | y :: r, 0, j + 1, x, nd, h, h' => by cases h; exact absurd (List.mem_of_getElem? (by simpa using h')) (List.nodup_cons.mp nd).1
  | y :: r, i + 1, 0, x, nd, h, h' => by cases h'; exact absurd (List.mem_of_getElem? (by simpa using h)) (List.nodup_cons.mp nd).1
  | y :: r, i + 1, j + 1, x, nd, h, h' => congrArg (· + 1) (nodup_inj (i := i) (j := j) (x := x) (List.nodup_cons.mp nd).2 (by simpa using h) (by simpa using h'))

/-- what of the table of names can be checked by itself -/
structure FtOk (ft : FT) : Prop where
  kind : ft.scope.kind = .function
  tbl : ∀ p ∈ ft.tbl, ft.scope.names.lookup p.1 = some p.2.1 ∧ (p.2.1 = .local ∨ (p.2.1 = .cell ∧ p.2.2 = false ∧ (p.1 == ("__classdict__" : Str)) = false))
  uniq : (ft.tbl.map (·.1)).Nodup

theorem cellsFrom_has : ∀ (names : List (Str × NameKind)) (m : Nat) (acc : List (Str × Addr)) (x : Str), ((acc.lookup x).isSome = true ∨ (x, NameKind.cell) ∈ names) → ((cellsFrom m names acc).lookup x).isSome = true
  | [], _, acc, x, h => by
    rcases h with h | h
    · exact h
    · cases h
  | (y, k) :: r, m, acc, x, h => by
    unfold cellsFrom
    split
    · rename_i hk
      refine cellsFrom_has r _ _ x ?_
      by_cases e : x = y
      · subst e; exact .inl (by simp)
      · rcases h with h | h
        · refine .inl ?_
          rw [List.lookup_cons]
          have : (x == y) = false := by simpa using e
          rw [this]; exact h
        · rcases List.mem_cons.mp h with h | h
          · cases h; exact absurd rfl e
          · exact .inr h
    · rename_i hk
      refine cellsFrom_has r _ _ x ?_
      rcases h with h | h
      · exact .inl h
      · rcases List.mem_cons.mp h with h | h
        · cases h; simp at hk
        · exact .inr h

theorem bindL_skip {ko : Str → Option NameKind} : ∀ {l : List (Str × Value)} {m : Str → Option Value} {x : Str}, (∀ v, (x, v) ∉ l) → bindL ko l m x = m x
  | [], _, _, _ => rfl
  | (y, v) :: r, m, x, h => by
    rw [bindL, bindL_skip fun v' hv => h v' (.tail _ hv)]
    have : x ≠ y := by rintro rfl; exact h v (.head _)
    split
    · simp [this]
    · rfl
theorem bindC_skip {ko : Str → Option NameKind} : ∀ {l : List (Str × Value)} {m : Str → Option Value} {x : Str}, (∀ v, (x, v) ∉ l) → bindC ko l m x = m x
  | [], _, _, _ => rfl
  | (y, v) :: r, m, x, h => by
    rw [bindC, bindC_skip fun v' hv => h v' (.tail _ hv)]
    have : x ≠ y := by rintro rfl; exact h v (.head _)
    split
    · rfl
    · simp [this]
theorem zip_not {x : Str} : ∀ {names : List Str} {vs : List Value}, x ∉ names → ∀ v, (x, v) ∉ names.zip vs
  | [], _, _, _, h => by simp at h
  | y :: r, [], _, _, h => by simp at h
  | y :: r, w :: ws, h, v, e => by
    rw [List.zip_cons_cons] at e
    rcases List.mem_cons.mp e with e | e
    · cases e; exact h (.head _)
    · exact zip_not (fun q => h (.tail _ q)) v e
theorem bindL_get {ko : Str → Option NameKind} : ∀ {names : List Str} {vs : List Value} {m : Str → Option Value} {i : Nat} {x : Str} {v : Value}, names.Nodup → names[i]? = some x → vs[i]? = some v → ko x = some .local → bindL ko (names.zip vs) m x = some v
  | [], _, _, _, _, _, _, h, _, _ => by simp at h
  | _ :: _, [], _, _, _, _, _, _, h, _ => by simp at h
  | y :: r, w :: ws, m, 0, x, v, nd, hx, hv, hk => by
    cases hx; cases hv
    rw [List.zip_cons_cons, bindL, if_pos hk, bindL_skip (zip_not (List.nodup_cons.mp nd).1)]
    simp
  | y :: r, w :: ws, m, i + 1, x, v, nd, hx, hv, hk => by
    rw [List.zip_cons_cons, bindL]
    exact bindL_get (i := i) (List.nodup_cons.mp nd).2 (by simpa using hx) (by simpa using hv) hk
theorem bindC_get {ko : Str → Option NameKind} : ∀ {names : List Str} {vs : List Value} {m : Str → Option Value} {i : Nat} {x : Str} {v : Value}, names.Nodup → names[i]? = some x → vs[i]? = some v → ko x = some .cell → bindC ko (names.zip vs) m x = some v
  | [], _, _, _, _, _, _, h, _, _ => by simp at h
  | _ :: _, [], _, _, _, _, _, _, h, _ => by simp at h
  | y :: r, w :: ws, m, 0, x, v, nd, hx, hv, hk => by
    cases hx; cases hv
    rw [List.zip_cons_cons, bindC, if_neg (by rw [hk]; decide), bindC_skip (zip_not (List.nodup_cons.mp nd).1)]
    simp
  | y :: r, w :: ws, m, i + 1, x, v, nd, hx, hv, hk => by
    rw [List.zip_cons_cons, bindC]
    exact bindC_get (i := i) (List.nodup_cons.mp nd).2 (by simpa using hx) (by simpa using hv) hk

noncomputable def fnOf (k : Nat) (bd : List V → Option (List V)) (f : Sig → Option (Fl × Sig)) : List V → Option V := fun args => (bd args).bind fun d => match f (d.map some ++ List.replicate k none) with
  | some (.ret v, _) => some v
  | _ => none

/-- a def is called -/
theorem soundFn (G : GlOk g) {a : Addr} {fd : FuncData} {body : List Stmt} {f : Sig → Option (Fl × Sig)} {bd : List V → Option (List V)} {names : List Str} (k : Nat) (fa : FnAt g a fd) (hbody : fd.body = .stmts body) (hsc : fd.scope = ft.scope) (hco : fd.scope.isCoroutine = false) (hgen : fd.scope.isGenerator = false)
    (hft : FtOk ft) (hcode : ∀ c, ft.code = some c → fd.code = c) (hnd : names.Nodup) (hn : ∀ (i : Nat) (x : Str), names[i]? = some x → ∃ k, ft.tbl[i]? = some (x, k, false)) (hb : SoundSS g n ft body f) (hbd : SoundBd fd names bd) : SoundV g (n + 1) (.ref a) (fnOf k bd f) := by
  (try unfold SoundSS at *); (try unfold SoundV at *)
  intro args d hd A ao av s vals Q E iv tb fr r q
  obtain ⟨ds, hds, hd⟩ := bind_some hd
  split at hd
  case h_2 => cases hd
  rename_i v₀ σ' hrun
  cases hd
  obtain ⟨o, ho, hdo⟩ := fa.at iv
  refine wpAny_call (codeAny_call_function (by have := ao.depth; omega) ho hdo hco hgen hbody (fa.crec iv) ?_)
  refine hbd g av args ds hds _ s vals _ _ iv r tb fr fun vs s₀ x₀ r₀ hlen => ?_
  rw [fa.clo]
  have iv₀ := x₀.inv iv
  have fr₀ : ∀ a, av a → s₀.heap.get? a ≠ none := by
    intro b hb
    by_cases e : b = g.TB
    · subst e; exact fun z => iv₀.tabSome z
    · cases h : s.heap.get? b with
      | none => exact absurd h (fr b hb)
      | some ob => rw [x₀.keep b ob e h]; exact fun z => nomatch z
  have hpk : ∀ x ∈ names.zip vs, fd.scope.names.lookup x.1 = some .local ∨ (fd.scope.names.lookup x.1 = some .cell ∧ ((cellsFrom (s₀.heap.objs.size + 1) fd.scope.names []).lookup x.1).isSome = true) := by
    intro x hx
    obtain ⟨i, hi⟩ := List.getElem?_of_mem (List.of_mem_zip hx).1
    obtain ⟨k', e⟩ := hn i _ hi
    obtain ⟨h1, h2⟩ := hft.tbl _ (List.mem_of_getElem? e)
    rw [hsc]
    rcases h2 with h2 | ⟨h2, _⟩
    · exact .inl (h1.trans (by rw [h2]))
    · refine .inr ⟨h1.trans (by rw [h2]), cellsFrom_has _ _ _ _ (.inr ?_)⟩
      have := mem_of_lookup (h1.trans (by rw [h2]))
      exact this
  refine up iv₀.tok fun E' => wpAny_newFunctionEnv_cells (by rw [hsc]; exact hft.kind) hpk fun env he s₁ x ht => ⟨(iv₀.lim G).keeps x.toInCall.keep, ?_⟩
  have x₁ : Ext g s₀ s₁ := by
    obtain ⟨h', tk, es⟩ := x.toInCall.same
    have kp := x.toInCall.keep
    subst es
    exact Ext.of kp fun _ => ht
  have iv₁ := x₁.inv iv₀
  have hscE : env.scope = ft.scope := by rw [he]; exact hsc
  have hL : env.locals = s₀.heap.objs.size := by rw [he]; rfl
  have hcs : env.cells = cellsFrom (s₀.heap.objs.size + 1) fd.scope.names [] := by rw [he]; rfl
  have eo : EnvOk ft env := by
    refine ⟨fun c h => by rw [he]; exact hcode c h, hscE, by rw [he]; exact fa.glob, by rw [he]; exact fa.bi, hft.kind, fun i y k own e => ?_, x.apart, fun i j y k1 k2 o1 o2 e1 e2 => ?_⟩
    · obtain ⟨h1, h2⟩ := hft.tbl _ (List.mem_of_getElem? e)
      refine ⟨h1, h2.imp id fun ⟨h3, h4, h5⟩ => ⟨.inl h3, h4, h5, ?_⟩⟩
      have h3' : k = .cell := h3
      subst h3'
      rw [hcs, hsc]
      exact Option.isSome_iff_exists.mp (cellsFrom_has _ _ _ _ (.inr (mem_of_lookup h1)))
    · have h1 : (ft.tbl.map (·.1))[i]? = some y := by rw [List.getElem?_map, e1]; rfl
      have h2 : (ft.tbl.map (·.1))[j]? = some y := by rw [List.getElem?_map, e2]; rfl
      exact nodup_inj hft.uniq h1 h2
  have above : ∀ y c, (y, c) ∈ env.cells → s₀.heap.objs.size < c := fun y c h => by have := x.above y c h; rw [hL] at this; exact this
  have neL : ∀ y c, env.cells.lookup y = some c → c ≠ env.locals := fun y c e => by rintro rfl; have := above y _ (mem_of_lookup e); rw [hL] at this; exact Nat.lt_irrefl _ this
  let W : Addr → Option Role := fun b => if b = env.locals then some .loc else open Classical in if h : ∃ y, env.cells.lookup y = some b then some (.cell h.choose) else none
  have wL : W env.locals = some .loc := if_pos rfl
  have wC : ∀ y c, env.cells.lookup y = some c → W c = some (.cell y) := by
    intro y c e
    show (if c = env.locals then _ else _) = _
    have hex : ∃ y, env.cells.lookup y = some c := ⟨y, e⟩
    rw [if_neg (neL y c e), dif_pos hex]
    have := name_of_addr x.apart (mem_of_lookup hex.choose_spec) (mem_of_lookup e)
    rw [this]
  have wOf : ∀ b r, W b = some r → s₀.heap.objs.size ≤ b ∧ s₁.heap.get? b ≠ none ∧ ((r = .loc ∧ b = env.locals) ∨ ∃ y, r = .cell y) := by
    intro b r w
    by_cases e : b = env.locals
    · rw [e, wL] at w; cases w
      obtain ⟨o, _, _, ho, _⟩ := x.toInCall.ns
      exact ⟨by rw [e, hL]; exact Nat.le_refl _, by rw [e]; exact get_ne_none ho, .inl ⟨rfl, e⟩⟩
    · have w' : (if b = env.locals then some Role.loc else open Classical in if h : ∃ y, env.cells.lookup y = some b then some (.cell h.choose) else none) = some r := w
      rw [if_neg e] at w'
      by_cases hex : ∃ y, env.cells.lookup y = some b
      · rw [dif_pos hex] at w'; cases w'
        obtain ⟨y, hy⟩ := hex
        obtain ⟨oc, hoc, _⟩ := x.cell _ _ hy
        exact ⟨Nat.le_of_lt (above y b (mem_of_lookup hy)), get_ne_none hoc, .inr ⟨_, rfl⟩⟩
      · rw [dif_neg hex] at w'; cases w'
  let F : Fm := ⟨W, bindL env.kindOf (names.zip vs) fun _ => none, bindC env.kindOf (names.zip vs) fun _ => none⟩
  have old : ∀ b, s₀.heap.get? b ≠ none → W b = none := by
    intro b h
    cases w : W b with
    | none => rfl
    | some r =>
      have h1 := (wOf b r w).1
      cases e : s₀.heap.get? b with
      | none => exact absurd e h
      | some o => exact absurd (Heap.lt_size e) (Nat.not_lt.mpr h1)
  have none₀ : ∀ b, s₀.heap.objs.size ≤ b → s₀.heap.get? b = none := by
    intro b h
    cases e : s₀.heap.get? b with
    | none => rfl
    | some o => exact absurd (Heap.lt_size e) (Nat.not_lt.mpr h)
  have r₁ : RepL s₁.heap (F.av av) ds vs := by
    have r1 := r₀.fresh (M' := fun a => av a ∨ F.av av a) fun a ha => by
      rcases ha with h | h | h
      · exact .inl h
      · exact .inl h
      · refine .inr ?_
        cases w : W a with
        | none => exact absurd w h
        | some r => exact none₀ a (wOf a r w).1
    exact r1.keep x₁.keep (fun a e => .inl (e ▸ tb)) fun a e => .inr e
  have S : St g ft env av s₀.heap F (ds.map some ++ List.replicate k none) s₁.heap := by
    refine ⟨x.toInCall.ns, wL, fun y c e => ⟨.inl (wC y c e), x.cell y c e⟩, fun b o w => ?_, fun b r w => ?_, fr₀, tb, x₁.keep, fun i y kd own d e hd => ?_⟩
    · rcases (wOf b _ w).2.2 with ⟨h, _⟩ | ⟨_, h⟩ <;> cases h
    · obtain ⟨h1, h2, _⟩ := wOf b r w
      refine ⟨none₀ b h1, h2, ?_, ?_⟩
      · by_cases t : b = g.TB
        · subst t; exact absurd (none₀ _ h1) iv₀.tabSome
        · cases q : g.G.get? b with
          | none => rfl
          | some o => have h3 := iv₀.keep b o t q; rw [none₀ b h1] at h3; cases h3
      · rintro rfl; exact iv₀.tabSome (none₀ _ h1)
    · rw [List.getD_eq_getElem?_getD] at hd
      have hi : i < ds.length := by
        by_cases h : i < ds.length
        · exact h
        · rw [List.getElem?_append_right (by rw [List.length_map]; omega)] at hd
          by_cases h2 : i - (ds.map some).length < k
          · rw [List.getElem?_replicate, if_pos h2] at hd; cases hd
          · rw [List.getElem?_replicate, if_neg h2] at hd; cases hd
      rw [List.getElem?_append_left (by rw [List.length_map]; exact hi), List.getElem?_map] at hd
      have hdi : ds[i]? = some d := by
        cases h : ds[i]? with
        | none => rw [h] at hd; cases hd
        | some d' => rw [h] at hd; cases hd; rfl
      obtain ⟨v, hv, rv⟩ := r₁.getElem? hdi
      have hli : i < names.length := by rw [← hlen, r₀.length]; exact hi
      have hnm : names[i]? = some names[i] := List.getElem?_eq_getElem hli
      obtain ⟨k', e'⟩ := hn i _ hnm
      rw [e] at e'; cases e'
      obtain ⟨h1, h2⟩ := hft.tbl _ (List.mem_of_getElem? e)
      have hko : env.kindOf names[i] = some kd := by show env.scope.names.lookup _ = _; rw [hscE]; exact h1
      refine ⟨v, ?_, .inl ⟨rfl, rv⟩⟩
      rcases h2 with h2 | ⟨h2, _⟩
      · have h2' : kd = .local := h2
        subst h2'
        rw [if_pos rfl]
        exact bindL_get hnd hnm hv hko
      · have h2' : kd = .cell := h2
        subst h2'
        rw [if_neg (by decide)]
        exact bindC_get hnd hnm hv hko
  refine codeAny_func (hb env eo _ _ σ' hrun (A.deeper env) ⟨ao.handled, by have := ao.depth; show A.depth + 1 + n < _; omega, by have := ao.units; show A.units + 3 + 20 * n + 20 < _; omega⟩ av s₀.heap (fun _ _ => False) F s₁ _ _ iv₁ S (fun _ _ h => h.elim) fun fv s₂ iv₂ ok => ?_)
  rcases ok with ⟨e, _⟩ | ⟨d, v, e, e2, kp, rv⟩
  · cases e
  · cases e; subst e2
    exact q v s₂ ⟨x₀.keep.trans kp, fun _ => iv₂⟩ rv
end
end Mine
end

noncomputable section
open PySem PySem.W PyProof.Rows
namespace Mine

section
variable {g : Gl} {n : Nat} {ft : FT}

/-- the first argument of a call is no starred one -/
noncomputable def PlainF (es : List Expr) : Prop := ∀ env pos, ∃ x r, backTo pos (starEach es env) = (false, x) :: r
theorem evalArgs_esF {es : List Expr} {f : Sig → Option (List V)} (hp : PlainF es) (h : SoundEs g n ft es f) {env : Env} (eo : EnvOk ft env) {σ : Sig} {d : List V} (hd : f σ = some d) {A : Around} (ao : AOk n A) {M : AS} {B : Heap} {F : Fm} {s : Shared} {pos : Pos} {fv : Value} {Q : Args → Shared → Prop} {E : Value → Shared → Prop}
    (iv : Inv g s) (S : St g ft env M B F σ s.heap) (q : ∀ vs s', Ext g s s' → RepL s'.heap (F.av M) d vs → Q ⟨vs, []⟩ s') : wpAny (model g.prog g.w) A (evalArgs fv true (backTo pos (starEach es env)) []) Q E s := by
  (try unfold SoundEs at *)
  obtain ⟨x, r, e⟩ := hp env pos
  have := h env eo σ d hd A ao M B F s pos (fun vs s' => Q ⟨vs, []⟩ s') E iv S q
  rw [e] at this ⊢
  exact Calls.evalArgs_plain this

/-- a def of the text is called by its name -/
theorem sCallF (G : GlOk g) {x : Str} {a : Addr} {fd : FuncData} {p pos : Pos} {es : List Expr} {f : List V → Option V} {h : Sig → Option (List V)} {m : Nat} (hx : g.mg x = some (.ref a)) (fa : FnAt g a fd) (hs : ft.scope.names.lookup x = some .globalImplicit) (hdb : (x == ("__debug__" : Str)) = false)
    (hp : PlainF es) (hf : SoundV g m (.ref a) f) (he : SoundEs g n ft es h) (hm : m ≤ n := by decide) : SoundE g n ft (.Call (.Name x p) es [] pos) (eCallV f h) := by
  replace hf := hf.mono hm
  unfold SoundE
  unfold SoundV at hf
  intro env eo σ d hd A ao M B F s Q E iv S q
  obtain ⟨l, hl, hd⟩ := bind_some hd
  refine wpAny_Call_ofName (ldGl G eo hx hs iv ?_ hdb)
  obtain ⟨o, ho, hdo⟩ := fa.obj
  refine Calls.callWith_function (o := o) (fd := fd) (evalArgs_esF hp he eo hl ao iv S fun vs s₁ x₁ r => ⟨⟨?_, hdo⟩, ?_⟩)
  · exact (x₁.inv iv).keep a o fa.ne ho
  · exact hf l d hd A ao _ s₁ _ _ _ (x₁.inv iv) (.inl S.Mtab) ((S.extE x₁).avSome (x₁.inv iv)) r fun v s₂ x₂ r₂ => q v s₂ (x₁.trans x₂) r₂

/-- *e, last among the arguments -/
noncomputable def esStar (f : Sig → Option V) : Sig → Option (List V) := fun σ => (f σ).bind fun a => match a with
  | .lst l => some l
  | _ => none
theorem ssStar {e : Expr} {p : Pos} {f : Sig → Option V} (hf : SoundE g n ft e f) (he : ∀ env, starEach [.Starred e p] env = (true, eval e env) :: starEach [] env := by intro _; rfl) : SoundEs g n ft [.Starred e p] (esStar f) := by
  (try unfold SoundE at *); (try unfold SoundEs at *)
  intro env eo σ d hd A ao M B F s pos Q E iv S q
  obtain ⟨a, ha, hd⟩ := bind_some hd
  refine items_star (hf env eo σ a ha A ao M B F s _ E iv S fun v s₁ x₁ r => ?_) (he env)
  cases r <;> (try (simp at hd; done))
  rename_i l vs b hm hl hz hr
  cases hd
  obtain ⟨o, D, hc, m, hdt⟩ := hl
  have hT' : s₁.TypeIs (.ref b) "list" := ⟨o, D, hc⟩
  unfold StarOf notIterableAtAll
  refine wpAny_bind (wpAny_specialOf hT' PySem.F.slot_list_iter.lookup (wpAny_pure ⟨rfl, ?_⟩))
  refine wpAny_collect_seq b (.inl rfl) D hc hdt (fun h' hk => ?_) (by rw [List.size_toArray, hr.length]; exact hz)
  refine wpAny_items_nil ?_
  have x₂ : Ext g s₁ { s₁ with heap := h' } := Ext.heap hk
  rw [List.append_nil]
  exact q _ _ (x₁.trans x₂) ((S.extE x₁).repLExt x₂ hr)
end
end Mine
end

noncomputable section
open PySem PySem.W PyProof.Rows
namespace Mine

noncomputable def relabelS (s o : Scope) : Scope := { s with names := s.names.map fun (n, k) => if (k == .free && o.kind == .function && o.names.lookup n == some .cell) then (n, .cell) else (n, k) }
theorem relabel_eq {scope : Scope} {env : Env} {o : Scope} (h : env.scope = o) : relabel scope env = relabelS scope o := by
  subst h; rfl

noncomputable def clOf (f : Str → Addr) : List (Str × NameKind) → List (Str × Addr) → List (Str × Addr)
  | [], acc => acc
  | (x, k) :: r, acc => if k == .free then clOf f r ((x, f x) :: acc) else clOf f r acc

theorem closure_loop {env : Env} {f : Str → Addr} : ∀ (names : List (Str × NameKind)) (acc : List (Str × Addr)), (∀ x, (x, NameKind.free) ∈ names → env.cells.lookup x = some (f x)) →
    (forIn names acc (fun (p : Str × NameKind) (cs : List (Str × Addr)) => (match p with | (name, kind) => if (kind == NameKind.free) = true then (do let c ← cellOf env name; pure (ForInStep.yield ((name, c) :: cs))) else pure (ForInStep.yield cs) : Sem _))) = (pure (clOf f names acc) : Sem _)
  | [], acc, _ => rfl
  | (x, k) :: r, acc, h => by
    rw [List.forIn_cons]
    have ih := fun acc' => closure_loop r acc' fun y hy => h y (.tail _ hy)
    unfold clOf
    by_cases hk : k = .free
    · subst hk
      have : cellOf env x = pure (f x) := by unfold cellOf; rw [h x (.head _)]
      simp only [this, beq_self_eq_true, if_true]
      exact ih _
    · have : (k == NameKind.free) = false := by simpa using hk
      simp only [this, Bool.false_eq_true, if_false]
      exact ih _
theorem closureFor_is {env : Env} {scope : Scope} {f : Str → Addr} (h : ∀ x, (x, NameKind.free) ∈ scope.names → env.cells.lookup x = some (f x)) : closureFor scope env = pure (clOf f scope.names []) := by
  have := closure_loop (f := f) scope.names [] h
  unfold closureFor
  exact congrArg (fun t : Sem (List (Str × Addr)) => t >>= fun cs => pure cs) this

theorem clOf_mem {f : Str → Addr} : ∀ {names : List (Str × NameKind)} {acc : List (Str × Addr)} {x : Str} {c : Addr}, (x, c) ∈ clOf f names acc → ((x, NameKind.free) ∈ names ∧ c = f x) ∨ (x, c) ∈ acc
  | [], _, _, _, h => .inr h
  | (y, k) :: r, acc, x, c, h => by
    unfold clOf at h
    split at h
    · rename_i hk
      rcases clOf_mem h with ⟨h1, h2⟩ | h1
      · exact .inl ⟨.tail _ h1, h2⟩
      · rcases List.mem_cons.mp h1 with e | h1
        · cases e
          have : k = .free := by simpa using hk
          subst this
          exact .inl ⟨.head _, rfl⟩
        · exact .inr h1
    · rcases clOf_mem h with ⟨h1, h2⟩ | h1
      · exact .inl ⟨.tail _ h1, h2⟩
      · exact .inr h1
theorem clOf_has {f : Str → Addr} : ∀ {names : List (Str × NameKind)} {acc : List (Str × Addr)} {x : Str}, ((acc.lookup x).isSome = true ∨ (x, NameKind.free) ∈ names) → ((clOf f names acc).lookup x).isSome = true
  | [], acc, x, h => by
    rcases h with h | h
    · exact h
    · cases h
  | (y, k) :: r, acc, x, h => by
    unfold clOf
    split
    · refine clOf_has ?_
      by_cases e : x = y
      · subst e; exact .inl (by simp)
      · rcases h with h | h
        · refine .inl ?_
          rw [List.lookup_cons]
          have : (x == y) = false := by simpa using e
          rw [this]; exact h
        · rcases List.mem_cons.mp h with h | h
          · cases h; exact absurd rfl e
          · exact .inr h
    · rename_i hk
      refine clOf_has ?_
      rcases h with h | h
      · exact .inl h
      · rcases List.mem_cons.mp h with h | h
        · cases h; simp at hk
        · exact .inr h
theorem clOf_apart {f : Str → Addr} : ∀ {names : List (Str × NameKind)} {acc : List (Str × Addr)}, (names.map (·.1)).Nodup → (∀ x y, (x, NameKind.free) ∈ names → (y, NameKind.free) ∈ names → f x = f y → x = y) →
    acc.Pairwise (fun x y => x.2 ≠ y.2) → (∀ x p, (x, NameKind.free) ∈ names → p ∈ acc → f x ≠ p.2) → (clOf f names acc).Pairwise fun x y => x.2 ≠ y.2
  | [], _, _, _, ha, _ => ha
  | (y, k) :: r, acc, nd, hi, ha, hx => by
    unfold clOf
    rw [List.map_cons, List.nodup_cons] at nd
    split
    · rename_i hk
      have : k = .free := by simpa using hk
      subst this
      refine clOf_apart nd.2 (fun a b h1 h2 => hi a b (.tail _ h1) (.tail _ h2)) (List.pairwise_cons.mpr ⟨fun p hp => hx y p (.head _) hp, ha⟩) fun x p h1 h2 => ?_
      rcases List.mem_cons.mp h2 with e | h2
      · subst e
        intro e
        have := hi x y (.tail _ h1) (.head _) e
        subst this
        exact nd.1 (List.mem_map.mpr ⟨_, h1, rfl⟩)
      · exact hx x p (.tail _ h1) h2
    · exact clOf_apart nd.2 (fun a b h1 h2 => hi a b (.tail _ h1) (.tail _ h2)) ha fun x p h1 h2 => hx x p (.tail _ h1) h2

section
variable {M : Model} {A : Around} {E : Value → Shared → Prop} {s : Shared}
/-- the frame of a comprehension -/
structure CompEnv (scope : Scope) (env : Env) (cl : List (Str × Addr)) (h : Heap) (cenv : Env) (h' : Heap) : Prop where
  scp : cenv.scope = scope
  glob : cenv.globals = env.globals
  bi : cenv.builtins = env.builtins
  loc : cenv.locals = h.objs.size
  ns : h'.Ns cenv.locals fun _ => none
  keep : ∀ b o, h.get? b = some o → h'.get? b = some o
  cells : ∀ x c, cenv.cells.lookup x = some c → cl.lookup x = some c ∨ (cl = [] ∧ h'.IsCell c none ∧ h.objs.size < c)
  apart : cl.Pairwise (fun x y => x.2 ≠ y.2) → cenv.cells.Pairwise fun x y => x.2 ≠ y.2
  has : ∀ x, ((cl.lookup x).isSome = true ∨ (x, NameKind.cell) ∈ scope.names) → ∃ c, cenv.cells.lookup x = some c

theorem newCompEnv {scope : Scope} {cl : List (Str × Addr)} {env : Env} {Q : Env → Shared → Prop} (hk : scope.kind = .function) (hor : (∀ x ∈ scope.names, x.2 ≠ .cell) ∨ cl = [])
    (hQ : ∀ cenv h', CompEnv scope env cl s.heap cenv h' → Q cenv { s with heap := h' }) : wpAny M A (newFunctionEnv scope env.globals cl [] env.qual none .none (some env)) Q E s := by
  rcases hor with hc | rfl
  · refine wpAny_newFunctionEnv hc (by intro y hy; simp at hy) (fun h' hn hs => ?_) hk
    refine hQ _ h' ⟨rfl, rfl, rfl, rfl, hn, fun b o e => ?_, fun x c e => .inl e, fun h => h, fun x h => ?_⟩
    · exact hs.extBut b o (Nat.ne_of_lt (Heap.lt_size e)) (Heap.get?_push_of_some _ e)
    · rcases h with h | h
      · exact Option.isSome_iff_exists.mp h
      · exact absurd rfl (hc _ h)
  · simp only [newFunctionEnv]
    refine wpAny_bind (wpAny_alloc ?_)
    refine wpAny_bind (wpAny_layCells _ (fun name kind cells => by cases hkc : kind == NameKind.cell <;> simp [hkc]) _ _ _ _ ?_)
    have hobj : ({ cls := .type (if (some env).isSome then "dict" else "frame"), data := .dict #[] } : Obj) = { cls := .type "dict", data := .dict #[] } := rfl
    rw [hobj]
    have ok := cellsFrom_ok scope.names (s.heap.push { cls := .type "dict", data := .dict #[] }) (s.heap.objs.size + 1) [] ⟨fun _ _ hm => (nomatch hm), List.Pairwise.nil⟩ (by rw [Heap.size_push]; exact Nat.le_refl _)
    rw [Heap.size_push] at ok
    rw [show ({ s with heap := s.heap.push { cls := .type "dict", data := .dict #[] } } : Shared).heap.objs.size = s.heap.objs.size + 1 from Heap.size_push ..]
    refine wpAny_bind (wpAny_pure (wpAny_pure (hQ _ _ ⟨rfl, rfl, rfl, rfl, (Heap.Ns.new s.heap (.type "dict")).keeps (pushCells_keeps _ _), fun b o e => pushCells_keeps _ _ b o (Heap.get?_push_of_some _ e), fun x c e => .inr ⟨rfl, ?_⟩, fun _ => ok.apart, fun x h => ?_⟩)))
    · have := ok.empty x c (mem_of_lookup e); exact ⟨this.1, this.2⟩
    · rcases h with h | h
      · cases h
      · exact Option.isSome_iff_exists.mp (cellsFrom_has _ _ _ _ (.inr h))
end
end Mine
end

noncomputable section
open PySem PySem.W PyProof.Rows
namespace Mine

section
variable {g : Gl} {n : Nat} {ft : FT}

/-- the tests of a clause -/
@[irreducible] noncomputable def SoundG (g : Gl) (n : Nat) (ft : FT) (ifs : List Expr) (f : Sig → Option Bool) : Prop :=
  ∀ (env : Env), EnvOk ft env → ∀ (σ : Sig) (d : Bool), f σ = some d → ∀ (A : Around), AOk n A → ∀ (M : AS) (B : Heap) (F : Fm) (s : Shared) (Q : Bool → Shared → Prop) (E : Value → Shared → Prop), Inv g s → St g ft env M B F σ s.heap →
    (∀ s', Ext g s s' → Q d s') → wpAny (model g.prog g.w) A (forIn ifs true fun c r => if r = true then do let ok ← isTrue c env (eval c env); pure (ForInStep.yield ok) else pure (ForInStep.yield r)) Q E s
noncomputable def gNil : Sig → Option Bool := fun _ => some true
theorem sgNil : SoundG g n ft [] gNil := by
  (try unfold SoundG at *)
  intro env eo σ d hd A ao M B F s Q E iv S q
  cases hd
  exact wpAny_tests_nil (q s (Ext.refl g s))
theorem sgOne {c : Expr} {f : Sig → Option Bool} (h : SoundT g n ft c f) : SoundG g n ft [c] f := by
  (try unfold SoundT at *); (try unfold SoundG at *)
  intro env eo σ d hd A ao M B F s Q E iv S q
  exact wpAny_tests_one (h env eo σ d hd A ao M B F s Q E iv S q)

theorem compLoopC {prog : Program} {w : World} {A : Around} {s : Shared} {R : Result → Shared → Prop} {elt target iter : Expr} {ifs : List Expr} {scope : Scope} {pos : Pos} {env : Env} {it acc : Value} (I : Nat → Shared → Prop)
    (turn : ∀ n s, I n s → ∀ E, wpAny (model prog w) A (pyNext it) (fun r s₁ => match r with
      | none => R (.ok .next) s₁
      | some v => ∀ E, wpAny (model prog w) A (letOwnedTupleGo target it v) (fun _ s₁' => ∀ E, wpAny (model prog w) A (assign target env v) (fun _ s₂ => ∀ E, wpAny (model prog w) A (forIn ifs true fun c r => if r = true then do let ok ← isTrue c env (eval c env); pure (ForInStep.yield ok) else pure (ForInStep.yield r)) (fun ok s₃ =>
            if ok = true then ∀ E, wpAny (model prog w) A (eval elt env) (fun x s₄ => ∀ E, wpAny (model prog w) A (call (.builtin "list.append") [acc, x]) (fun _ s₅ => ∃ m, m < n ∧ I m s₅) E s₄) E s₃
            else ∃ m, m < n ∧ I m s₃) E s₂) E s₁') E s₁) E s)
    (n : Nat) (h : I n s) : codeAny (model prog w) A (.compLoop (.ListComp elt [⟨target, iter, ifs, 0⟩] scope pos) 0 it acc env) R s := by
  refine codeAny_loop rfl I (fun n s hI => ?_) n h
  show wpAny _ A ((compTurn (.ListComp elt [⟨target, iter, ifs, 0⟩] scope pos) 0 it acc env).onRaise (fun x => do noteFrame x env; theTreesLotGoes x)) _ _ s
  refine wpAny_noted ?_
  rw [compTurn_list]
  refine wpAny_bind (wpAny_standAt (wpAny_bind (wpAny_mono (turn n s hI _) (fun r s₁ h₁ => ?_) fun _ _ h' => h')))
  cases r with
  | none => exact wpAny_pure h₁
  | some v =>
    refine wpAny_bind (wpAny_mono (h₁ _) (fun _ s₁' h₁' => ?_) fun _ _ h' => h')
    refine wpAny_bind (wpAny_mono (h₁' _) (fun _ s₂ h₂ => wpAny_bind (wpAny_mono (h₂ _) (fun ok s₃ h₃ => ?_) fun _ _ h' => h')) fun _ _ h' => h')
    cases ok with
    | false => exact wpAny_pure ⟨rfl, h₃⟩
    | true =>
      exact wpAny_bind (wpAny_bind (wpAny_mono (h₃ _) (fun x s₄ h₄ => wpAny_bind (wpAny_mono (h₄ _) (fun _ s₅ h₅ => wpAny_pure (wpAny_pure ⟨rfl, h₅⟩)) fun _ _ h' => h')) fun _ _ h' => h'))

noncomputable def compL (upd : V → Sig → Option Sig) (t : Sig → Option Bool) (e : Sig → Option V) : List V → Sig → Option (List V)
  | [], _ => some []
  | x :: xs, σ => (upd x σ).bind fun σ₁ => (t σ₁).bind fun b => match b with
    | true => (e σ₁).bind fun d => (compL upd t e xs σ₁).map (d :: ·)
    | false => compL upd t e xs σ₁

noncomputable def lstObj (xs : List Value) (m : Nat) : Obj := { cls := .type "list", data := .seq xs.toArray m }

theorem compRun {env : Env} (eo : EnvOk ft env) {A : Around} (ao : AOk n A) {M : AS} {B : Heap} {F₀ : Fm} {s : Shared} {I D : Addr} {fp : List Addr} {PI : Nat → Value → Prop} {StI : Nat → Heap → Prop} {l : List V} {h₀ : Heap} {tg elt iter : Expr} {ifs : List Expr} {scope : Scope} {pos : Pos} {upd : V → Sig → Option Sig} {t : Sig → Option Bool} {e : Sig → Option V}
    (hu : SoundA g n ft tg upd) (ht : SoundG g n ft ifs t) (he : SoundE g n ft elt e) {av : AS} (ok : ItOk g av h₀ s.heap I fp PI StI l) (hav : ∀ a, F₀.av M a → av a ∨ a = I) (hDI : D ≠ I) (hl : l.length ≤ 1000) {R : Result → Shared → Prop} {σ₀ : Sig} {ds : List V}
    (h0 : compL upd t e l σ₀ = some ds) (T0 : Turn g ft env M B (fun a o => a = D ∧ o = lstObj [] 0) F₀ s.heap I StI 0 σ₀ F₀ s)
    (hR : ∀ s' F' σ' vs m, Inv g s' → St g ft env M B F' σ' s'.heap → Step g F₀ F' s.heap s'.heap → F'.W D = some (.priv (lstObj vs m)) → ds.length ≤ l.length → RepL s'.heap (F'.av M) ds vs → R (.ok .next) s') :
    codeAny (model g.prog g.w) A (.compLoop (.ListComp elt [⟨tg, iter, ifs, 0⟩] scope pos) 0 (.ref I) (.ref D) env) R s := by
  (try unfold SoundE at *); (try unfold SoundA at *); (try unfold SoundG at *)
  refine compLoopC (fun k s₁ => ∃ i F' σ₁ ds₁ ds₂ vs m, i ≤ l.length ∧ k = l.length - i ∧ compL upd t e (l.drop i) σ₁ = some ds₂ ∧ ds = ds₁ ++ ds₂ ∧ ds₁.length ≤ i ∧ RepL s₁.heap (F'.av M) ds₁ vs ∧ Turn g ft env M B (fun a o => a = D ∧ o = lstObj vs m) F₀ s.heap I StI i σ₁ F' s₁) ?_ l.length
    ⟨0, F₀, σ₀, [], ds, [], 0, Nat.zero_le _, rfl, by simpa using h0, rfl, Nat.zero_le _, .nil, T0⟩
  rintro k s₁ ⟨i, F', σ₁, ds₁, ds₂, vs, m, hi, rfl, hf, hds, hlen, hrep, T⟩ E
  have W := ok.walks A ao.handled
  have tb := T.st.Mtab
  have hI : ∀ o, ¬ (I = D ∧ o = lstObj vs m) := fun o q => hDI q.1.symm
  by_cases hlt : i < l.length
  · refine up T.inv.tok fun E' => W.item i s₁ _ E' hlt T.it fun v h' tk hP hst hk htk => ?_
    obtain ⟨o', Ty, ho, hc, hT⟩ := ok.has _ _ hst
    obtain ⟨F'', T', hw', st'⟩ := turnNext hI T hk ho htk hst
    obtain ⟨x, hx, rx⟩ := ok.item i v hP
    have rx' := repStep T'.step tb (rx.weaken (M' := F₀.av M) hav)
    have hrep' := repLStep st' tb hrep
    intro E
    refine letOwned_any ho hc hT ?_
    intro E
    rw [List.drop_eq_getElem_cons hlt] at hf
    have ex : l[i] = x := by rw [List.getElem?_eq_getElem hlt] at hx; cases hx; rfl
    rw [ex, compL] at hf
    obtain ⟨σ₂, h2, hf⟩ := bind_some hf
    obtain ⟨b, hb, hf⟩ := bind_some hf
    refine hu env eo σ₁ x σ₂ h2 A ao M B F'' _ v _ E T'.inv T'.st rx' fun s₂ F₂ iv₂ w₂ st₂ S₂ => ?_
    intro E
    have hrep₂ := repLStep st₂ tb hrep'
    have hwI : F₂.W I = some (.priv o') := w₂ _ _ hw'
    have hwD : F₂.W D = some (.priv (lstObj vs m)) := w₂ _ _ (T'.old D _ ⟨rfl, rfl⟩)
    refine ht env eo σ₂ b hb A ao M B F₂ s₂ _ E iv₂ S₂ fun s₃ x₃ => ?_
    have iv₃ := x₃.inv iv₂
    have S₃ := S₂.extE x₃
    have hrep₃ := S₂.repLExt x₃ hrep₂
    have stA₃ : Step g F₀ F₂ s.heap s₃.heap := (T'.step.trans st₂).trans (x₃.step F₂)
    -- the iterator stands where it stood
    have again : ∀ (s₄ : Shared) (F₄ : Fm), Step g F₀ F₄ s.heap s₄.heap → F₄.W I = some (.priv o') → St g ft env M B F₄ σ₂ s₄.heap → StI (i + 1) s₄.heap := by
      intro s₄ F₄ stA hwI S₄
      refine W.frame _ _ _ hst fun b hbf ob e => ?_
      by_cases hbI : b = I
      · subst hbI
        have e1 : ob = o' := by rw [ho] at e; cases e; rfl
        rw [e1]; exact S₄.priv _ _ hwI
      · obtain ⟨nav, ob', hob⟩ := ok.fps b hbf hbI
        have nch : ¬ F₀.ch g b := fun q => (hav b (chAv tb b q)).elim nav hbI
        have h1 := T'.step.kp b ob' nch hob
        have h2 : ob' = ob := by
          have h3 : h'.get? b = some ob' := h1
          rw [h3] at e; cases e; rfl
        rw [← h2]; exact stA.kp b ob' nch hob
    cases b with
    | false =>
      rw [if_neg (by decide)]
      refine ⟨l.length - (i + 1), by omega, i + 1, F₂, σ₂, ds₁, ds₂, vs, m, hlt, rfl, hf, hds, Nat.le_succ_of_le hlen, hrep₃, ⟨iv₃, again s₃ F₂ stA₃ hwI S₃, ⟨o', hwI⟩, fun a o p => by rw [p.1, p.2]; exact hwD, stA₃, S₃⟩⟩
    | true =>
      obtain ⟨d, hd, hf⟩ := bind_some hf
      rw [if_pos rfl]
      intro E
      refine he env eo σ₂ d hd A ao M B F₂ s₃ _ E iv₃ S₃ fun v₄ s₄ x₄ r₄ => ?_
      intro E
      have iv₄ := x₄.inv iv₃
      have S₄ := S₃.extE x₄
      have hrep₄ := S₃.repLExt x₄ hrep₃
      have hoD := S₄.priv _ _ hwD
      refine wpAny_list_append_plain (hsz := by rw [List.size_toArray, hrep.length, sizeLine_is]; omega) ⟨m, hoD⟩ fun h₅ hl₅ hs₅ => ?_
      obtain ⟨m₅, hm₅⟩ := hl₅
      have e5 : vs.toArray.push v₄ = (vs ++ [v₄]).toArray := by simp
      rw [e5] at hm₅
      obtain ⟨S₅, st₅⟩ := S₄.repriv hwD (Kp.same hs₅ rfl) hm₅
      have hwI₅ : ({ F₂ with W := fun a => if a = D then some (.priv (lstObj (vs ++ [v₄]) m₅)) else F₂.W a } : Fm).W I = some (.priv o') := by
        show (if I = D then _ else _) = _
        rw [if_neg (Ne.symm hDI)]; exact hwI
      have stA₅ := (stA₃.trans (x₄.step F₂)).trans st₅
      cases hmap : compL upd t e (l.drop (i + 1)) σ₂ with
      | none => rw [hmap] at hf; cases hf
      | some ds₃ =>
        rw [hmap] at hf; cases hf
        refine ⟨l.length - (i + 1), by omega, i + 1, _, σ₂, ds₁ ++ [d], ds₃, vs ++ [v₄], m₅, hlt, rfl, hmap, by rw [hds, List.append_assoc]; rfl, by rw [List.length_append, List.length_singleton]; omega, repLStep st₅ tb (hrep₄.snoc r₄),
          ⟨iv₄.same (t := s₄.toks) hs₅ (S₄.low D _ hwD).2.2.1 (S₄.low D _ hwD).2.2.2, again _ _ stA₅ hwI₅ S₅, ⟨o', hwI₅⟩, fun a o p => ?_, stA₅, S₅⟩⟩
        rw [p.1, p.2]
        show (if D = D then _ else _) = _
        rw [if_pos rfl]; rfl
  · have hil : i = l.length := by omega
    subst hil
    refine up T.inv.tok fun E' => W.done s₁ _ E' T.it fun h' tk hk htk => ?_
    rw [List.drop_length] at hf
    cases hf
    obtain ⟨o, hw⟩ := T.priv
    obtain ⟨S', st'⟩ := T.st.drop hw (kpOne hk)
    rw [List.append_nil] at hds
    subst hds
    refine hR _ _ σ₁ vs m (T.inv.but (T.st.low I _ hw) (kpOne hk) htk) S' (T.step.trans st') ?_ hlen (repLStep st' tb hrep)
    show (if D = I then none else F'.W D) = _
    rw [if_neg hDI]; exact T.old D _ ⟨rfl, rfl⟩
end
end Mine
end

noncomputable section
open PySem PySem.W PyProof.Rows
namespace Mine

noncomputable def capOk (ft fc : FT) (scope : Scope) (i j : Nat) : Bool := match fc.tbl[j]?, ft.tbl[i]? with
  | some (x, k, false), some (y, k', false) => x == y && k != .local && k' != .local && scope.names.contains (x, .free)
  | _, _ => false
noncomputable def freeOk (ft : FT) (is : List Nat) (x : Str) : Bool := is.any fun i => match ft.tbl[i]? with
  | some (y, k', false) => y == x && k' != .local
  | _ => false
/-- the names of a comprehension -/
structure CompOk (ft : FT) (scope : Scope) (fc : FT) (is : List Nat) : Prop where
  code : fc.code = none
  scp : fc.scope = relabelS scope ft.scope
  kind : scope.kind = .function
  names : (scope.names.map (·.1)).Nodup
  tbl : ∀ p ∈ fc.tbl, fc.scope.names.lookup p.1 = some p.2.1 ∧ p.2.2 = false ∧ (p.2.1 = .local ∨ ((p.2.1 = .cell ∨ p.2.1 = .free) ∧ (p.1 == ("__classdict__" : Str)) = false ∧ ((p.1, NameKind.free) ∈ scope.names ∨ (p.1, NameKind.cell) ∈ scope.names)))
  uniq : (fc.tbl.map (·.1)).Nodup
  own : (∀ x ∈ scope.names, x.2 ≠ .cell) ∨ (∀ x ∈ scope.names, x.2 ≠ .free)
  wc : fc.wc = true → ∀ x ∈ scope.names, x.2 ≠ .free
  caps : ∀ j, j < is.length → capOk ft fc scope (is.getD j 0) j = true
  free : ∀ p ∈ scope.names, p.2 = .free → freeOk ft is p.1 = true

noncomputable def compOkB (ft : FT) (scope : Scope) (fc : FT) (is : List Nat) : Bool :=
  (decide (scope.names.map (·.1)).Nodup) && (fc.tbl.all fun p => decide (fc.scope.names.lookup p.1 = some p.2.1) && !p.2.2 && (decide (p.2.1 = .local) || ((decide (p.2.1 = .cell) || decide (p.2.1 = .free)) && !(p.1 == ("__classdict__" : Str)) && (decide ((p.1, NameKind.free) ∈ scope.names) || decide ((p.1, NameKind.cell) ∈ scope.names))))) &&
  (decide (fc.tbl.map (·.1)).Nodup) && ((scope.names.all fun x => decide (x.2 ≠ .cell)) || (scope.names.all fun x => decide (x.2 ≠ .free))) && (!fc.wc || (scope.names.all fun x => decide (x.2 ≠ .free))) &&
  ((List.range is.length).all fun j => capOk ft fc scope (is.getD j 0) j) && (scope.names.all fun p => !decide (p.2 = .free) || freeOk ft is p.1)
theorem compOk {ft : FT} {scope : Scope} {fc : FT} {is : List Nat} (h1 : fc.scope = relabelS scope ft.scope) (h2 : scope.kind = .function) (h : compOkB ft scope fc is = true) (h0 : fc.code = none := by rfl) : CompOk ft scope fc is := by
  simp only [compOkB, Bool.and_eq_true, decide_eq_true_eq, List.all_eq_true, Bool.or_eq_true, Bool.not_eq_true'] at h
  obtain ⟨⟨⟨⟨⟨⟨a1, a2⟩, a3⟩, a4⟩, a5⟩, a6⟩, a7⟩ := h
  refine ⟨h0, h1, h2, a1, fun p hp => ?_, a3, a4, fun hw => ?_, fun j hj => a6 j (List.mem_range.mpr hj), fun p hp e => ?_⟩
  · obtain ⟨⟨b1, b2⟩, b3⟩ := a2 p hp
    exact ⟨b1, b2, b3.imp id fun ⟨⟨c1, c2⟩, c3⟩ => ⟨c1, c2, c3⟩⟩
  · rcases a5 with q | q
    · rw [hw] at q; cases q
    · exact q
  · rcases a7 p hp with q | q
    · simp [e] at q
    · exact q

theorem lookup_of_nodup : ∀ {l : List (Str × NameKind)} {x : Str} {k : NameKind}, (l.map (·.1)).Nodup → (x, k) ∈ l → l.lookup x = some k
  | (y, k') :: r, x, k, nd, h => by
    rw [List.map_cons, List.nodup_cons] at nd
    rw [List.lookup_cons]
    by_cases e : x = y
    · subst e
      rcases List.mem_cons.mp h with h | h
      · cases h; simp
      · exact absurd (List.mem_map.mpr ⟨_, h, rfl⟩) nd.1
    · have : (x == y) = false := by simpa using e
      rw [this]
      rcases List.mem_cons.mp h with h | h
      · cases h; exact absurd rfl e
      · exact lookup_of_nodup nd.2 h

section
variable {g : Gl} {n : Nat} {ft : FT}

theorem freshLow {s : Shared} (iv : Inv g s) {a : Addr} (h : s.heap.get? a = none) : g.G.get? a = none ∧ a ≠ g.TB := by
  have t : a ≠ g.TB := by rintro rfl; exact iv.tabSome h
  refine ⟨?_, t⟩
  cases q : g.G.get? a with
  | none => rfl
  | some o => have := iv.keep a o t q; rw [h] at this; cases this
theorem Ext.none {s s' : Shared} (x : Ext g s s') (iv : Inv g s) {a : Addr} (h : s'.heap.get? a = none) : s.heap.get? a = none := by
  cases q : s.heap.get? a with
  | none => rfl
  | some o =>
    have t : a ≠ g.TB := by rintro rfl; exact (x.inv iv).tabSome h
    have := x.keep a o t q; rw [h] at this; cases this

noncomputable def sigC (is : List Nat) (k : Nat) (σ : Sig) : Sig := is.map (fun i => σ.getD i none) ++ List.replicate k none

theorem compCore {fc : FT} {scope : Scope} {is : List Nat} (k : Nat) (co : CompOk ft scope fc is) {tg elt iter : Expr} {ifs : List Expr} {pos pos' : Pos} {it : Sig → Option (List V)} {upd : V → Sig → Option Sig} {t : Sig → Option Bool} {e : Sig → Option V}
    (hi : SoundI g n ft iter it) (hu : SoundA g n fc tg upd) (ht : SoundG g n fc ifs t) (he : SoundE g n fc elt e) (hs : ∀ env x, foldedSetIterable iter env x = pure x)
    {env : Env} (eo : EnvOk ft env) {σ : Sig} {l ds : List V} (hl : it σ = some l) (hll : l.length ≤ 1000) (hds : compL upd t e l (sigC is k σ) = some ds) {A : Around} (ao : AOk n A) {M : AS} {B : Heap} {F : Fm} {s : Shared} {use : Option (Value → Sem Unit)} {Q : Value → Shared → Prop} {E : Value → Shared → Prop}
    (iv : Inv g s) (S : St g ft env M B F σ s.heap)
    (hfin : ∀ s' C D vs m mm, Ext g s s' → s.heap.get? C = none → s.heap.get? D = none → D ≠ C → s'.heap.Ns C mm → s'.heap.get? D = some (lstObj vs m) → ds.length ≤ 1000 → RepL s'.heap (fun a => F.av M a ∨ a = C ∨ a = D) ds vs → compPost (model g.prog g.w) A E use Q (.ref D) C (.ok .next) s') :
    wpAny (model g.prog g.w) A (comprehension (.ListComp elt [⟨tg, iter, ifs, 0⟩] scope pos) scope env pos' (newList []) false (eval iter env) use) Q E s := by
  (try unfold SoundE at *); (try unfold SoundA at *); (try unfold SoundI at *); (try unfold SoundG at *)
  -- the cells that are caught
  have fcell : ∀ x, (x, NameKind.free) ∈ scope.names → ∃ (c : Addr) (i : Nat) (k' : NameKind), ft.tbl[i]? = some (x, k', false) ∧ k' ≠ NameKind.local ∧ env.cells.lookup x = some c := by
    intro x hx
    have h1 := co.free _ hx rfl
    unfold freeOk at h1
    obtain ⟨i, _, h2⟩ := List.any_eq_true.mp h1
    split at h2
    · rename_i y k' e
      simp only [Bool.and_eq_true, beq_iff_eq, bne_iff_ne, ne_eq] at h2
      obtain ⟨rfl, hk'⟩ := h2
      rcases (eo.tbl _ _ _ _ e).2 with h3 | ⟨_, _, _, c, hc⟩
      · exact absurd h3 hk'
      · exact ⟨c, i, k', e, hk', hc⟩
    · cases h2
  let f : Str → Addr := fun x => (env.cells.lookup x).getD 0
  have hf : ∀ x, (x, NameKind.free) ∈ scope.names → env.cells.lookup x = some (f x) := by
    intro x hx
    obtain ⟨c, _, _, _, _, hc⟩ := fcell x hx
    show _ = some ((env.cells.lookup x).getD 0)
    rw [hc]; rfl
  have hclos := closureFor_is hf
  have hapart : (clOf f scope.names []).Pairwise fun x y => x.2 ≠ y.2 := by
    refine clOf_apart co.names (fun x y hx hy e => ?_) .nil (fun _ _ _ h => nomatch h)
    have h1 := mem_of_lookup (hf x hx)
    have h2 := mem_of_lookup (hf y hy)
    rw [e] at h1
    exact name_of_addr eo.apart h1 h2
  have hclok : ∀ x c, (clOf f scope.names []).lookup x = some c → (x, NameKind.free) ∈ scope.names ∧ env.cells.lookup x = some c := by
    intro x c h
    rcases clOf_mem (mem_of_lookup h) with ⟨h1, h2⟩ | h1
    · exact ⟨h1, by rw [h2]; exact hf x h1⟩
    · cases h1
  refine wpAny_comprehension_free rfl (hs env) hclos co.kind (fun x hx e => by rw [← e]; exact lookup_of_nodup co.names hx) ?_
  refine hi env eo σ l hl A ao M B F s _ E iv S fun I s₂ fp PI StI x₂ ok => ?_
  have iv₂ := x₂.inv iv
  have S₂ := S.extE x₂
  refine wpAny_newObj_type (newCompEnv co.kind ?_ fun cenv h₄ ce => ?_)
  · rcases co.own with h | h
    · exact .inl h
    · refine .inr ?_
      cases hq : clOf f scope.names [] with
      | nil => rfl
      | cons p r =>
        have hm : (p.1, p.2) ∈ clOf f scope.names [] := by rw [hq]; exact .head _
        rcases clOf_mem hm with ⟨h1, _⟩ | h1
        · exact absurd rfl (h _ h1)
        · cases h1
  let D := s₂.heap.objs.size
  let h₃ := s₂.heap.push (lstObj [] 0)
  have hD₃ : h₃.get? D = some (lstObj [] 0) := Heap.get?_push_size _ rfl
  have hsz₃ : h₃.objs.size = s₂.heap.objs.size + 1 := Heap.size_push ..
  have keep₃ : ∀ a o, s₂.heap.get? a = some o → h₃.get? a = some o := fun _ _ e => Heap.get?_push_of_some _ e
  have keep₄ : ∀ a o, s₂.heap.get? a = some o → h₄.get? a = some o := fun a o e => ce.keep a o (keep₃ a o e)
  have hCloc : cenv.locals = s₂.heap.objs.size + 1 := ce.loc.trans hsz₃
  have none₂ : ∀ a, s₂.heap.objs.size ≤ a → s₂.heap.get? a = none := by
    intro a h
    cases e : s₂.heap.get? a with
    | none => rfl
    | some o => exact absurd (Heap.lt_size e) (Nat.not_lt.mpr h)
  have none₀ : ∀ a, s₂.heap.objs.size ≤ a → s.heap.get? a = none := fun a h => x₂.none iv (none₂ a h)
  let s₄ : Shared := { s₂ with heap := h₄ }
  have x₄ : Ext g s₂ s₄ := Ext.heap keep₄
  have x₀₄ : Ext g s s₄ := x₂.trans x₄
  have iv₄ := x₄.inv iv₂
  obtain ⟨oI, TI, hoI, hcI, hTI⟩ := ok.has 0 _ ok.start
  have hoI₄ : h₄.get? I = some oI := keep₄ _ _ hoI
  have hDI : D ≠ I := by intro e; have := Heap.lt_size hoI; rw [← e] at this; exact Nat.lt_irrefl _ this
  have hDC : D ≠ cenv.locals := by rw [hCloc]; exact Nat.ne_of_lt (Nat.lt_succ_self _)
  have hIC : I ≠ cenv.locals := by intro e; have := Heap.lt_size hoI; rw [e, hCloc] at this; exact Nat.lt_irrefl _ (Nat.lt_of_succ_lt this)
  -- the frame of the comprehension
  let cenv' : Env := { cenv with scope := relabel scope env }
  have hscp : cenv'.scope = fc.scope := by
    show relabel scope env = _
    rw [relabel_eq eo.scope, co.scp]
  have hfck : fc.scope.kind = .function := by rw [co.scp]; exact co.kind
  have eo' : EnvOk fc cenv' := by
    refine ⟨fun c h => by (rw [co.code] at h; cases h), hscp, ce.glob.trans eo.glob, ce.bi.trans eo.bi, hfck, fun i x kd own he => ?_, ce.apart hapart, fun i j x k1 k2 o1 o2 e1 e2 => ?_⟩
    · obtain ⟨h1, h2, h3⟩ := co.tbl _ (List.mem_of_getElem? he)
      refine ⟨h1, h3.imp id fun ⟨h4, h5, h6⟩ => ⟨h4, h2, h5, ce.has x (h6.imp (fun h => clOf_has (.inr h)) id)⟩⟩
    · have h1 : (fc.tbl.map (·.1))[i]? = some x := by rw [List.getElem?_map, e1]; rfl
      have h2 : (fc.tbl.map (·.1))[j]? = some x := by rw [List.getElem?_map, e2]; rfl
      exact nodup_inj co.uniq h1 h2
  let own : Str → Prop := fun x => (∃ c, cenv.cells.lookup x = some c ∧ s₂.heap.objs.size + 1 < c)
  have cellsOr : ∀ x c, cenv.cells.lookup x = some c → ((x, NameKind.free) ∈ scope.names ∧ env.cells.lookup x = some c) ∨ (clOf f scope.names [] = [] ∧ h₄.IsCell c none ∧ s₂.heap.objs.size + 1 < c) := by
    intro x c h
    rcases ce.cells x c h with h | ⟨h1, h2, h3⟩
    · exact .inl (hclok x c h)
    · exact .inr ⟨h1, h2, by have h5 : h₃.objs.size < c := h3; rw [hsz₃] at h5; exact h5⟩
  have oldCell : ∀ x c, env.cells.lookup x = some c → F.av M c ∧ c ≠ g.TB ∧ s₂.heap.IsCell c (F.cm x) := by
    intro x c h
    obtain ⟨p, hc⟩ := S₂.cell x c h
    rcases p with w | ⟨_, m, nt⟩
    · exact ⟨.inr (by rw [w]; exact fun z => nomatch z), (S₂.low c _ w).2.2.2, hc⟩
    · exact ⟨.inl m, nt, hc⟩
  let W : Addr → Option Role := fun b => if b = cenv.locals then some .loc else if b = D then some (.priv (lstObj [] 0)) else if b = I then some (.priv oI) else open Classical in if h : ∃ y, cenv.cells.lookup y = some b ∧ s₂.heap.objs.size + 1 < b then some (.cell h.choose) else none
  have wL : W cenv.locals = some .loc := if_pos rfl
  have wD : W D = some (.priv (lstObj [] 0)) := by show (if D = cenv.locals then _ else _) = _; rw [if_neg hDC, if_pos rfl]
  have wI : W I = some (.priv oI) := by show (if I = cenv.locals then _ else _) = _; rw [if_neg hIC, if_neg (Ne.symm hDI), if_pos rfl]
  have wC : ∀ y c, cenv.cells.lookup y = some c → s₂.heap.objs.size + 1 < c → W c = some (.cell y) := by
    intro y c e hc
    have n1 : c ≠ cenv.locals := by rw [hCloc]; exact Nat.ne_of_gt hc
    have n2 : c ≠ D := Nat.ne_of_gt (Nat.lt_of_succ_lt hc)
    have n3 : c ≠ I := by rintro rfl; have := Heap.lt_size hoI; exact Nat.lt_irrefl _ (Nat.lt_trans (Nat.lt_of_succ_lt hc) this)
    have hex : ∃ y, cenv.cells.lookup y = some c ∧ s₂.heap.objs.size + 1 < c := ⟨y, e, hc⟩
    show (if c = cenv.locals then _ else _) = _
    rw [if_neg n1, if_neg n2, if_neg n3, dif_pos hex]
    have := name_of_addr (ce.apart hapart) (mem_of_lookup hex.choose_spec.1) (mem_of_lookup e)
    rw [this]
  have wOf : ∀ b r, W b = some r → (s₂.heap.objs.size ≤ b ∨ b = I) ∧ h₄.get? b ≠ none ∧ ((∃ o, r = .priv o ∧ h₄.get? b = some o) ∨ r = .loc ∨ ∃ y, r = .cell y) := by
    intro b r w
    have w' : (if b = cenv.locals then some Role.loc else if b = D then some (.priv (lstObj [] 0)) else if b = I then some (.priv oI) else open Classical in if h : ∃ y, cenv.cells.lookup y = some b ∧ s₂.heap.objs.size + 1 < b then some (.cell h.choose) else none) = some r := w
    by_cases e : b = cenv.locals
    · rw [if_pos e] at w'; cases w'
      obtain ⟨o, _, _, ho, _⟩ := ce.ns
      exact ⟨.inl (by rw [e, hCloc]; exact Nat.le_succ _), by rw [e]; exact get_ne_none ho, .inr (.inl rfl)⟩
    rw [if_neg e] at w'
    by_cases e2 : b = D
    · rw [if_pos e2] at w'; cases w'
      have := ce.keep _ _ hD₃
      exact ⟨.inl (by rw [e2]; exact Nat.le_refl _), by rw [e2]; exact get_ne_none this, .inl ⟨_, rfl, by rw [e2]; exact this⟩⟩
    rw [if_neg e2] at w'
    by_cases e3 : b = I
    · rw [if_pos e3] at w'; cases w'
      exact ⟨.inr e3, by rw [e3]; exact get_ne_none hoI₄, .inl ⟨_, rfl, by rw [e3]; exact hoI₄⟩⟩
    rw [if_neg e3] at w'
    by_cases hex : ∃ y, cenv.cells.lookup y = some b ∧ s₂.heap.objs.size + 1 < b
    · rw [dif_pos hex] at w'; cases w'
      obtain ⟨y, hy, hb⟩ := hex
      refine ⟨.inl (by omega), ?_, .inr (.inr ⟨_, rfl⟩)⟩
      rcases cellsOr y b hy with ⟨_, h⟩ | ⟨_, ⟨oc, hoc, _⟩, _⟩
      · obtain ⟨_, _, oc, hoc, _⟩ := oldCell y b h
        exact get_ne_none (keep₄ _ _ hoc)
      · exact get_ne_none hoc
    · rw [dif_neg hex] at w'; cases w'
  have wFresh : ∀ b r, W b = some r → s.heap.get? b = none := by
    intro b r w
    rcases (wOf b r w).1 with h | rfl
    · exact none₀ b h
    · exact ok.fresh
  let cm : Str → Option Value := open Classical in fun x => if own x then none else F.cm x
  let F₀ : Fm := ⟨W, fun _ => none, cm⟩
  have fr : ∀ a, F.av M a → s.heap.get? a ≠ none := S.avSome iv
  have S₀ : St g fc cenv' (F.av M) s.heap F₀ (sigC is k σ) h₄ := by
    refine ⟨ce.ns, wL, fun x c h => ?_, fun a o w => ?_, fun a r w => ?_, fr, .inl S.Mtab, x₀₄.keep, fun i y kd o d he hd => ?_⟩
    · have hlk : cenv.cells.lookup x = some c := h
      by_cases hbig : s₂.heap.objs.size + 1 < c
      · have hown : own x := ⟨c, hlk, hbig⟩
        refine ⟨.inl (wC x c hlk hbig), ?_⟩
        show h₄.IsCell c (open Classical in if own x then none else F.cm x)
        rw [if_pos hown]
        rcases cellsOr x c hlk with ⟨_, h2⟩ | ⟨_, h2, _⟩
        · obtain ⟨_, _, oc, hoc, _⟩ := oldCell x c h2
          exact (Nat.lt_irrefl _ (Nat.lt_trans (Nat.lt_of_succ_lt hbig) (Heap.lt_size hoc))).elim
        · exact h2
      · have hown : ¬ own x := by rintro ⟨c', h1, h2⟩; rw [hlk] at h1; cases h1; exact hbig h2
        rcases cellsOr x c hlk with ⟨h1, h2⟩ | ⟨_, _, h3⟩
        · obtain ⟨a1, a2, a3⟩ := oldCell x c h2
          refine ⟨.inr ⟨?_, a1, a2⟩, ?_⟩
          · cases hw : fc.wc with
            | false => rfl
            | true => exact absurd rfl (co.wc hw _ h1)
          · show h₄.IsCell c (open Classical in if own x then none else F.cm x)
            rw [if_neg hown]
            exact a3.keeps keep₄
        · exact absurd h3 hbig
    · rcases (wOf a _ w).2.2 with ⟨o', e1, e2⟩ | e | ⟨_, e⟩
      · cases e1; exact e2
      · cases e
      · cases e
    · obtain ⟨_, h2, _⟩ := wOf a r w
      have h1 := wFresh a r w
      exact ⟨h1, h2, (freshLow iv h1).1, (freshLow iv h1).2⟩
    · unfold sigC at hd
      rw [List.getD_eq_getElem?_getD] at hd
      have hi' : i < is.length := by
        by_cases h : i < is.length
        · exact h
        · rw [List.getElem?_append_right (by rw [List.length_map]; omega)] at hd
          by_cases h2 : i - (is.map fun i => σ.getD i none).length < k
          · rw [List.getElem?_replicate, if_pos h2] at hd; cases hd
          · rw [List.getElem?_replicate, if_neg h2] at hd; cases hd
      rw [List.getElem?_append_left (by rw [List.length_map]; exact hi'), List.getElem?_map, List.getElem?_eq_getElem hi'] at hd
      have hd' : σ.getD is[i] none = some d := hd
      have hcap := co.caps i hi'
      have hgd : is.getD i 0 = is[i] := by rw [List.getD_eq_getElem?_getD, List.getElem?_eq_getElem hi']; rfl
      rw [hgd] at hcap
      unfold capOk at hcap
      rw [he] at hcap
      split at hcap
      · rename_i x₁ k₁ y₁ k₂ e1 e2
        cases e1
        simp only [Bool.and_eq_true, beq_iff_eq, bne_iff_ne, ne_eq, List.contains_iff_mem] at hcap
        obtain ⟨⟨⟨hxy, hk1⟩, hk2⟩, hfree⟩ := hcap
        subst hxy
        obtain ⟨v, hv, r⟩ := S.var _ _ _ _ d e2 hd'
        rw [if_neg hk2] at hv
        have hown : ¬ own y := by
          rintro ⟨c', h1, h2⟩
          rcases cellsOr y c' h1 with ⟨_, h3⟩ | ⟨h3, _, _⟩
          · obtain ⟨_, _, oc, hoc, _⟩ := oldCell y c' h3
            exact (Nat.lt_irrefl _ (Nat.lt_trans (Nat.lt_of_succ_lt h2) (Heap.lt_size hoc))).elim
          · have := clOf_has (f := f) (acc := []) (.inr hfree)
            rw [h3] at this; cases this
        refine ⟨v, ?_, ?_⟩
        · rw [if_neg hk1]
          show (open Classical in if own y then none else F.cm y) = some v
          rw [if_neg hown]; exact hv
        · rcases r with ⟨_, r⟩ | ⟨o', _⟩ | ⟨o', _⟩
          · refine .inl ⟨rfl, ?_⟩
            have r1 := r.fresh (M' := fun a => F.av M a ∨ F₀.av (F.av M) a) fun a ha => by
              rcases ha with h | h | h
              · exact .inl h
              · exact .inl h
              · refine .inr ?_
                cases w : W a with
                | none => exact absurd w h
                | some r' => exact wFresh a r' w
            exact r1.keep x₀₄.keep (fun a e => .inl (.inl (e ▸ S.Mtab))) fun a ha => .inr ha
          · cases o'
          · cases o'
      · cases hcap
  -- what is walked
  let av : AS := fun a => F₀.av (F.av M) a ∧ a ≠ I
  have W₂ := ok.walks A ao.handled
  have ok' : ItOk g av s.heap h₄ I fp PI StI l := by
    refine ⟨ok.walks, W₂.frame _ _ _ ok.start fun b _ o e => keep₄ b o e, ok.fresh, fun b hb hne => ?_, ok.has, fun i v hP => ?_⟩
    · obtain ⟨h1, o, ho⟩ := ok.fps b hb hne
      refine ⟨fun q => ?_, o, keep₄ _ _ ho⟩
      rcases q with ⟨q | q, _⟩
      · exact h1 q
      · cases w : W b with
        | none => exact absurd w q
        | some r =>
          rcases (wOf b r w).1 with h | h
          · rw [none₂ b h] at ho; cases ho
          · exact hne h
    · obtain ⟨x, hx, r⟩ := ok.item i v hP
      refine ⟨x, hx, ?_⟩
      have r1 := r.fresh (M' := fun a => (F.av M a ∨ a = I) ∨ (av a ∨ a = I)) fun a ha => by
        rcases ha with h | (⟨h | h, _⟩ | h)
        · exact .inl h
        · exact .inl (.inl h)
        · cases w : W a with
          | none => exact absurd w h
          | some r' =>
            rcases (wOf a r' w).1 with h | h
            · exact .inr (none₂ a h)
            · exact .inl (.inr h)
        · exact .inl (.inr h)
      exact r1.keep x₄.keep (fun a e => .inl (.inl (.inl (e ▸ S.Mtab)))) fun a ha => .inr ha
  have T0 : Turn g fc cenv' (F.av M) s.heap (fun a o => a = D ∧ o = lstObj [] 0) F₀ h₄ I StI 0 (sigC is k σ) F₀ s₄ :=
    ⟨iv₄, ok'.start, ⟨oI, wI⟩, fun a o p => by rw [p.1, p.2]; exact wD, Step.refl _ _ _, S₀⟩
  have loop : codeAny (model g.prog g.w) A (.compLoop (.ListComp elt [⟨tg, iter, ifs, 0⟩] scope pos) 0 (.ref I) (.ref D) cenv') (compPost (model g.prog g.w) A E use Q (.ref D) cenv.locals) s₄ := by
    refine compRun (s := s₄) eo' ao (by unfold SoundA; exact hu) (by unfold SoundG; exact ht) (by unfold SoundE; exact he) ok' (fun a h => ?_) hDI hll hds T0 fun s' F' σ' vs m iv' S' st' hwD' hlen rep' => ?_
    · by_cases e : a = I
      · exact .inr e
      · exact .inl ⟨h, e⟩
    · have x' : Ext g s s' := ⟨S'.keep, fun _ => iv'⟩
      refine hfin s' cenv.locals D vs m _ x' (wFresh _ _ wL) (wFresh _ _ wD) hDC S'.ns (S'.priv _ _ hwD') (Nat.le_trans hlen hll) (rep'.weaken fun a ha => ?_)
      rcases ha with h | h | h
      · exact .inl h
      · subst h; exact .inr (by have := S'.loc; rw [show cenv'.locals = cenv.locals from rfl] at this; rw [this]; exact fun z => nomatch z)
      · subst h; exact .inr (by rw [hwD']; exact fun z => nomatch z)
  exact codeAny_compStart_list loop (W₂.self 0 _ _ _ ok'.start loop)
end
end Mine
end

noncomputable section
open PySem PySem.W PyProof.Rows
namespace Mine

section
variable {g : Gl} {n : Nat} {ft : FT}

noncomputable def eComp (is : List Nat) (k : Nat) (it : Sig → Option (List V)) (upd : V → Sig → Option Sig) (t : Sig → Option Bool) (e : Sig → Option V) : Sig → Option V := fun σ => (it σ).bind fun l => if l.length ≤ 1000 then (compL upd t e l (sigC is k σ)).map .lst else none

theorem sComp {fc : FT} {scope : Scope} {is : List Nat} (k : Nat) (co : CompOk ft scope fc is) {tg elt iter : Expr} {ifs : List Expr} {pos : Pos} {it : Sig → Option (List V)} {upd : V → Sig → Option Sig} {t : Sig → Option Bool} {e : Sig → Option V}
    (hi : SoundI g n ft iter it) (hu : SoundA g n fc tg upd) (ht : SoundG g n fc ifs t) (he : SoundE g n fc elt e) (hs : ∀ env x, foldedSetIterable iter env x = pure x := by intro _ _; rfl) :
    SoundE g n ft (.ListComp elt [⟨tg, iter, ifs, 0⟩] scope pos) (eComp is k it upd t e) := by
  (try unfold SoundE at *); (try unfold SoundA at *); (try unfold SoundI at *); (try unfold SoundG at *)
  intro env eo σ d hd A ao M B F s Q E iv S q
  obtain ⟨l, hl, hd⟩ := bind_some hd
  split at hd
  · rename_i hll
    cases hds : compL upd t e l (sigC is k σ) with
    | none => rw [hds] at hd; cases hd
    | some ds =>
      rw [hds] at hd; cases hd
      rw [eval_ListComp]
      refine compCore k co (by unfold SoundI; exact hi) (by unfold SoundA; exact hu) (by unfold SoundG; exact ht) (by unfold SoundE; exact he) hs eo hl hll hds ao iv S fun s' C D vs m mm x hC hD hDC hn hl hz r => ?_
      refine ⟨mm, hn, fun h' hs' => ?_⟩
      have lo := freshLow iv hC
      have x' : Ext g s { s' with heap := h' } := ⟨fun a o t e => (hs'.2 a (by rintro rfl; rw [hC] at e; cases e)).trans (x.keep a o t e), fun i => (x.inv i).same (t := s'.toks) hs' lo.1 lo.2⟩
      refine q _ _ x' (.lst ds vs D (fun h => S.avSome iv D h hD) ⟨_, hs'.extBut _ _ hDC hl, rfl, m, rfl⟩ (by rw [sizeLine_is]; omega) ?_)
      exact r.keep (X := fun a => a = C) (Kp.same hs' rfl) (fun a e => .inr (.inl e)) fun a h => .inl h
  · cases hd

/-- x = [.. for ..] where x is a plain local name -/
noncomputable def sAsgC (i : Nat) (f : Sig → Option V) : Sig → Option (Fl × Sig) := fun σ => (f σ).map fun d => (.next, σ.set i (some d))
theorem ssAsgC {fc : FT} {scope : Scope} {is : List Nat} (k : Nat) (co : CompOk ft scope fc is) {i : Nat} {x : Str} {py pos spos : Pos} {tg elt iter : Expr} {ifs : List Expr} {it : Sig → Option (List V)} {upd : V → Sig → Option Sig} {t : Sig → Option Bool} {e : Sig → Option V}
    (hx : ft.tbl[i]? = some (x, .local, false)) (hi : SoundI g n ft iter it) (hu : SoundA g n fc tg upd) (ht : SoundG g n fc ifs t) (he : SoundE g n fc elt e)
    (hsw : ∀ env : Env, env.scope = ft.scope → swapsWith (.ListComp elt [⟨tg, iter, ifs, 0⟩] scope pos) (some (.Name x py)) spos.line env = pure true) (hs : ∀ env x, foldedSetIterable iter env x = pure x := by intro _ _; rfl) :
    SoundS g n ft (.Assign [.Name x py] (.ListComp elt [⟨tg, iter, ifs, 0⟩] scope pos) spos) (sAsgC i (eComp is k it upd t e)) := by
  (try unfold SoundE at *); (try unfold SoundS at *); (try unfold SoundA at *); (try unfold SoundI at *); (try unfold SoundG at *)
  intro env eo σ fl σ' hd A ao M B P F s Q E iv S pv q
  cases hf : eComp is k it upd t e σ with
  | none => simp [sAsgC, hf] at hd
  | some d =>
    simp [sAsgC, hf] at hd
    obtain ⟨rfl, rfl⟩ := hd
    obtain ⟨l, hl, hd⟩ := bind_some hf
    split at hd
    · rename_i hll
      cases hds : compL upd t e l (sigC is k σ) with
      | none => rw [hds] at hd; cases hd
      | some ds =>
        rw [hds] at hd; cases hd
        rw [exec_Assign_Name_used _ _ _ _ (hsw env eo.scope)]
        refine wpAny_bind (wpAny_standAt (wpAny_bind ?_))
        show wpAny _ A (do let _ ← comprehension (.ListComp elt [⟨tg, iter, ifs, 0⟩] scope pos) scope env _ (newList []) false (eval iter env) (some (assign (.Name x py) env))) _ _ s
        refine wpAny_bind (wpAny_mono (compCore (Q := fun _ s' => Q .next s') (E := E) (use := some (assign (.Name x py) env)) k co (by unfold SoundI; exact hi) (by unfold SoundA; exact hu) (by unfold SoundG; exact ht) (by unfold SoundE; exact he) hs eo hl hll hds ao iv S fun s' C D vs m mm x' hC hD hDC hn hlD hz r => ?_) (fun _ s' hq => wpAny_pure (wpAny_pure hq)) fun _ _ e => e)
        show wpAny _ A (assign (.Name x py) env (.ref D)) _ _ _
        obtain ⟨oC, esC, epC, hoC, hnC⟩ := hn
        obtain ⟨S₁, hW₁, st₁⟩ := S.adopt iv x'.keep (fun a => if a = C then some oC else none) (fun a o e => by
          by_cases h : a = C
          · rw [if_pos h] at e; cases e; subst h; exact ⟨hC, hoC⟩
          · rw [if_neg h] at e; cases e)
        have hwC : (F.plus fun a => if a = C then some oC else none).W C = some (.priv oC) := by simp [Fm.plus]
        have av₁ : ∀ a, (F.plus fun a => if a = C then some oC else none).av M a → F.av M a ∨ a = C := by
          intro a h
          rcases h with h | h
          · exact .inl (.inl h)
          · by_cases e : a = C
            · exact .inr e
            · have : (F.plus fun a => if a = C then some oC else none).W a = F.W a := by simp [Fm.plus, e]
              rw [this] at h; exact .inl (.inr h)
        have rD : Rep s'.heap ((F.plus fun a => if a = C then some oC else none).av M) (.lst ds) (.ref D) := by
          refine .lst ds vs D (fun h => ?_) ⟨_, hlD, rfl, m, rfl⟩ (by rw [sizeLine_is]; omega) (r.weaken fun a h => ?_)
          · rcases av₁ D h with h | h
            · exact S.avSome iv D h hD
            · exact hDC h
          · rcases av₁ a h with h | h
            · exact .inl h
            · exact .inr (.inl h)
        refine wpAny_assign_Name (stName eo hx (fun e => absurd rfl e) (x'.inv iv) S₁ rD fun s₂ F₂ iv₂ hW₂ st₂ S₂ => ?_)
        have hwC₂ : F₂.W C = some (.priv oC) := by rw [hW₂]; exact hwC
        have hoC₂ := S₂.priv _ _ hwC₂
        refine ⟨mm, ⟨oC, esC, epC, hoC₂, hnC⟩, fun h' hs' => ?_⟩
        obtain ⟨S₃, st₃⟩ := S₂.drop hwC₂ (Kp.same hs' rfl)
        refine q _ _ (iv₂.same (t := s₂.toks) hs' (S₂.low C _ hwC₂).2.2.1 (S₂.low C _ hwC₂).2.2.2) (.inl ⟨rfl, _, fun a o p => ?_, (st₁.trans st₂).trans st₃, S₃⟩)
        have h1 := pv a o p
        have hne : a ≠ C := by rintro rfl; exact (S.low _ _ h1).2.1 hC
        show (if a = C then none else F₂.W a) = _
        rw [if_neg hne, hW₂]; exact hW₁ _ _ h1
    · cases hd
end
end Mine
end

noncomputable section
open PySem PySem.W PyProof.Rows
set_option maxRecDepth 100000
namespace Mine

section
variable {prog : Program} {w : World} {A : Around} {E : Value → Shared → Prop} {s : Shared}
theorem str_in_str : isSubtype (.type "str") (.type "str") = pure true := by first | rfl | kernel_rfl | decide +kernel
theorem type_of_str : typeOf (.type "str") = pure (.type "type") := by first | rfl | kernel_rfl
theorem type_of_bytes : typeOf (.type "bytes") = pure (.type "type") := by first | rfl | kernel_rfl
theorem str_in_bytes : isSubtype (.type "str") (.type "bytes") = pure false := by first | rfl | kernel_rfl | decide +kernel

theorem issub_str {k : Value} {dep : Int} {tk : Tok} {Q : Fin → Shared → Prop} (hk : k = .int dep tk) (hq : Q (.done (.ret (.bool true))) s) :
    wpAny (model prog w) A (Builtin.«issubclass.nested» ⟨[.type "str", .type "str", k], []⟩) Q E s := by
  subst hk
  have hm := type_of_str
  have hself := str_in_str
  repeat (any_goals (first | assumption | (rw [hm]) | (rw [hself]) | wp_step))
theorem kind_isn : builtinKind "issubclass.nested" = none := by decide +kernel
theorem plain_isn : plainId "issubclass.nested" = true := by decide +kernel
theorem args_isn (a b c : Value) : argsOk "issubclass.nested" ⟨[a, b, c], []⟩ := by unfold argsOk; kernel_rfl
theorem issub_strM {dep : Int} {tk : Tok} : Meets (Builtin.«issubclass.nested» ⟨[.type "str", .type "str", .int dep tk], []⟩) (fun _ R s => R (.ok (.ret (.bool true))) s) :=
  fun _ _ _ _ _ hs => issub_str rfl hs
theorem issub_items {c : Value} {Q : Option Fin × Unit → Shared → Prop} {dep : Int} (h : Q (some (.done (.ret (.bool true))), ()) s) :
    wpAny (model prog w) A (forIn [Value.type "str", c] ((none : Option Fin), ()) fun c _ => do
      if ← truthy (← call (.builtin "issubclass.nested") [.type "str", c, rawInt (dep + 1)]) then
        let r ← ret (.bool true)
        pure (ForInStep.done (some r, ()))
      else pure (ForInStep.yield (none, ()))) Q E s := by
  rw [List.forIn_cons]
  refine wpAny_bind (wpAny_bind (call_function_meets kind_isn plain_isn F.entry_issubclass_nested (args_isn _ _ _) issub_strM ?_))
  show wpAny _ _ (truthy (.bool true) >>= _) _ _ _
  exact wpAny_bind (m := truthy (.bool true)) (wpAny_pure (wpAny_bind (wpAny_pure (wpAny_pure (wpAny_pure h)))))
theorem issub_tuple {tp : Addr} {c : Value} {cs : List Value} {tk : Tok} {Q : Fin → Shared → Prop} (hcs : cs = [Value.type "str", c]) (htp : s.heap.get? tp = some { cls := .type "tuple", data := .seq cs.toArray })
    (hq : Q (.done (.ret (.bool true))) s) : wpAny (model prog w) A (Builtin.«issubclass.nested» ⟨[.type "str", .ref tp, .int 0 tk], []⟩) Q E s := by
  obtain ⟨h, g, d, t, os⟩ := s
  have hT2 : (⟨h, g, d, t, os⟩ : Shared).TypeIs (.ref tp) "tuple" := ⟨_, htp, rfl⟩
  have f1 := F.isi_sub_tuple
  repeat (any_goals (first | assumption | wp_step))
  refine wpAny_arrayLoop ?_
  simp only [Option.getD_some, List.toList_toArray]
  rw [hcs]
  refine issub_items (dep := 0) ?_
  dsimp only
  repeat (any_goals (first | assumption | wp_step))
end
end Mine
end

noncomputable section
open PySem PySem.W PyProof.Rows
set_option maxRecDepth 100000
namespace Mine

section
variable {g : Gl} {n : Nat} {ft : FT}

/- isinstance(e, bytes), isinstance(e, str) of a text -/
noncomputable def eIsStr (b : Bool) (f : Sig → Option V) : Sig → Option V := fun σ => (f σ).bind fun a => match a with
  | .str _ => some (.bool b)
  | _ => none
theorem sIsBytes (G : GlB g) {x y : Str} {p p2 pos : Pos} {e : Expr} {f : Sig → Option V} (hx : x = "isinstance") (hy : y = "bytes") (hs : ft.scope.names.lookup x = some .globalImplicit) (hs2 : ft.scope.names.lookup y = some .globalImplicit) (he : SoundE g n ft e f)
    (hst : ∀ env, starEach [e, .Name y p2] env = [(false, eval e env), (false, eval (.Name y p2) env)] := by intro _; rfl) : SoundE g n ft (.Call (.Name x p) [e, .Name y p2] [] pos) (eIsStr false f) := by
  (try unfold SoundE at *)
  subst hx hy
  intro env eo σ d hd A ao M B F s Q E iv S q
  obtain ⟨a, ha, hd⟩ := bind_some hd
  cases a <;> (try (simp at hd; done))
  cases hd
  refine wpAny_Call_ofName (ldBi G eo (v := .builtin "isinstance") (by simp [builtinTab]) hs iv ?_ (by decide))
  refine callWith_machine rfl (by rw [hst]; rfl) ?_
  rw [hst]
  refine Calls.evalArgs_plain (Calls.spliced_cons (he env eo σ _ ha A ao M B F s _ E iv S fun va s₁ x₁ ra => Calls.spliced_cons (ldBi G eo (v := .type "bytes") (by simp [builtinTab]) hs2 (x₁.inv iv) (Calls.spliced_nil ?_) (by decide))))
  cases ra with
  | str z t hz => exact call_isinstance (isinstance_false_str (by decide) type_of_bytes str_in_bytes) (q _ _ (x₁.trans (Ext.tok g s₁ _ fun _ => Nat.succ_pos _)) (.bool _))
theorem sIsStr (G : GlB g) {x y : Str} {p p2 pos : Pos} {e : Expr} {f : Sig → Option V} (hx : x = "isinstance") (hy : y = "str") (hs : ft.scope.names.lookup x = some .globalImplicit) (hs2 : ft.scope.names.lookup y = some .globalImplicit) (he : SoundE g n ft e f)
    (hst : ∀ env, starEach [e, .Name y p2] env = [(false, eval e env), (false, eval (.Name y p2) env)] := by intro _; rfl) : SoundE g n ft (.Call (.Name x p) [e, .Name y p2] [] pos) (eIsStr true f) := by
  (try unfold SoundE at *)
  subst hx hy
  intro env eo σ d hd A ao M B F s Q E iv S q
  obtain ⟨a, ha, hd⟩ := bind_some hd
  cases a <;> (try (simp at hd; done))
  cases hd
  refine wpAny_Call_ofName (ldBi G eo (v := .builtin "isinstance") (by simp [builtinTab]) hs iv ?_ (by decide))
  refine callWith_machine rfl (by rw [hst]; rfl) ?_
  rw [hst]
  refine Calls.evalArgs_plain (Calls.spliced_cons (he env eo σ _ ha A ao M B F s _ E iv S fun va s₁ x₁ ra => Calls.spliced_cons (ldBi G eo (v := .type "str") (by simp [builtinTab]) hs2 (x₁.inv iv) (Calls.spliced_nil ?_) (by decide))))
  cases ra with
  | str z t hz => exact call_isinstance (isinstance_true (Tx := "str") type_of_str str_in_str) ⟨typeIs_str _ _ _, q _ _ x₁ (.bool _)⟩

/- list(range(..)) -/
noncomputable def eListRange (k : Sig → Option (List V)) : Sig → Option V := fun σ => (k σ).bind fun l => (vRange l).bind fun ns => if ns.length ≤ 1000 then some (.lst (ns.map .int)) else none
theorem sListRange (G : GlB g) {x y : Str} {p p2 pos pos2 : Pos} {es : List Expr} {k : Sig → Option (List V)} (hx : x = "list") (hy : y = "range") (hs : ft.scope.names.lookup x = some .globalImplicit) (hs2 : ft.scope.names.lookup y = some .globalImplicit) (hp : Plain es) (he : SoundEs g n ft es k) :
    SoundE g n ft (.Call (.Name x p) [.Call (.Name y p2) es [] pos2] [] pos) (eListRange k) := by
  (try unfold SoundE at *); (try unfold SoundEs at *)
  subst hx hy
  intro env eo σ d hd A ao M B F s Q E iv S q
  obtain ⟨vs, hv, hd⟩ := bind_some hd
  obtain ⟨ns, hr, hd⟩ := bind_some hd
  split at hd
  · rename_i hlen
    cases hd
    refine wpAny_Call_ofName (ldBi G eo (v := .type "list") (by simp [builtinTab]) hs iv ?_ (by decide))
    refine callWith_machine rfl rfl ?_
    refine Calls.evalArgs_plain (Calls.spliced_cons ?_)
    refine wpAny_Call_ofName (ldBi G eo (v := .type "range") (by simp [builtinTab]) hs2 iv ?_ (by decide))
    obtain ⟨_, _, _, ha⟩ := hp env pos2
    refine callWith_machine rfl ha (evalArgs_es hp (by unfold SoundEs; exact he) eo hv ao iv S fun ws s₁ x₁ r => ?_)
    refine mkRange hr r fun a b c t u v s₂ x₂ ⟨o, ho⟩ hR hsm e hnn => Calls.spliced_nil ?_
    have iv₁ := x₁.inv iv
    have iv₂ := x₂.inv iv₁
    have x := x₁.trans x₂
    have hnat : Builtin.Range.rangeSize a b c = ((Builtin.Range.rangeSize a b c).toNat : Int) := by omega
    have hl2 : ns.length = (Builtin.Range.rangeSize a b c).toNat := by rw [e, rangeOf, List.length_map, List.length_range]
    refine up iv₂.tok fun E' => call_list_range ao.handled hR hsm hnat (by omega) fun h' tk acc' c' hk hS hItems htk => ?_
    have x₃ : Ext g s₂ { s₂ with heap := h', toks := tk } := Ext.of hk fun _ => htk
    have S₂ := (S.extE x)
    have none₂ : ∀ a, F.av M a → a ≠ s₂.heap.objs.size := fun a ha e => S₂.avSome iv₂ a ha (by rw [e]; exact size_none _)
    refine q _ _ (x.trans x₃) (.lst _ acc'.toList _ (fun h => none₂ _ h rfl) ⟨_, hS, rfl, _, rfl⟩ (by rw [List.length_map, sizeLine_is]; omega) ?_)
    obtain ⟨i1, i2⟩ := hItems
    have key : ∀ (ms : List Int) (xs : List Value), xs.length = ms.length → (∀ (i : Nat) (v : Value), xs[i]? = some v → ∃ (t : Tok) (m : Int), ms[i]? = some m ∧ v = Value.int m t) → RepL h' (F.av M) (ms.map V.int) xs := by
      intro ms
      induction ms with
      | nil => intro xs h _; cases xs with
               | nil => exact .nil
               | cons => cases h
      | cons m ms ih =>
        intro xs h hx
        cases xs with
        | nil => cases h
        | cons y ys =>
          obtain ⟨t, m', e1, e2⟩ := hx 0 y rfl
          cases e1; subst e2
          exact .cons (.int _ _) (ih ys (by simpa using h) fun i v hv => hx (i + 1) v (by simpa using hv))
    refine key ns acc'.toList ?_ fun i v hv => ?_
    · rw [Array.length_toList, hl2]; exact i1
    · have hv' : acc'[i]? = some v := by simpa using hv
      obtain ⟨t, rfl⟩ := i2 i v hv'
      refine ⟨t, _, ?_, rfl⟩
      have hi : i < (Builtin.Range.rangeSize a b c).toNat := by
        have : i < acc'.size := by rw [Array.getElem?_eq_some_iff] at hv'; exact hv'.1
        rw [← i1]; exact this
      rw [e]; simp [rangeOf, hi]
  · cases hd
end
end Mine
end

noncomputable section
open PySem PySem.W PyProof.Rows
set_option maxRecDepth 100000
namespace Mine

section
variable {g : Gl} {n : Nat} {ft : FT}

/- an own list is let go: from here on it is a list as another -/
noncomputable def FT.rel (ft : FT) (i : Nat) (x : Str) : FT := { ft with tbl := ft.tbl.set i (x, .local, false) }
theorem EnvOk.rel {env : Env} (eo : EnvOk ft env) {i : Nat} {x : Str} (hi : ft.tbl[i]? = some (x, .local, true)) : EnvOk (ft.rel i x) env := by
  have hlt : i < ft.tbl.length := by rw [List.getElem?_eq_some_iff] at hi; exact hi.1
  have at' : ∀ (j : Nat) (y : Str) (k : NameKind) (o : Bool), (ft.rel i x).tbl[j]? = some (y, k, o) → (j = i ∧ y = x ∧ k = .local ∧ o = false) ∨ (j ≠ i ∧ ft.tbl[j]? = some (y, k, o)) := by
    intro j y k o h
    have h' : (ft.tbl.set i (x, .local, false))[j]? = some (y, k, o) := h
    rw [List.getElem?_set] at h'
    by_cases e : i = j
    · subst e; rw [if_pos rfl, if_pos hlt] at h'; cases h'; exact .inl ⟨rfl, rfl, rfl, rfl⟩
    · rw [if_neg e] at h'; exact .inr ⟨fun q => e q.symm, h'⟩
  refine ⟨eo.code, eo.scope, eo.glob, eo.bi, eo.kind, fun j y k o h => ?_, eo.apart, fun a b y k k' o o' h1 h2 => ?_⟩
  · rcases at' j y k o h with ⟨rfl, rfl, rfl, rfl⟩ | ⟨_, h⟩
    · exact ⟨(eo.tbl _ _ _ _ hi).1, .inl rfl⟩
    · exact eo.tbl j y k o h
  · rcases at' a y k o h1 with ⟨e1, e2, _, _⟩ | ⟨n1, h1'⟩
    · rcases at' b y k' o' h2 with ⟨e3, _⟩ | ⟨n2, h2'⟩
      · rw [e1, e3]
      · subst e2; exact e1.trans (eo.uniq _ _ _ _ _ _ _ hi h2')
    · rcases at' b y k' o' h2 with ⟨e3, e4, _⟩ | ⟨n2, h2'⟩
      · subst e4; exact (eo.uniq _ _ _ _ _ _ _ h1' hi).trans e3.symm
      · exact eo.uniq _ _ _ _ _ _ _ h1' h2'
theorem St.release {env : Env} {M : AS} {B : Heap} {F : Fm} {σ : Sig} {h : Heap} (S : St g ft env M B F σ h) {i : Nat} {x : Str} (hi : ft.tbl[i]? = some (x, .local, true)) {l : List V} (hσ : σ.getD i none = some (.lst l)) (hol : ownLists ft i σ = true) :
    ∃ F', (∀ a o, F.W a = some (.priv o) → F'.W a = some (.priv o)) ∧ St g (ft.rel i x) env M B F' σ h := by
  have hlt : i < ft.tbl.length := by rw [List.getElem?_eq_some_iff] at hi; exact hi.1
  obtain ⟨v, hv, r⟩ := S.var i x _ _ _ hi hσ
  rcases r with ⟨o, _⟩ | ⟨_, l', vs, a, el, rfl, hw, hown, hz, hr⟩ | ⟨_, _, _, _, el, _⟩
  · cases o
  rotate_left
  · cases el
  cases el
  obtain ⟨S', st⟩ := S.noName hi hw (fun j' y' k' d' ej ne hd' => by
    have hlt : j' < ft.tbl.length := by rw [List.getElem?_eq_some_iff] at ej; exact ej.1
    have := List.all_eq_true.mp hol j' (List.mem_range.mpr hlt)
    rw [ej] at this
    simp only [Bool.or_eq_true, beq_iff_eq, hd'] at this
    rcases this with e | e
    · exact absurd e ne
    · split at e
      · rename_i l e'; cases e'; exact ⟨l, rfl⟩
      · rename_i e'; cases e'
      · cases e)
  refine ⟨{ F with W := fun b => if b = a then none else F.W b }, fun b o w => ?_, ⟨S'.ns, S'.loc, S'.cell, S'.priv, S'.low, S'.Mlow, S'.Mtab, S'.keep, fun j y k own d e hd => ?_⟩⟩
  · have : b ≠ a := by rintro rfl; rw [hw] at w; cases w
    show (if b = a then none else F.W b) = _
    rw [if_neg this]; exact w
  · have e' : (ft.tbl.set i (x, .local, false))[j]? = some (y, k, own) := e
    rw [List.getElem?_set] at e'
    by_cases q : i = j
    · subst q
      rw [if_pos rfl, if_pos hlt] at e'; cases e'
      rw [hσ] at hd; cases hd
      refine ⟨.ref a, hv, .inl ⟨rfl, .lst l vs a (fun q => ?_) hown.isList hz (hr.weaken fun b hb => ?_)⟩⟩
      · rcases q with m | w
        · exact S.Mlow a m (S.low a _ hw).1
        · exact w (if_pos rfl)
      · rcases hb with m | w
        · exact .inl m
        · refine .inr fun e => w ?_
          show (if b = a then none else F.W b) = none
          split
          · rfl
          · exact e
    · rw [if_neg q] at e'
      refine S'.var j y k own d e' ?_
      rw [List.getD_eq_getElem?_getD, List.getElem?_set, if_neg q, ← List.getD_eq_getElem?_getD]; exact hd
noncomputable def sRel (ft : FT) (i : Nat) (f : Sig → Option (Fl × Sig)) : Sig → Option (Fl × Sig) := fun σ => match σ.getD i none with
  | some (.lst _) => if ownLists ft i σ then (match f σ with
    | some (.ret d, σ') => some (.ret d, σ')
    | _ => none) else none
  | _ => none
theorem sssRel {i : Nat} {x : Str} {rest : List Stmt} {f : Sig → Option (Fl × Sig)} (hi : ft.tbl[i]? = some (x, .local, true)) (h : SoundSS g n (ft.rel i x) rest f) : SoundSS g n ft rest (sRel ft i f) := by
  (try unfold SoundSS at *)
  intro env eo σ fl σ' hd A ao M B P F s Q E iv S pv q
  unfold sRel at hd
  split at hd
  · rename_i l hσ
    split at hd
    · rename_i hol
      split at hd
      · rename_i d σ₁ hf
        cases hd
        obtain ⟨F', hW, S'⟩ := S.release hi hσ hol
        refine h env (eo.rel hi) σ _ _ hf A ao M B P F' s Q E iv S' (fun a o p => hW a o (pv a o p)) fun fv s' iv' ok => q fv s' iv' ?_
        rcases ok with ⟨e, _⟩ | r
        · cases e
        · exact .inr r
      · cases hd
    · cases hd
  · cases hd

/- the defs of the text -/
structure FnIs (g : Gl) (nm : Str) (params : Arguments) (body : List Stmt) (scope : Scope) : Prop where
  fn : ∃ a fd, g.mg nm = some (.ref a) ∧ FnAt g a fd ∧ fd.body = .stmts body ∧ fd.scope = scope ∧ fd.params = params ∧ fd.defaults = .none ∧ fd.kwdefaults = .none
/-- a def answers as a function of plain data does -/
noncomputable def CallOk (g : Gl) (nm : Str) (n : Nat) (f : List V → Option V) : Prop := ∃ a fd, g.mg nm = some (.ref a) ∧ FnAt g a fd ∧ SoundV g n (.ref a) f

noncomputable def eCallN (f : List V → Option V) (h : Sig → Option (List V)) : Sig → Option V := eCallV f h
theorem sCallN (G : GlOk g) {x : Str} {m : Nat} {p pos : Pos} {es : List Expr} {f : List V → Option V} {h : Sig → Option (List V)} (c : CallOk g x m f) (hs : ft.scope.names.lookup x = some .globalImplicit) (hdb : (x == ("__debug__" : Str)) = false) (hp : PlainF es) (he : SoundEs g n ft es h) (hm : m ≤ n := by decide) :
    SoundE g n ft (.Call (.Name x p) es [] pos) (eCallV f h) := by
  obtain ⟨a, fd, h1, h2, h3⟩ := c
  exact sCallF G h1 h2 hs hdb hp h3 he hm

noncomputable def namesOf (p : Arguments) : List Str := p.args.map (·.arg)
theorem callOk (G : GlOk g) {bd : List V → Option (List V)} {nm : Str} {params : Arguments} {body : List Stmt} {f : Sig → Option (Fl × Sig)} (names : List Str) (k : Nat) (hfn : FnIs g nm params body ft.scope) (hco : ft.scope.isCoroutine = false) (hgen : ft.scope.isGenerator = false) (hft : FtOk ft) (hcode : ∀ a fd, g.mg nm = some (.ref a) → FnAt g a fd → ∀ c, ft.code = some c → fd.code = c) (hnd : names.Nodup)
    (hn : ∀ (i : Nat) (x : Str), names[i]? = some x → ∃ k, ft.tbl[i]? = some (x, k, false)) (hb : SoundSS g n ft body f) (hbd : ∀ fd : FuncData, fd.params = params → fd.defaults = .none → fd.kwdefaults = .none → SoundBd fd names bd) : CallOk g nm (n + 1) (fnOf k bd f) := by
  obtain ⟨a, fd, h1, h2, h3, h4, h5, h6, h7⟩ := hfn.fn
  exact ⟨a, fd, h1, h2, soundFn G k h2 h3 h4 (by rw [h4]; exact hco) (by rw [h4]; exact hgen) hft (hcode a fd h1 h2) hnd hn hb (hbd fd h5 h6 h7)⟩
noncomputable def ftOkB (ft : FT) (names : List Str) : Bool :=
  (ft.tbl.all fun p => decide (ft.scope.names.lookup p.1 = some p.2.1) && (decide (p.2.1 = .local) || (decide (p.2.1 = .cell) && !p.2.2 && !(p.1 == ("__classdict__" : Str))))) && decide (ft.tbl.map (·.1)).Nodup && decide names.Nodup &&
  ((List.range names.length).all fun i => match ft.tbl[i]?, names[i]? with | some (x, _, false), some y => x == y | _, _ => false) && !ft.scope.isCoroutine && !ft.scope.isGenerator
theorem callOkB (G : GlOk g) {bd : List V → Option (List V)} {nm : Str} {params : Arguments} {body : List Stmt} {f : Sig → Option (Fl × Sig)} (names : List Str) (k : Nat) (hfn : FnIs g nm params body ft.scope) (hkind : ft.scope.kind = .function) (hB : ftOkB ft names = true)
    (hb : SoundSS g n ft body f) (hbd : ∀ fd : FuncData, fd.params = params → fd.defaults = .none → fd.kwdefaults = .none → SoundBd fd names bd) (hcode : ∀ a fd, g.mg nm = some (.ref a) → FnAt g a fd → ∀ c, ft.code = some c → fd.code = c := by (intro _ _ _ _ c h; cases h)) : CallOk g nm (n + 1) (fnOf k bd f) := by
  simp only [ftOkB, Bool.and_eq_true, decide_eq_true_eq, List.all_eq_true, Bool.or_eq_true, Bool.not_eq_true'] at hB
  obtain ⟨⟨⟨⟨⟨a1, a2⟩, a3⟩, a4⟩, a5⟩, a6⟩ := hB
  refine callOk G names k hfn a5 a6 ⟨hkind, fun p hp => ?_, a2⟩ hcode a3 (fun i x hx => ?_) hb hbd
  · obtain ⟨b1, b2⟩ := a1 p hp
    exact ⟨b1, b2.imp id fun ⟨⟨c1, c2⟩, c3⟩ => ⟨c1, c2, c3⟩⟩
  · have hlt : i < names.length := by rw [List.getElem?_eq_some_iff] at hx; exact hx.1
    have := a4 i (List.mem_range.mpr hlt)
    rw [hx] at this
    split at this
    · rename_i y k z e1 e2
      cases e2
      have e : y = x := by simpa using this
      subst e
      exact ⟨k, e1⟩
    · cases this
end
end Mine
end

noncomputable section
open PySem PySem.W PyProof.Rows
set_option maxRecDepth 100000
namespace Mine

section
variable {g : Gl} {n : Nat} {ft : FT}

/- fspath of a text -/
noncomputable def sFsp : Sig → Option (Fl × Sig) := fun σ => match σ.getD 0 none with
  | some (.str x) => some (.ret (.str x), σ)
  | _ => none
theorem sssFsp (G : GlB g) {p1 p2 p3 p4 p5 p6 p7 p8 p9 p10 p11 p12 p13 p14 : Pos} {kt : Nat} {rest : List Stmt} {pa kd ty isu st by' : Str} (hpa : ft.tbl[0]? = some (pa, .local, false)) (hkd : ft.scope.names.lookup kd = some .local) (hne : pa ≠ kd)
    (h1 : ty = "type") (h2 : isu = "issubclass") (h3 : st = "str") (h4 : by' = "bytes") (s1 : ft.scope.names.lookup ty = some .globalImplicit) (s2 : ft.scope.names.lookup isu = some .globalImplicit) (s3 : ft.scope.names.lookup st = some .globalImplicit) (s4 : ft.scope.names.lookup by' = some .globalImplicit)
    (d1 : (pa == ("__debug__" : Str)) = false) (d2 : (kd == ("__debug__" : Str)) = false) :
    SoundSS g n ft (.Assign [.Name kd p1] (.Call (.Name ty p2) [.Name pa p3] [] p4) p5 :: .If (.Call (.Name isu p6) [.Name kd p7, .Tuple [.Name st p8, .Name by' p9] kt p10] [] p11) [.Return (some (.Name pa p12)) p13] [] p14 :: rest) sFsp := by
  (try unfold SoundSS at *)
  subst h1 h2 h3 h4
  intro env eo σ fl σ' hd A ao M B P F s Q E iv S pv q
  unfold sFsp at hd
  split at hd
  case h_2 => cases hd
  rename_i x hσ
  cases hd
  have hkdE : env.scope.kind = .function := by rw [eo.scope]; exact eo.kind
  have hko : env.kindOf kd = some .local := by show env.scope.names.lookup kd = some _; rw [eo.scope]; exact hkd
  have hpo : env.kindOf pa = some .local := by show env.scope.names.lookup pa = some _; rw [eo.scope]; exact (eo.tbl 0 pa .local false hpa).1
  obtain ⟨v, hv, r⟩ := S.var 0 pa .local false _ hpa hσ
  rw [if_pos rfl] at hv
  rcases r with ⟨_, r⟩ | ⟨o, _⟩ | ⟨o, _⟩
  rotate_left
  · cases o
  · cases o
  cases r with
  | str _ t hz =>
    refine wpAny_execs_cons ?_
    refine wpAny_Assign_Name ?_ (by rfl)
    refine wpAny_Call_ofName (ldBi G eo (v := .type "type") (by simp [builtinTab]) s1 iv ?_ (by decide))
    refine callWith_machine rfl rfl ?_
    refine Calls.evalArgs_plain (Calls.spliced_cons (wpAny_Name (wpAny_loadName_local hkdE hpo S.ns hv (Calls.spliced_nil ?_)) d1))
    refine call_type_of (Tx := "str") (typeIs_str _ _ _) (by decide) ?_
    refine wpAny_storeName_local hko S.ns (fun h' hn hs => ?_) (by rw [hkdE]; rfl)
    have hL : h'.get? env.locals ≠ none := by obtain ⟨o, _, _, ho, _⟩ := hn; exact get_ne_none ho
    obtain ⟨q1, q2, q3, q4⟩ := S.poke S.loc hs hL
    have l := S.low _ _ S.loc
    let s₁ : Shared := { s with heap := h', toks := s.toks + 1 }
    have iv₁ : Inv g s₁ := iv.same hs l.2.2.1 l.2.2.2 fun _ => Nat.succ_pos _
    refine wpAny_execs_cons ?_
    refine wpAny_If ?_
    have tr : ∀ {E' : Value → Shared → Prop}, wpAny (model g.prog g.w) A (eval (.Call (.Name "issubclass" p6) [.Name kd p7, .Tuple [.Name "str" p8, .Name "bytes" p9] kt p10] [] p11) env) (fun v s₂ => v = .bool true ∧ Kp g.tab h' s₂.heap ∧ Inv g s₂ ∧ s₂.heap.Ns env.locals (fun y => if y = kd then some (.type "str") else F.m y)) E' s₁ := by
      intro E'
      refine wpAny_Call_ofName (ldBi G eo (v := .builtin "issubclass") (by simp [builtinTab]) s2 iv₁ ?_ (by decide))
      refine callWith_machine rfl rfl ?_
      refine Calls.evalArgs_plain (Calls.spliced_cons (wpAny_Name (wpAny_loadName_local hkdE hko hn (v := .type "str") (if_pos rfl) (Calls.spliced_cons ?_)) d2))
      refine wpAny_Tuple (k := kt) (wpAny_items_cons (ldBi G eo (v := .type "str") (by simp [builtinTab]) s3 iv₁ (wpAny_items_cons (ldBi G eo (v := .type "bytes") (by simp [builtinTab]) s4 iv₁ (wpAny_items_nil ⟨by show 2 ≤ sizeLine; decide, Calls.spliced_nil ?_⟩) (by decide))) (by decide)))
      refine call_issubclass (S := fun _ R s => s.heap.get? s₁.heap.objs.size = some { cls := .type "tuple", data := .seq [Value.type "str", Value.type "bytes"].toArray } ∧ R (.ok (.ret (.bool true))) s) (fun _ _ _ _ _ hs => issubclass_outer (issub_tuple rfl hs.1 hs.2)) ⟨Heap.get?_push_size _ rfl, ?_⟩
      have x₂ := Ext.push g s₁ { cls := .type "tuple", data := .seq [Value.type "str", Value.type "bytes"].toArray } s₁.toks
      exact ⟨rfl, x₂.keep, x₂.inv iv₁, hn.push _⟩
    have he : isTrue (.Call (.Name "issubclass" p6) [.Name kd p7, .Tuple [.Name "str" p8, .Name "bytes" p9] kt p10] [] p11) env (eval (.Call (.Name "issubclass" p6) [.Name kd p7, .Tuple [.Name "str" p8, .Name "bytes" p9] kt p10] [] p11) env) = (do let v ← eval (.Call (.Name "issubclass" p6) [.Name kd p7, .Tuple [.Name "str" p8, .Name "bytes" p9] kt p10] [] p11) env; standAt (Expr.pos (.Call (.Name "issubclass" p6) [.Name kd p7, .Tuple [.Name "str" p8, .Name "bytes" p9] kt p10] [] p11)); holding [v] (truthy v)) := rfl
    rw [he]
    refine wpAny_bind (wpAny_mono tr (fun v s₂ h₂ => wpAny_bind (wpAny_standAt (wpAny_holding ?_))) fun _ _ e => e)
    obtain ⟨rfl, k2, iv₂, n2⟩ := h₂
    refine wpAny_truthy_bool ?_
    show wpAny _ A (execs _ env) _ _ _
    refine wpAny_execs_cons (wpAny_Return_some (wpAny_Name (wpAny_loadName_local hkdE hpo n2 (v := .str x t) (by rw [if_neg hne]; exact hv) ?_) d1))
    exact q _ _ iv₂ (.inr ⟨_, _, rfl, rfl, q2.trans k2, .str _ _ hz⟩)
end

/- join(a, *p) -/
noncomputable def bdJ : List V → Option (List V)
  | a :: r => if r.length ≤ 1000 then some [a, .tup r] else none
  | [] => none
theorem soundBd_join {fd : FuncData} {a p : Str} (he : ∀ v vs, bindArgs fd ⟨v :: vs, []⟩ = (newTuple vs >>= fun t => pure [(a, v), (p, t)])) : SoundBd fd [a, p] bdJ := by
  intro g av args d hd A s vals Q E iv r tb fr q
  unfold bdJ at hd
  split at hd
  case h_2 => cases hd
  split at hd
  · rename_i hz
    cases hd
    cases r with
    | cons hx hr =>
      rename_i v vs
      rw [he]
      refine wpAny_bind (wpAny_newTuple ?_ (by rw [hr.length, sizeLine_is]; omega))
      have x := Ext.push g s { cls := .type "tuple", data := .seq vs.toArray } s.toks
      refine wpAny_pure (q [v, .ref s.heap.objs.size] _ x ?_ rfl)
      have keep : ∀ {d v}, Rep s.heap av d v → Rep (s.heap.push { cls := .type "tuple", data := .seq vs.toArray }) av d v := fun r => r.keep (Kp.push (X := g.tab) _ _) (fun a e => e ▸ tb) fun _ h => h
      have keepL : ∀ {d v}, RepL s.heap av d v → RepL (s.heap.push { cls := .type "tuple", data := .seq vs.toArray }) av d v := fun r => r.keep (Kp.push (X := g.tab) _ _) (fun a e => e ▸ tb) fun _ h => h
      exact .cons (keep hx) (.cons (.tup _ vs _ (fun h => fr _ h (size_none _)) ⟨_, Heap.get?_push_size _ rfl⟩ (keepL hr)) .nil)
  · cases hd
end Mine
end

noncomputable section
open PySem PySem.W PyProof.Rows
set_option maxRecDepth 100000
namespace Mine

/-- statements that are never reached -/
theorem sssDead {g : Gl} {n : Nat} {ft : FT} {l : List Stmt} : SoundSS g n ft l (fun _ => none) := by
  (try unfold SoundSS at *)
  intro env eo σ fl σ' hd
  cases hd

noncomputable def defAt (i : Nat) : Str × Arguments × List Stmt × Scope := match PySem.Challenge.pw_lg0036_01.main.body[i]? with
  | some (Stmt.FunctionDef nm args body _ _ _ scope _ _ _) => (nm, args, body, scope)
  | _ => ("", ⟨[], [], none, [], [], none, []⟩, [], { kind := .function, names := [], isGenerator := false, isCoroutine := false, more := [] })
noncomputable def nameAt (i : Nat) : Str := (defAt i).1
noncomputable def paramsAt (i : Nat) : Arguments := (defAt i).2.1
noncomputable def bodyAt (i : Nat) : List Stmt := (defAt i).2.2.1
noncomputable def scopeAt (i : Nat) : Scope := (defAt i).2.2.2

noncomputable def defIxs : List Nat := [5, 7, 16, 20, 21, 22, 23, 24, 26, 27, 28, 29, 30, 31, 32, 33, 34]
structure GlF (g : Gl) : Prop extends GlB g where
  fn : ∀ i, i ∈ defIxs → FnIs g (nameAt i) (paramsAt i) (bodyAt i) (scopeAt i)
end Mine
end

noncomputable section
open PySem PySem.W PyProof.Rows
set_option maxRecDepth 100000
namespace Mine

section
variable {g : Gl} {n : Nat} {ft : FT}

noncomputable def vSetIx (l : List V) (i : Int) (v : V) : Option (List V) := if 0 ≤ i then (if i < l.length ∧ i < 1000 then some (l.set i.toNat v) else none) else if -(l.length : Int) ≤ i ∧ -1000 ≤ i then some (l.set (i + l.length).toNat v) else none

/-- an item of an own list is set -/
theorem setOwnItem {env : Env} (eo : EnvOk ft env) {M : AS} {B : Heap} {F : Fm} {σ : Sig} {s : Shared} {i : Nat} {x : Str} {k : NameKind} {a : Addr} {l l' : List V} {vs : List Value} {ix : Int} {t : Tok} {d : V} {v : Value} {A : Around} {Q : Unit → Shared → Prop} {E : Value → Shared → Prop}
    (iv : Inv g s) (S : St g ft env M B F σ s.heap) (hi : ft.tbl[i]? = some (x, k, true)) (hd : eNameL i σ = some (.lst l)) (hv : (if k = .local then F.m x else F.cm x) = some (.ref a)) (hw : F.W a = some (.own i)) (ho : Own s.heap a vs) (hz : l.length ≤ sizeLine) (hr : RepL s.heap (F.av M) l vs)
    (rv : Rep s.heap (F.av M) d v) (h : vSetIx l ix d = some l') (q : ∀ s', Inv g s' → Step g F F s.heap s'.heap → St g ft env M B F (σ.set i (some (.lst l'))) s'.heap → Q () s') : wpAny (model g.prog g.w) A (setItem (.ref a) (.int ix t) v) Q E s := by
  have lo := S.low _ _ hw
  have key : ∀ j : Nat, j < l.length → l' = l.set j d → Q () { s with heap := s.heap.update a (Obj.mapSeq (·.setIfInBounds j v)) } := by
    intro j hj e
    subst e
    have o' := own_update (f := fun xs => xs.setIfInBounds j v) (ws := vs.set j v) ho (by apply Array.toList_inj.mp; simp)
    have sb := Heap.SameBut.update s.heap a (Obj.mapSeq (·.setIfInBounds j v))
    obtain ⟨S', st⟩ := S.setOwn eo hi hd hv hw sb o' (l := l.set j d) (by rw [List.length_set]; exact hz) (hr.set rv j)
    exact q _ (iv.same (t := s.toks) sb lo.2.2.1 lo.2.2.2) st S'
  obtain ⟨m, hm⟩ := ho
  have hsz : vs.toArray.size = l.length := (List.size_toArray ..).trans hr.length
  unfold vSetIx at h
  split at h
  · rename_i h0
    split at h
    · rename_i h1
      cases h
      exact PySem.W.ki_setAt (n := m) hm h0 (by omega) (by rw [hsz]; exact h1.1) (key _ (by omega) rfl)
    · cases h
  · rename_i h0
    split at h
    · rename_i h1
      cases h
      have := key (ix + l.length).toNat (by omega) rfl
      refine PySem.W.ki_setBack (n := m) hm (by omega) (by rw [hsz]; exact h1.1) (by omega) ?_
      rw [hsz]; exact this
    · cases h

/-- x[i] = e of an own x -/
noncomputable def sSetIx (i : Nat) (fi fv : Sig → Option V) : Sig → Option (Fl × Sig) := fun σ => (fv σ).bind fun d => (eNameL i σ).bind fun a => (fi σ).bind fun j => match a, j with
  | .lst l, .int ix => (vSetIx l ix d).map fun l' => (.next, σ.set i (some (.lst l')))
  | _, _ => none
theorem ssSetIx {i : Nat} {x : Str} {k : NameKind} {e j : Expr} {p tp pos : Pos} {fi fv : Sig → Option V} (hi : ft.tbl[i]? = some (x, k, true)) (hdb : (x == ("__debug__" : Str)) = false) (hj : SoundE g n ft j fi) (he : SoundE g n ft e fv)
    (hs : ∀ env, swapsWith e (some (.Subscript (.Name x p) j tp)) pos.line env = pure false) : SoundS g n ft (.Assign [.Subscript (.Name x p) j tp] e pos) (sSetIx i fi fv) := by
  (try unfold SoundE at *); (try unfold SoundS at *)
  intro env eo σ fl σ' hd A ao M B P F s Q E iv S pv q
  obtain ⟨d, hf, hd⟩ := bind_some hd
  obtain ⟨a, ha, hd⟩ := bind_some hd
  obtain ⟨b, hb, hd⟩ := bind_some hd
  obtain ⟨l, rfl⟩ : ∃ l, a = .lst l := by cases a <;> first | exact ⟨_, rfl⟩ | (simp at hd)
  obtain ⟨ix, rfl⟩ : ∃ ix, b = .int ix := by cases b <;> first | exact ⟨_, rfl⟩ | (simp at hd)
  simp only at hd
  cases hl : vSetIx l ix d with
  | none => rw [hl] at hd; cases hd
  | some l' =>
    rw [hl] at hd; cases hd
    refine wpAny_Assign_Subscript (he env eo σ d hf A ao M B F s _ E iv S fun v s₁ x₁ rv => ?_) (hs env)
    have S₁ := S.extE x₁
    have iv₁ := x₁.inv iv
    refine ldOwn eo hi hdb ha S₁ fun l₀ vs b₀ e1 hv hw hown hz hr => ?_
    cases e1
    refine hj env eo σ _ hb A ao M B F s₁ _ E iv₁ S₁ fun vi s₂ x₂ ri => ?_
    cases ri with
    | int _ t =>
      have S₂ := S₁.extE x₂
      refine setOwnItem eo (x₂.inv iv₁) S₂ hi ha hv hw (S₁.ownExt x₂ hw hown) hz (S₁.repLExt x₂ hr) (S₁.repExt x₂ rv) hl fun s' iv' st' S' => ?_
      exact flowNext pv (((x₁.trans x₂).step F).trans st') S' iv' q

/-- x[i] += e of an own x -/
noncomputable def sAugIx (i : Nat) (fi fv : Sig → Option V) : Sig → Option (Fl × Sig) := fun σ => (eNameL i σ).bind fun a => (fi σ).bind fun j => (vIdx a j).bind fun old => (fv σ).bind fun b => (vBin .Add old b).bind fun d => match a, j, old with
  | .lst l, .int ix, .str _ => (vSetIx l ix d).map fun l' => (.next, σ.set i (some (.lst l')))
  | _, _, _ => none
theorem ssAugIx {i : Nat} {x : Str} {k : NameKind} {e j : Expr} {p tp pos : Pos} {fi fv : Sig → Option V} (hi : ft.tbl[i]? = some (x, k, true)) (hdb : (x == ("__debug__" : Str)) = false) (hj : SoundE g n ft j fi) (he : SoundE g n ft e fv)
    (hs : ∀ ov iv new, augStore j ov iv new = (do holding [new, ov, iv] (setItem ov iv new); release [new, ov, iv] []; pure .next)) : SoundS g n ft (.AugAssign (.Subscript (.Name x p) j tp) .Add e pos) (sAugIx i fi fv) := by
  (try unfold SoundE at *); (try unfold SoundS at *)
  intro env eo σ fl σ' hd A ao M B P F s Q E iv S pv q
  obtain ⟨a, ha, hd⟩ := bind_some hd
  obtain ⟨b, hb, hd⟩ := bind_some hd
  obtain ⟨old, hold, hd⟩ := bind_some hd
  obtain ⟨c, hc, hd⟩ := bind_some hd
  obtain ⟨d, hdd, hd⟩ := bind_some hd
  obtain ⟨l, rfl⟩ : ∃ l, a = .lst l := by cases a <;> first | exact ⟨_, rfl⟩ | (simp at hd)
  obtain ⟨ix, rfl⟩ : ∃ ix, b = .int ix := by cases b <;> first | exact ⟨_, rfl⟩ | (simp at hd)
  obtain ⟨y, rfl⟩ : ∃ y, old = .str y := by cases old <;> first | exact ⟨_, rfl⟩ | (simp at hd)
  simp only at hd
  cases hl : vSetIx l ix d with
  | none => rw [hl] at hd; cases hd
  | some l' =>
    rw [hl] at hd; cases hd
    refine wpAny_AugAssign_SubscriptAny ?_ hs
    refine ldOwn eo hi hdb ha S fun l₀ vs b₀ e1 hv hw hown hz hr => ?_
    cases e1
    refine hj env eo σ _ hb A ao M B F s _ E iv S fun vi s₁ x₁ ri => ?_
    have S₁ := S.extE x₁
    have iv₁ := x₁.inv iv
    have hr₁ := S.repLExt x₁ hr
    have hown₁ := S.ownExt x₁ hw hown
    cases ri with
    | int _ t =>
      have get : ∀ (Q' : Value → Shared → Prop), (∀ v, Rep s₁.heap (F.av M) (.str y) v → Q' v s₁) → wpAny (model g.prog g.w) A (getItem (.ref b₀) (.int ix t)) Q' E s₁ := by
        intro Q' q'
        have hz' := hz
        rw [sizeLine_is] at hz'
        simp only [vIdx] at hold
        split at hold
        · rename_i h0
          split at hold
          · obtain ⟨v, hv, rv⟩ := hr₁.getElem? hold
            exact wpAny_getItem_list hown₁.isList h0 (by omega) (by simpa using hv) (q' _ rv)
          · cases hold
        · split at hold
          · rename_i h0 h1
            obtain ⟨v, hv, rv⟩ := hr₁.getElem? hold
            exact wpAny_getItem_list_neg hown₁.isList (by omega) (by rw [List.size_toArray, hr₁.length]; exact h1) (by omega) (by rw [List.size_toArray, hr₁.length]; simpa using hv) (q' _ rv)
          · cases hold
      refine get _ fun vold rold => ?_
      refine he env eo σ c hc A ao M B F s₁ _ E iv₁ S₁ fun vb s₂ x₂ rb => ?_
      have S₂ := S₁.extE x₂
      have iv₂ := x₂.inv iv₁
      refine iaddOp hdd (fun l e => by cases e) (S₁.repExt x₂ rold) rb fun v s₃ x₃ rv => ?_
      have S₃ := S₂.extE x₃
      refine setOwnItem eo (x₃.inv iv₂) S₃ hi ha hv hw (S₂.ownExt x₃ hw (S₁.ownExt x₂ hw hown₁)) hz (S₂.repLExt x₃ (S₁.repLExt x₂ hr₁)) rv hl fun s' iv' st' S' => ?_
      exact flowNext pv ((((x₁.trans x₂).trans x₃).step F).trans st') S' iv' q

/-- del x[i] of an own x -/
noncomputable def sDelIx (i : Nat) (fi : Sig → Option V) : Sig → Option (Fl × Sig) := fun σ => (eNameL i σ).bind fun a => (fi σ).bind fun j => match a, j with
  | .lst l, .int ix => if 0 ≤ ix ∧ ix < l.length ∧ ix < 1000 then some (.next, σ.set i (some (.lst (l.eraseIdx ix.toNat)))) else none
  | _, _ => none
theorem ssDelIx {i : Nat} {x : Str} {k : NameKind} {j : Expr} {p tp pos : Pos} {fi : Sig → Option V} (hi : ft.tbl[i]? = some (x, k, true)) (hdb : (x == ("__debug__" : Str)) = false) (hj : SoundE g n ft j fi) : SoundS g n ft (.Delete [.Subscript (.Name x p) j tp] pos) (sDelIx i fi) := by
  (try unfold SoundE at *); (try unfold SoundS at *)
  intro env eo σ fl σ' hd A ao M B P F s Q E iv S pv q
  obtain ⟨a, ha, hd⟩ := bind_some hd
  obtain ⟨b, hb, hd⟩ := bind_some hd
  obtain ⟨l, rfl⟩ : ∃ l, a = .lst l := by cases a <;> first | exact ⟨_, rfl⟩ | (simp at hd)
  obtain ⟨ix, rfl⟩ : ∃ ix, b = .int ix := by cases b <;> first | exact ⟨_, rfl⟩ | (simp at hd)
  simp only at hd
  split at hd
  case isFalse => cases hd
  rename_i hx
  cases hd
  refine wpAny_Delete (wpAny_deleteEach_cons (wpAny_delete_Subscript ?_))
  refine ldOwn eo hi hdb ha S fun l₀ vs b₀ e1 hv hw hown hz hr => ?_
  cases e1
  refine hj env eo σ _ hb A ao M B F s _ E iv S fun vi s₁ x₁ ri => ?_
  have S₁ := S.extE x₁
  have iv₁ := x₁.inv iv
  have hr₁ := S.repLExt x₁ hr
  have hown₁ := S.ownExt x₁ hw hown
  have lo := S.low _ _ hw
  have hsz : vs.toArray.size = l.length := (List.size_toArray ..).trans hr.length
  cases ri with
  | int _ t =>
    obtain ⟨m, hm⟩ := hown₁
    refine PySem.P.delItem_list (n := m) (k := ix.toNat) hm (fitsIndex_of hx.1 (by omega)) ?_ (wpAny_deleteEach_nil ?_) (by rw [hsz]; exact hz)
    · unfold seqIndex?
      rw [hsz]
      have : ¬ ix < 0 := by omega
      simp [this]; omega
    · have o' := own_update (f := fun xs => xs.eraseIdxIfInBounds ix.toNat) (ws := vs.eraseIdx ix.toNat) ⟨m, hm⟩ (by apply Array.toList_inj.mp; simp)
      have sb := Heap.SameBut.update s₁.heap b₀ (Obj.mapSeq fun xs => xs.eraseIdxIfInBounds ix.toNat)
      obtain ⟨S', st⟩ := S₁.setOwn eo hi ha hv hw sb o' (l := l.eraseIdx ix.toNat) (Nat.le_trans (List.length_eraseIdx_le ..) hz) (hr₁.eraseIdx _)
      exact flowNext pv ((x₁.step F).trans st) S' (iv₁.same (t := s₁.toks) sb lo.2.2.1 lo.2.2.2) q
end
end Mine
end

noncomputable section
open PySem PySem.W PyProof.Rows
open Builtin Builtin.ObjectAttr
set_option maxRecDepth 100000
namespace Mine

theorem lk_append : typeLookup (.type "list") "append" = pure (some (.builtin "list.append")) := by rw [typeLookup_type, builtinLookup_eq_fast]; kernel_rfl
theorem lk_md_get : typeLookup (.type "method_descriptor") "__get__" = pure (some (.builtin "method_descriptor.__get__")) := by rw [typeLookup_type, builtinLookup_eq_fast]; kernel_rfl
theorem lk_md_set : typeLookup (.type "method_descriptor") "__set__" = pure none := by rw [typeLookup_type, builtinLookup_eq_fast]; kernel_rfl
theorem lk_md_del : typeLookup (.type "method_descriptor") "__delete__" = pure none := by rw [typeLookup_type, builtinLookup_eq_fast]; kernel_rfl
theorem ty_append : typeOf (.builtin "list.append") = pure (.type "method_descriptor") := PySem.F.type_list_append

theorem slot_mdget : Slot "method_descriptor" "__get__" "method_descriptor.__get__" :=
  .of (owner := "method_descriptor") (n := "__get__") (by rw [typeLookup_type, builtinLookup_eq_fast]; kernel_rfl) (by decide +kernel) (by decide +kernel) (by decide +kernel)
    (by first | exact .inl (by decide +kernel) | exact .inr (by decide +kernel)) (by rw [isSubtype_type]; kernel_rfl)
theorem entry_mdget : entryFor table "method_descriptor.__get__" = some Builtin.«method_descriptor.__get__» := entryFor_of_tree (by kernel_rfl)
theorem args_mdget (a b c : Value) : argsOk "method_descriptor.__get__" ⟨[a, b, c], []⟩ := by unfold argsOk; kernel_rfl
theorem told_append : Manifest.toldItsClass.contains "list.append" = false := by decide +kernel
theorem list_in_list : isSubtype (.type "list") (.type "list") = pure true := by rw [isSubtype_type]; kernel_rfl
theorem run_mdget {M : Model} {A : Around} {E : Value → Shared → Prop} {s : Shared} {a : Addr} {P : Fin → Shared → Prop} (hT : s.TypeIs (.ref a) "list") (h : P (.done (.ret (.ref s.heap.objs.size))) { s with heap := s.heap.push (bmObj a) }) :
    wpAny M A (Builtin.«method_descriptor.__get__» ⟨[.builtin "list.append", .ref a, .type "list"], []⟩) P E s := by
  obtain ⟨hp, g, d, tk, os⟩ := s
  have f1 := list_in_list
  unfold Builtin.«method_descriptor.__get__»
  refine wpAny_bind (wpAny_of_eq (a := (.builtin "list.append", some (.ref a), some (.type "list"))) (by first | rfl | kernel_rfl) ?_)
  dsimp only
  rw [told_append]
  simp only [Bool.false_eq_true, if_false]
  repeat (any_goals (first | assumption | wp_step))
  rw [show ".".intercalate ("list.append".cutAt '.').dropLast = "list" by first | decide +kernel | kernel_rfl, f1]
  repeat (any_goals (first | assumption | wp_step))

theorem meets_get_append (a : Addr) (xs : Array Value) (k : Nat) (u : Tok) (sl : Array (Option Value)) :
    Meets (Builtin.«object.__getattribute__» ⟨[.ref a, .str "append" u], []⟩) (fun A R s => s.heap.get? a = some { cls := .type "list", dict := none, data := .seq xs k, slots := sl } ∧ R (.ok (.ret (.ref s.heap.objs.size))) { s with heap := s.heap.push (bmObj a) }) :=
  Meets.of_wp fun prog w A R s hs => by
    obtain ⟨hp, g, d, tk, os⟩ := s
    obtain ⟨hx, hs⟩ := hs
    have hT : (⟨hp, g, d, tk, os⟩ : Shared).TypeIs (.ref a) "list" := ⟨_, hx, rfl⟩
    have f1 := lk_append
    have f2 := lk_md_get
    have f3 := lk_md_set
    have f4 := lk_md_del
    have f5 := ty_append
    unfold Builtin.«object.__getattribute__»
    repeat (any_goals (first | assumption | wp_step))
    refine codeAny_call_builtin slot_mdget.plain entry_mdget (slot_mdget.check _ _ _ _ _ _ _ _ ty_append (args_mdget _ _ _) ?_)
    exact run_mdget hT (wpAny_pure ⟨_, rfl, hs⟩)

theorem getAttr_append {prog : Program} {w : World} {A : Around} {E : Value → Shared → Prop} {s : Shared} {a : Addr} {xs : Array Value} {k : Nat} {Q : Value → Shared → Prop}
    (hx : s.heap.get? a = some { cls := .type "list", data := .seq xs k }) (h : ∀ tk, Q (.ref s.heap.objs.size) { s with heap := s.heap.push (bmObj a), toks := tk }) :
    wpAny (model prog w) A (getAttr (.ref a) "append" true) Q E s := by
  obtain ⟨hp, g, d, tk, os⟩ := s
  have hT : ∀ tk', (⟨hp, g, d, tk', os⟩ : Shared).TypeIs (.ref a) "list" := fun _ => ⟨_, hx, rfl⟩
  have f3 := F.slot_list_getattribute.lookup
  have f4 := F.slot_list_getattribute.bind (.ref a)
  unfold getAttr getAttrBy
  repeat (any_goals (first | assumption | exact hT _ | ((with_reducible show wpAny _ _ (call (Value.builtin "list.__getattribute__") _ _) _ _ _); refine call_meets F.slot_list_getattribute (hT _) am_entry_list_getattribute (F.args_list_getattribute_2 _ _) (meets_get_append a xs k _ _) ⟨hx, ?_⟩) | wp_step))
  exact wpAny_pure (h _)

theorem callWith_bm {M : Model} {A : Around} {E : Value → Shared → Prop} {s : Shared} {pos : Pos} {u a : Addr} {first : List Value} {args : List (Bool × Sem Value)} {Q : Value → Shared → Prop} (hplain : args.any (·.1) = false)
    (h : wpAny M A (evalArgs (.ref u) true args []) (fun x s₁ => s₁.heap.get? u = some (bmObj a) ∧ wpAny M A (call (.ref u) (first ++ x.pos) x.kw) Q E s₁) E s) : wpAny M A (callWith pos (.ref u) first args []) Q E s := by
  unfold callWith
  refine wpAny_bind (wpAny_holding (wpAny_mono h (fun x s₁ h₁ => wpAny_bind (wpAny_standAt ?_)) fun _ _ x => x))
  obtain ⟨ho, hcall⟩ := h₁
  simp only [hplain, List.any_nil, Bool.or_false]
  refine wpAny_bind (m := keeperOf (.ref u)) ?_
  unfold keeperOf
  refine wpAny_bind (wpAny_load ho ?_)
  simp only [bmObj, show (Value.type "builtin_function_or_method" != Value.type "method") = true by decide, show (Value.type "builtin_function_or_method" == Value.type "builtin_function_or_method" || Value.type "builtin_function_or_method" == Value.type "method-wrapper") = true by decide, if_true]
  refine wpAny_pure ?_
  exact wpAny_bind (wpAny_mono hcall (fun r s₂ hr => wpAny_bind (wpAny_holding (wpAny_point (wpAny_pure hr)))) fun _ _ x => x)

theorem list_no_module : isSubtype (.type "list") (.type "module") = pure false := by rw [isSubtype_type]; kernel_rfl
theorem check_bm {M : Model} {A : Around} {E : Value → Shared → Prop} {s : Shared} {a : Addr} {v : Value} {xs : Array Value} {k : Nat} {Q : Unit → Shared → Prop} (hx : s.heap.get? a = some { cls := .type "list", data := .seq xs k }) (h : Q () s) :
    wpAny M A (checkBoundCall "list.append" ⟨[.ref a, v], []⟩) Q E s := by
  obtain ⟨hp, g, d, tk, os⟩ := s
  have hT : (⟨hp, g, d, tk, os⟩ : Shared).TypeIs (.ref a) "list" := ⟨_, hx, rfl⟩
  have f1 := list_no_module
  unfold checkBoundCall
  repeat (any_goals (first | assumption | wp_step))
theorem call_bm {prog : Program} {w : World} {A : Around} {E : Value → Shared → Prop} {s : Shared} {u a : Addr} {v : Value} {xs : Array Value} {k : Nat} {Q : Value → Shared → Prop} (hu : s.heap.get? u = some (bmObj a)) (hx : s.heap.get? a = some { cls := .type "list", data := .seq xs k }) (hz : xs.size ≤ sizeLine)
    (h : Q .none { s with heap := s.heap.update a (Obj.mapSeq (·.push v)) }) : wpAny (model prog w) A (call (.ref u) [v]) Q E s := by
  refine wpAny_call (codeAny_of_tree ?_)
  show wpAny _ _ (callAny (.ref u) ⟨[v], []⟩) _ _ _
  simp only [callAny]
  refine wpAny_bind (wpAny_load hu ?_)
  simp only [bmObj]
  simp only [show (Value.type "builtin_function_or_method" == Value.type "method" || Value.type "builtin_function_or_method" == Value.type "builtin_function_or_method" || Value.type "builtin_function_or_method" == Value.type "method-wrapper") = true by decide, if_true]
  show wpAny _ _ (checkBoundCall "list.append" ⟨[.ref a, v], []⟩ >>= fun _ => again (.builtin "list.append" ⟨[.ref a, v], []⟩)) _ _ _
  refine wpAny_bind (check_bm hx (wpAny_pure ⟨plainId_quiet slot_list_append.plain _, codeAny_builtin entry_list_append ?_⟩))
  rw [Around.under_plainId slot_list_append.plain _]
  show wpAny _ _ (updateSeq a (·.push v) >>= fun _ => ret .none) _ _ s
  exact wpAny_bind (wpAny_updateSeq hx rfl (wpAny_pure h) hz (by rw [Array.size_push]; omega))
end Mine
end

noncomputable section
open PySem PySem.W PyProof.Rows
set_option maxRecDepth 100000
namespace Mine

section
variable {g : Gl} {n : Nat} {ft : FT}

/-- an own name takes the bound append of an own list -/
theorem stBm {env : Env} (eo : EnvOk ft env) {i j : Nat} {x : Str} (hj : ft.tbl[j]? = some (x, .local, true)) {M : AS} {B : Heap} {F : Fm} {σ : Sig} {s : Shared} {a b : Addr} {A : Around} {Q : Unit → Shared → Prop} {E : Value → Shared → Prop}
    (iv : Inv g s) (S : St g ft env M B F σ s.heap) (hw : F.W a = some (.own i)) (hb : s.heap.get? b = some (bmObj a)) (hnb : ¬ F.av M b) (hone : ∀ a', F.W a' = some (.own i) → a' = a)
    (q : ∀ s' F', Inv g s' → F'.W = F.W → Step g F F' s.heap s'.heap → St g ft env M B F' (σ.set j (some (.int i))) s'.heap → Q () s') : wpAny (model g.prog g.w) A (storeName env x (.ref b)) Q E s := by
  obtain ⟨hlk, hk⟩ := eo.tbl j x .local true hj
  have hkd : env.scope.kind = .function := by rw [eo.scope]; exact eo.kind
  have hko : env.kindOf x = some .local := by show env.scope.names.lookup x = some _; rw [eo.scope]; exact hlk
  refine wpAny_storeName_local hko S.ns (fun h' hn hs => ?_) (by rw [hkd]; rfl)
  have hL : h'.get? env.locals ≠ none := by obtain ⟨o, _, _, ho, _⟩ := hn; exact get_ne_none ho
  obtain ⟨p1, p2, p3, p4⟩ := S.poke S.loc hs hL
  have l := S.low _ _ S.loc
  have hbL : b ≠ env.locals := by rintro rfl; exact hnb (.inr (by rw [S.loc]; exact fun z => nomatch z))
  refine q _ { F with m := fun y => if y = x then some (.ref b) else F.m y } (iv.same hs l.2.2.1 l.2.2.2 fun _ => Nat.succ_pos _) rfl ⟨p4.kp, p4.gr⟩ ⟨hn, S.loc, fun y c e => ?_, fun a o w => ?_, p3, S.Mlow, S.Mtab, p2, fun i' y k' own d' ei hd' => ?_⟩
  · obtain ⟨p, hcell⟩ := S.cell y c e
    refine ⟨p, hcell.sameBut hs ?_⟩
    rintro rfl
    rcases p with w | ⟨_, m, _⟩
    · rw [S.loc] at w; cases w
    · exact p1 _ (S.Mlow _ m) rfl
  · have : a ≠ env.locals := by rintro rfl; rw [S.loc] at w; cases w
    exact (hs.2 a this).trans (S.priv a o w)
  · rcases getD_set hd' with ⟨rfl, e⟩ | ⟨ne, hd'⟩
    · cases e
      rw [hj] at ei; cases ei
      exact ⟨.ref b, by simp, .inr (.inr ⟨rfl, i, a, b, rfl, rfl, hw, hnb, (hs.2 b hbL).trans hb, hone⟩)⟩
    · obtain ⟨v', ev, rv⟩ := S.var i' y k' own d' ei hd'
      have hne : y ≠ x := by rintro rfl; exact ne (eo.uniq _ _ _ _ _ _ _ ei hj)
      refine ⟨v', ?_, rv.keep (X := fun a => a = env.locals) (Kp.same hs rfl) (fun a e => .inr (by rw [e, S.loc]; exact fun z => nomatch z)) (fun _ q => q) (fun a _ w => ⟨w, fun _ vs ⟨m, hm⟩ => ⟨m, (hs.2 a ?_).trans hm⟩⟩) fun _ _ _ _ h => h⟩
      · by_cases e : k' = .local
        · simp [e, hne] at ev ⊢; exact ev
        · simp [e] at ev ⊢; exact ev
      · rintro rfl; rw [S.loc] at w; cases w


open Classical in
theorem St.oneOwn {env : Env} {M : AS} {B : Heap} {F : Fm} {σ : Sig} {h : Heap} {i : Nat} {a : Addr} (S : St g ft env M B F σ h) (hw : F.W a = some (.own i)) (hv : ∀ x k, ft.tbl[i]? = some (x, k, true) → (if k = .local then F.m x else F.cm x) = some (.ref a)) (hnb : noBm ft i σ = true) :
    St g ft env M B { F with W := fun b => if F.W b = some (.own i) ∧ b ≠ a then none else F.W b } σ h ∧ Step g F { F with W := fun b => if F.W b = some (.own i) ∧ b ≠ a then none else F.W b } h h := by
  let F' : Fm := { F with W := fun b => if F.W b = some (.own i) ∧ b ≠ a then none else F.W b }
  have wOf : ∀ b r, F'.W b = some r → F.W b = some r := by
    intro b r w
    have w' : (if F.W b = some (.own i) ∧ b ≠ a then none else F.W b) = some r := w
    split at w'
    · cases w'
    · exact w'
  have wTo : ∀ b r, F.W b = some r → (r = .own i → b = a) → F'.W b = some r := by
    intro b r w hr
    show (if F.W b = some (.own i) ∧ b ≠ a then none else F.W b) = some r
    rw [if_neg (fun q => q.2 (hr (by have := q.1; rw [w] at this; cases this; rfl)))]; exact w
  have av1 : ∀ b, F'.av M b → F.av M b := by
    intro b hb
    rcases hb with m | w
    · exact .inl m
    · cases e : F'.W b with
      | none => exact absurd e w
      | some r => exact .inr (by rw [wOf b r e]; exact fun z => nomatch z)
  refine ⟨⟨S.ns, wTo _ _ S.loc (fun e => by cases e), fun y c e => ?_, fun b o w => S.priv b o (wOf b _ w), fun b r w => S.low b r (wOf b r w), S.Mlow, S.Mtab, S.keep, fun j y k own d e hd => ?_⟩, fun _ _ _ e => e, fun b t w => .inl ?_⟩
  · obtain ⟨p, hc⟩ := S.cell y c e
    exact ⟨p.imp (fun w => wTo _ _ w (fun e => by cases e)) id, hc⟩
  · obtain ⟨v, ev, r⟩ := S.var j y k own d e hd
    refine ⟨v, ev, ?_⟩
    rcases r with ⟨o, r⟩ | ⟨o, l, vs, b, e1, e2, e3, e4, e5, r⟩ | ⟨o, j', b, c, e1, e2, e3, e4, e5, e6⟩
    · exact .inl ⟨o, r.weaken av1⟩
    · refine .inr (.inl ⟨o, l, vs, b, e1, e2, wTo _ _ e3 (fun q => ?_), e4, e5, r.weaken av1⟩)
      cases q
      subst o e2
      have := hv y k e
      rw [ev] at this
      cases this; rfl
    · refine .inr (.inr ⟨o, j', b, c, e1, e2, wTo _ _ e3 (fun q => ?_), fun q => e4 (av1 _ q), e5, fun a' h => e6 a' (wOf _ _ h)⟩)
      cases q
      subst o e1
      exact absurd rfl (noBm_ne hnb e hd)
  · cases e : F'.W b with
    | none => exact absurd e w
    | some r => rw [wOf b r e]; exact fun z => nomatch z

/-- y = x.append, where x and y are own names -/
noncomputable def sBind (ft : FT) (i j : Nat) : Sig → Option (Fl × Sig) := fun σ => (eNameL i σ).bind fun _ => if noBm ft i σ then some (.next, σ.set j (some (.int i))) else none
open Classical in
theorem ssBind {i j : Nat} {x y : Str} {name : Str} {p p' ap pos : Pos} (hn : name = "append") (hi : ft.tbl[i]? = some (x, .local, true)) (hj : ft.tbl[j]? = some (y, .local, true)) (hdb : (x == ("__debug__" : Str)) = false) :
    SoundS g n ft (.Assign [.Name y p'] (.Attribute (.Name x p) name ap) pos) (sBind ft i j) := by
  (try unfold SoundS at *)
  subst hn
  intro env eo σ fl σ' hd A ao M B P F s Q E iv S pv q
  obtain ⟨d, hl, hd⟩ := bind_some hd
  split at hd
  case isFalse => cases hd
  rename_i hnb
  cases hd
  refine wpAny_Assign_Name ?_ (by rfl)
  show wpAny _ _ (eval (.Name x p) env >>= fun o => standAt ap.atName >>= fun _ => holding [o] (getAttr o "append" true) >>= fun r => pure () >>= fun _ => pure r) _ _ _
  refine wpAny_bind (ldOwn eo hi hdb hl S fun l vs a e hv hw hown hz hr => ?_)
  obtain ⟨S₀, st₀⟩ := S.oneOwn hw (fun x' k' e' => by rw [hi] at e'; cases e'; exact hv) hnb
  obtain ⟨m, hm⟩ := hown
  have ht := iv.tok
  refine wpAny_bind (wpAny_standAt (wpAny_bind (wpAny_holding (up ht fun E' => getAttr_append hm fun tk htk => ?_))))
  refine wpAny_bind (wpAny_pure (wpAny_pure ?_))
  let s₁ : Shared := { s with heap := s.heap.push (bmObj a), toks := tk }
  have x₁ : Ext g s s₁ := Ext.push g s (bmObj a) tk fun _ => htk
  have pv₀ : Privs P { F with W := fun b => if F.W b = some (.own i) ∧ b ≠ a then none else F.W b } := by
    intro b o p
    have h1 := pv b o p
    show (if F.W b = some (.own i) ∧ b ≠ a then none else F.W b) = _
    rw [if_neg (fun q => by have := q.1; rw [h1] at this; cases this)]; exact h1
  refine stBm eo hj (i := i) (a := a) (x₁.inv iv) (S₀.extE x₁) (by show (if F.W a = some (.own i) ∧ a ≠ a then none else F.W a) = _; rw [if_neg (fun q => q.2 rfl)]; exact hw) (Heap.get?_push_size _ rfl) (fun h => S₀.avSome iv _ h (size_none _)) (fun a' h => ?_) fun s' F' iv' hW st S' => ?_
  · have h' : (if F.W a' = some (.own i) ∧ a' ≠ a then none else F.W a') = some (.own i) := h
    by_cases e : a' = a
    · exact e
    · split at h'
      · cases h'
      · rename_i c; exact absurd ⟨h', e⟩ c
  · exact q _ _ iv' (.inl ⟨rfl, F', pv₀.mono (by rw [hW]; exact fun _ _ e => e), (st₀.trans (x₁.step _)).trans st, S'⟩)

/-- y(e), where y is the bound append of an own list -/
noncomputable def sAdd (ft : FT) (j : Nat) (f : Sig → Option V) : Sig → Option (Fl × Sig) := fun σ => (σ.getD j none).bind fun b => match b with
  | .int i => (f σ).bind fun d => (eNameL i.toNat σ).bind fun a => match a, ft.tbl[i.toNat]? with
    | .lst l, some (_, .local, true) => if l.length ≤ 1000 then some (.next, σ.set i.toNat (some (.lst (l ++ [d])))) else none
    | _, _ => none
  | _ => none
theorem ssAdd {j : Nat} {y : Str} {e : Expr} {p cp pos : Pos} {f : Sig → Option V} (hj : ft.tbl[j]? = some (y, .local, true)) (hdb : (y == ("__debug__" : Str)) = false) (he : SoundE g n ft e f) (hst : ∀ env, starEach [e] env = [(false, eval e env)])
    (hin : ∀ env : Env, env.scope = ft.scope → interactive env = false) : SoundS g n ft (.Expr (.Call (.Name y p) [e] [] cp) pos) (sAdd ft j f) := by
  (try unfold SoundE at *); (try unfold SoundS at *)
  intro env eo σ fl σ' hd A ao M B P F s Q E iv S pv q
  obtain ⟨c, hc, hd⟩ := bind_some hd
  obtain ⟨i, rfl⟩ : ∃ i, c = .int i := by cases c <;> first | exact ⟨_, rfl⟩ | (simp at hd)
  obtain ⟨d, hf, hd⟩ := bind_some hd
  obtain ⟨a', ha, hd⟩ := bind_some hd
  obtain ⟨l₀, rfl, ha'⟩ := eNameL_is ha
  split at hd
  case h_2 => cases hd
  rename_i l x el hi
  cases el
  split at hd
  case isFalse => cases hd
  rename_i hz'
  cases hd
  obtain ⟨v, hv, r⟩ := S.var j y .local true _ hj hc
  rw [if_pos rfl] at hv
  rcases r with ⟨o, _⟩ | ⟨_, _, _, _, el, _⟩ | ⟨_, i', a, b, ei, rfl, hw, hnb, hb, hone⟩
  · cases o
  · cases el
  have e1 : i.toNat = i' := by cases ei; omega
  rw [e1] at ha ha' hi
  obtain ⟨v₂, hv₂, r₂⟩ := S.var i' x .local true _ hi ha'
  rcases r₂ with ⟨o, _⟩ | ⟨_, l, vs, a₂, el, rfl, hw₂, hown, hz, hr⟩ | ⟨_, _, _, _, el, _⟩
  · cases o
  rotate_left
  · cases el
  cases el
  have ea := hone a₂ hw₂
  subst ea
  have hkd : env.scope.kind = .function := by rw [eo.scope]; exact eo.kind
  have hko : env.kindOf y = some .local := by show env.scope.names.lookup y = some _; rw [eo.scope]; exact (eo.tbl j y .local true hj).1
  refine wpAny_Expr ?_ (hin env eo.scope) (by rfl)
  refine wpAny_Call_ofName (wpAny_Name (wpAny_loadName_local hkd hko S.ns hv ?_) hdb)
  refine callWith_bm (a := a₂) (by rw [hst]; rfl) ?_
  rw [hst]
  refine Calls.evalArgs_plain (Calls.spliced_cons (he env eo σ d hf A ao M B F s _ E iv S fun v s₁ x₁ rv => Calls.spliced_nil ?_))
  have S₁ := S.extE x₁
  have iv₁ := x₁.inv iv
  have hbT : b ≠ g.TB := fun e => hnb (.inl (e ▸ S.Mtab))
  have hb₁ := x₁.keep b _ hbT hb
  obtain ⟨m₁, hm₁⟩ := S.ownExt x₁ hw₂ hown
  refine ⟨hb₁, ?_⟩
  refine call_bm hb₁ hm₁ (by rw [List.size_toArray, hr.length]; exact hz) ?_
  have o' := own_update (f := fun xs => xs.push v) (ws := vs ++ [v]) ⟨m₁, hm₁⟩ (by simp)
  have sb := Heap.SameBut.update s₁.heap a₂ (Obj.mapSeq fun xs => xs.push v)
  obtain ⟨S', st⟩ := S₁.setOwn eo hi ha hv₂ hw₂ sb o' (l := l₀ ++ [d]) (by rw [List.length_append, sizeLine_is]; simp; omega) ((S.repLExt x₁ hr).snoc rv)
  have lo := S.low _ _ hw₂
  rw [e1] at q
  exact flowNext pv ((x₁.step F).trans st) S' (iv₁.same (t := s₁.toks) sb lo.2.2.1 lo.2.2.2) q
end
end Mine
end

noncomputable section
open PySem PySem.W PyProof.Rows
open Builtin Builtin.Str
set_option maxRecDepth 100000
namespace Mine

theorem slot_str_translate' : Slot "str" "translate" "str.translate" := by first | exact F.slot_str_translate | skip
theorem sub_key_lookup : isSubtype (.type "KeyError") (.type "LookupError") = pure true := by rw [isSubtype_type]; kernel_rfl

section
variable {prog : Program} {w : World} {A : Around} {E : Value → Shared → Prop} {s : Shared} {d : Addr} {f : Int → Option Value}
theorem tl_hit {c : Nat} {x : Str} {t : Tok} {Q : Mapped → Shared → Prop} (hm : s.heap.MapOf (intKind prog w) d f) (hv : f c = some (.str x t)) (h : ∀ tk, Q (.text x) { s with toks := tk }) : wpAny (model prog w) A (tableLookup (.ref d) c) Q E s := by
  obtain ⟨hp, g, dr, tk, os⟩ := s
  unfold tableLookup
  refine wpAny_bind (wpAny_attempt (wpAny_bind (wpAny_mkInt (wpAny_getItem_of (k := (c : Int)) (intKind_is _ _ _ _) hm hv ?_))))
  repeat (any_goals (first | assumption | wp_step))
  exact h _
theorem tl_miss {c : Nat} {Q : Mapped → Shared → Prop} (hh : A.handled = none) (hd : (d == sysModules) = false) (hm : s.heap.MapOf (intKind prog w) d f) (hv : f c = none) (h : ∀ h' tk, (∀ a o, s.heap.get? a = some o → h'.get? a = some o) → Q .keep { s with heap := h', toks := tk }) : wpAny (model prog w) A (tableLookup (.ref d) c) Q E s := by
  obtain ⟨hp, g, dr, tk, os⟩ := s
  unfold tableLookup
  refine wpAny_bind (wpAny_attempt (wpAny_bind (wpAny_mkInt (wpAny_getItem_missing_of (k := (c : Int)) (intKind_is _ _ _ _) hd hh hm hv fun h' e he => ?_))))
  have f1 := sub_key_lookup
  obtain ⟨ob, u, h1, h2, h3⟩ := he.there
  show wpAny _ _ (isInstance (.ref e) (.type "LookupError") >>= fun b => if b = true then (rule "str.translate.not-in-table" >>= fun _ => pure Mapped.keep) else throw (.ref e)) _ _ _
  refine wpAny_bind (wpAny_isInstance (T := "KeyError") (b := true) ⟨ob, h1, h2⟩ f1 ?_)
  simp only [if_true]
  exact wpAny_bind (wpAny_rule (wpAny_pure (h h' _ he.keeps)))

theorem trans_hit {x : Str} {t : Tok} {c : Nat} {y : Str} {u : Tok} {P : PySem.Fin → Shared → Prop} (hx : x = ⟨#[c]⟩) (hc : c < 128) (hm : s.heap.MapOf (intKind prog w) d f) (hv : f c = some (.str y u)) (hy : y.length = 2)
    (h : ∀ tk tk', P (.done (.ret (.str y tk))) { s with toks := tk' }) : wpAny (model prog w) A (Builtin.«str.translate» ⟨[.str x t, .ref d], []⟩) P E s := by
  subst hx
  obtain ⟨hp, g, dr, tk, os⟩ := s
  have hy1 : (y.length == 1) = false := by rw [hy]; rfl
  unfold Builtin.«str.translate»
  repeat (any_goals (first | assumption | ((with_reducible show wpAny _ _ (tableLookup _ _) _ _ _); refine tl_hit hm hv fun _ => ?_) | wp_step))
  simp only [hy1, Bool.false_and, Bool.false_eq_true, if_false]
  repeat (any_goals (first | assumption | ((with_reducible show wpAny _ _ (tableLookup _ _) _ _ _); refine tl_hit hm hv fun _ => ?_) | wp_step))
  have ht : tooLong (0 + y.length) = false := by rw [hy]; decide
  simp only [ht, Bool.false_eq_true, if_false]
  have hr : ({ cps := List.foldl (fun acc (p : Str) => acc ++ p.cps) #[] [y].reverse } : Str) = y := by
    obtain ⟨cps⟩ := y
    simp
  rw [hr]
  unfold retStr
  refine wpAny_bind (wpAny_mkStr (wpAny_pure (h _ _)) (by rw [hy]; decide))

theorem trans_miss {x : Str} {t : Tok} {c : Nat} {P : PySem.Fin → Shared → Prop} (hx : x = ⟨#[c]⟩) (hc : c < 128) (hh : A.handled = none) (hd : (d == sysModules) = false) (hm : s.heap.MapOf (intKind prog w) d f) (hv : f c = none)
    (h : ∀ tk h' tk', (∀ a o, s.heap.get? a = some o → h'.get? a = some o) → P (.done (.ret (.str x tk))) { s with heap := h', toks := tk' }) : wpAny (model prog w) A (Builtin.«str.translate» ⟨[.str x t, .ref d], []⟩) P E s := by
  subst hx
  obtain ⟨hp, g, dr, tk, os⟩ := s
  have hcs : ((#[c] : Array Nat).all fun x => decide (x < 128)) = true := by simp [hc]
  unfold Builtin.«str.translate»
  repeat (any_goals (first | assumption | ((with_reducible show wpAny _ _ (tableLookup _ _) _ _ _); refine tl_miss hh hd hm hv fun _ _ hk => ?_) | wp_step))
  exact h _ _ _ hk
end

/-- the table of escapes, as the top leaves it -/
noncomputable def EscOk (g : Gl) : Prop := ∃ d f, g.mg "_special_chars_map" = some (.ref d) ∧ d ≠ g.TB ∧ (d == sysModules) = false ∧ g.G.MapOf (intKind g.prog g.w) d f ∧ (∃ t, f 46 = some (.str "\\." t)) ∧ (∃ t, f 45 = some (.str "\\-" t)) ∧ f 97 = none ∧ f 98 = none

theorem mapOf_keep {prog : Program} {w : World} {h h' : Heap} {d : Addr} {f : Int → Option Value} (hm : h.MapOf (intKind prog w) d f) (k : ∀ o, h.get? d = some o → h'.get? d = some o) : h'.MapOf (intKind prog w) d f :=
  let ⟨o, es, ep, ho, r⟩ := hm; ⟨o, es, ep, k o ho, r⟩

noncomputable def fTrans (x : Str) : Option V := if x = "." then some (.str "\\.") else if x = "-" then some (.str "\\-") else if x = "a" ∨ x = "b" then some (.str x) else none
noncomputable def eTrans (f : Sig → Option V) : Sig → Option V := fun σ => (f σ).bind fun a => match a with
  | .str x => fTrans x
  | _ => none
theorem slot_tr : Slot "str" "translate" "str.translate" :=
  .of (owner := "str") (n := "translate") (by rw [typeLookup_type, builtinLookup_eq_fast]; kernel_rfl) (by decide +kernel) (by decide +kernel) (by decide +kernel)
    (by first | exact .inl (by decide +kernel) | exact .inr (by decide +kernel)) (by rw [isSubtype_type]; kernel_rfl)
theorem type_tr : typeOf (.builtin "str.translate") = pure (.type "method_descriptor") := by show builtinType _ = _; rw [builtinType_eq_fast]; kernel_rfl
theorem entry_tr : entryFor table "str.translate" = some Builtin.«str.translate» := entryFor_of_tree (by kernel_rfl)
theorem args_tr (a b : Value) : argsOk "str.translate" ⟨[a, b], []⟩ := by unfold argsOk; kernel_rfl

section
variable {g : Gl} {n : Nat} {ft : FT}
theorem sTrans (G : GlOk g) (X : EscOk g) {o : Expr} {name y : Str} {apos pos p1 : Pos} {f : Sig → Option V} (hn : name = "translate") (hy : y = "_special_chars_map") (ho : SoundE g n ft o f) (hs : ft.scope.names.lookup y = some .globalImplicit)
    (hbase : ∀ env, attributeBase o name env (eval o env) = eval o env) (hline : (apos.endLine == pos.line) = true) : SoundE g n ft (.Call (.Attribute o name apos) [.Name y p1] [] pos) (eTrans f) := by
  (try unfold SoundE at *)
  subst hn hy
  intro env eo σ d hd A ao M B F s Q E iv S q
  obtain ⟨a, ha, hd⟩ := bind_some hd
  refine wpAny_Call_method_lateS (hbase env) (by rfl) hline (ho env eo σ a ha A ao M B F s _ E iv S fun va s₁ x₁ ra => ?_)
  cases ra <;> (try (simp at hd; done))
  rename_i x t hx
  simp only at hd
  refine ⟨"str", "str.translate", PySem.F.plainAttrs_str, slot_tr, type_tr, typeIs_str _ _ _, fun _ e => (nomatch e), ?_⟩
  have iv₁ := x₁.inv iv
  obtain ⟨dd, m, hmg, hT, hsm, hm, ⟨t1, h46⟩, ⟨t2, h45⟩, h97, h98⟩ := X
  have e : backTo pos (starEach [.Name "_special_chars_map" p1] env) = [(false, eval (.Name "_special_chars_map" p1) env)] := rfl
  rw [e]
  refine Calls.callWith_builtin rfl (Calls.evalArgs_plain (Calls.spliced_cons (ldGl G eo hmg hs iv₁ (Calls.spliced_nil ?_) (by decide))))
  have hm₁ : s₁.heap.MapOf (intKind g.prog g.w) dd m := mapOf_keep hm fun o e => iv₁.keep dd o hT e
  refine wpAny_call_entry slot_tr (typeIs_str _ _ _) entry_tr ?_ (args_tr _ _)
  have hit : ∀ (c : Nat) (z : Str) (u : Tok), x = ⟨#[c]⟩ → c < 128 → m c = some (.str z u) → z.length = 2 → d = .str z → wpAny (model g.prog g.w) A.in1 (Builtin.«str.translate» ⟨[.str x t, .ref dd], []⟩) (fun fin s' => ∃ v, fin = .done (.ret v) ∧ Q v s') E s₁ := by
    intro c z u h1 h2 h3 h4 h5
    refine up iv₁.tok fun E' => trans_hit h1 h2 hm₁ h3 h4 fun tk tk' htk => ⟨_, rfl, ?_⟩
    rw [h5] at q
    exact q _ _ (x₁.trans (Ext.tok g s₁ tk' fun _ => htk)) (.str _ _ (by rw [h4]; decide))
  have miss : ∀ (c : Nat), x = ⟨#[c]⟩ → c < 128 → m c = none → d = .str x → wpAny (model g.prog g.w) A.in1 (Builtin.«str.translate» ⟨[.str x t, .ref dd], []⟩) (fun fin s' => ∃ v, fin = .done (.ret v) ∧ Q v s') E s₁ := by
    intro c h1 h2 h3 h5
    refine up iv₁.tok fun E' => trans_miss h1 h2 (A := A.in1) ao.handled hsm hm₁ h3 fun tk h' tk' hk htk => ⟨_, rfl, ?_⟩
    rw [h5] at q
    exact q _ _ (x₁.trans (Ext.of hk fun _ => htk)) (.str _ _ hx)
  unfold fTrans at hd
  split at hd
  · rename_i h; cases hd; exact hit 46 _ t1 h (by decide) h46 (by decide) rfl
  · split at hd
    · rename_i h; cases hd; exact hit 45 _ t2 h (by decide) h45 (by decide) rfl
    · split at hd
      · rename_i h
        cases hd
        rcases h with h | h
        · exact miss 97 h (by decide) h97 rfl
        · exact miss 98 h (by decide) h98 rfl
      · cases hd
end
end Mine
end

noncomputable section
open PySem PySem.W PyProof.Rows
open Builtin Builtin.Str
set_option maxRecDepth 100000
namespace Mine

/-- the module of the built-ins, as the top leaves it -/
noncomputable def BuiltOk (g : Gl) : Prop := ∃ bm ob, g.mg "__builtins__" = some (.ref bm) ∧ bm ≠ builtinsNs ∧ bm ≠ g.TB ∧ g.G.get? bm = some ob ∧ ob.cls = .type "module" ∧ ob.dict = some builtinsNs ∧ ob.data = .plain

section
variable {prog : Program} {w : World} {A : Around} {E : Value → Shared → Prop} {s : Shared}
theorem rep_none {x y z : Str} {t u v : Tok} {Q : Value → Shared → Prop} (h0 : (occurrences x y 0 x.length (x.length + 1)).isEmpty = true) (h : Q (.str x t) s) : wpAny (model prog w) A (call (.builtin "str.replace") [.str x t, .str y u, .str z v]) Q E s := by
  refine call_gives F.slot_str_replace (typeIs_str _ _ _) F.entry_str_replace (F.args_str_replace_3 _ _ _)
    (gives_str_replace x y z t u v fun e => by rw [h0] at e; cases e) ?_
  rw [h0]
  exact h

/-- s.replace('\\', '\\\\').replace('-', '\\-') of a text without a backslash -/
theorem two_reps {env : Env} {nm : Str} {p1 p2 p3 p4 p5 p6 p7 p8 p9 : Pos} {k1 k2 k3 k4 : Nat} {x : Str} {t : Tok} {m : Str → Option Value} {b1 b2 : Str} {y1 z1 y2 z2 : Str} {Q : Value → Shared → Prop} (hb1 : b1 = "replace") (hb2 : b2 = "replace") (hk : env.scope.kind = .function) (hl : env.kindOf nm = some .local) (hn : s.heap.Ns env.locals m) (hm : m nm = some (.str x t)) (hdb : (nm == ("__debug__" : Str)) = false)
    (hline1 : (p2.endLine == p5.line) = true) (hline2 : (p6.endLine == p9.line) = true) (hyz : (y2 == z2) = false) (hb : x.length + (x.length + 1) * z2.length ≤ 16777216) (h0 : (occurrences x y1 0 x.length (x.length + 1)).isEmpty = true) (h : ∀ t' k, Q (.str (Txt.replace x y2 z2) t') { s with toks := k }) :
    wpAny (model prog w) A (eval (.Call (.Attribute (.Call (.Attribute (.Name nm p1) b1 p2) [.Constant (.str y1) k1 p3, .Constant (.str z1) k2 p4] [] p5) b2 p6) [.Constant (.str y2) k3 p7, .Constant (.str z2) k4 p8] [] p9) env) Q E s := by
  subst hb1 hb2
  refine wpAny_Call_method_lateS rfl rfl hline2 ?_
  refine wpAny_Call_method_lateS rfl rfl hline1 (wpAny_Name (wpAny_loadName_local hk hl hn hm ?_) hdb)
  refine ⟨"str", "str.replace", PySem.F.plainAttrs_str, PySem.F.slot_str_replace, PySem.F.type_str_replace, typeIs_str _ _ _, fun _ e => (nomatch e), ?_⟩
  have e1 : backTo p5 (starEach [.Constant (.str y1) k1 p3, .Constant (.str z1) k2 p4] env) = [(false, eval (.Constant (.str y1) k1 p3) env), (false, eval (.Constant (.str z1) k2 p4) env)] := rfl
  rw [e1]
  refine Calls.callWith_builtin rfl (Calls.evalArgs_plain (Calls.spliced_cons (Calls.Constant_str (Calls.spliced_cons (Calls.Constant_str (Calls.spliced_nil (rep_none h0 ?_)))))))
  refine ⟨"str", "str.replace", PySem.F.plainAttrs_str, PySem.F.slot_str_replace, PySem.F.type_str_replace, typeIs_str _ _ _, fun _ e => (nomatch e), ?_⟩
  have e2 : backTo p9 (starEach [.Constant (.str y2) k3 p7, .Constant (.str z2) k4 p8] env) = [(false, eval (.Constant (.str y2) k3 p7) env), (false, eval (.Constant (.str z2) k4 p8) env)] := rfl
  rw [e2]
  refine Calls.callWith_builtin rfl (Calls.evalArgs_plain (Calls.spliced_cons (Calls.Constant_str (Calls.spliced_cons (Calls.Constant_str (Calls.spliced_nil ?_))))))
  exact SC.replace (by show s.toks + 1 + 1 ≠ 0; omega) (by show s.toks + 1 + 1 + 1 ≠ 0; omega) (by show s.toks + 1 + 1 ≠ s.toks + 1 + 1 + 1; omega) hyz hb fun t' k => h t' k
end
end Mine
end

noncomputable section
open PySem PySem.W PyProof.Rows
open Builtin Builtin.Str
set_option maxRecDepth 100000
namespace Mine

section
variable {g : Gl} {n : Nat} {ft : FT}

noncomputable def gOk (y1 z2 x : Str) : Bool := (occurrences x y1 0 x.length (x.length + 1)).isEmpty && decide (x.length ≤ 1000) && decide (z2.length ≤ 10)
/-- sep.join(s.replace(..).replace(y2, z2) for s in an own list) -/
noncomputable def eJoinG (sep : Str) (i : Nat) (y1 y2 z2 : Str) : Sig → Option V := fun σ => (eNameL i σ).bind fun a => match a with
  | .lst l => (vStrs l).bind fun xs => if (xs.all (gOk y1 z2)) = true ∧ JoinOk sep (xs.map (Txt.replace · y2 z2)) = true ∧ l.length ≤ 1000 then some (.str (Txt.join sep (xs.map (Txt.replace · y2 z2)))) else none
  | _ => none

theorem passing_true (n₀ : Nat) : passing (fun _ => true) n₀ 0 = List.range n₀ := by
  unfold passing
  simp

theorem sJoinG (G : GlOk g) (X : BuiltOk g) (hcode : ft.code = some (.ref g.CB)) {i : Nat} {nm x jn b1 b2 sep y1 z1 y2 z2 : Str} {kc k1 k2 k3 k4 : Nat} {pc apos pos gp px pch p1 p2 p3 p4 p5 p6 p7 p8 p9 : Pos} {scope : Scope} (hjn : jn = "join") (hb1 : b1 = "replace") (hb2 : b2 = "replace")
    (hi : ft.tbl[i]? = some (nm, .local, true)) (hdb : (nm == ("__debug__" : Str)) = false) (hdx : (x == ("__debug__" : Str)) = false) (hco : scope.isCoroutine = false) (hfree : ∀ y ∈ scope.names, y.2 ≠ .free) (hcell : ∀ y ∈ scope.names, y.2 ≠ .cell) (h0 : scope.names.lookup (".0" : Str) = some NameKind.local)
    (hx : scope.names.lookup x = some .local) (hkind : scope.kind = .function) (hline : (apos.endLine == pos.line) = true) (hline1 : (p2.endLine == p5.line) = true) (hline2 : (p6.endLine == p9.line) = true) (hyz : (y2 == z2) = false) :
    SoundE g n ft (.Call (.Attribute (.Constant (.str sep) kc pc) jn apos) [.GeneratorExp (.Call (.Attribute (.Call (.Attribute (.Name x p1) b1 p2) [.Constant (.str y1) k1 p3, .Constant (.str z1) k2 p4] [] p5) b2 p6) [.Constant (.str y2) k3 p7, .Constant (.str z2) k4 p8] [] p9) [⟨.Name x px, .Name nm pch, [], 0⟩] scope gp] [] pos) (eJoinG sep i y1 y2 z2) := by
  (try unfold SoundE at *)
  subst hjn
  intro env eo σ d hd A ao M B F s Q E iv S q
  obtain ⟨a, ha, hd⟩ := bind_some hd
  obtain ⟨l, rfl, _⟩ := eNameL_is ha
  simp only at hd
  obtain ⟨xs, hxs, hd⟩ := bind_some hd
  split at hd
  case isFalse => cases hd
  rename_i hc
  obtain ⟨hok, hjok, hll⟩ := hc
  cases hd
  refine up iv.tok fun E' => ?_
  refine wpAny_Call_method_lateS rfl rfl hline (Calls.Constant_str ?_)
  refine ⟨"str", "str.join", PySem.F.plainAttrs_str, PySem.F.slot_str_join, PySem.F.type_str_join, typeIs_str _ _ _, fun _ e => (nomatch e), ?_⟩
  let s₀ : Shared := { s with toks := s.toks + 1 }
  have x₀ : Ext g s s₀ := Ext.tok g s _ fun _ => Nat.succ_pos _
  have iv₀ := x₀.inv iv
  have S₀ := S.extE x₀
  refine Calls.callWith_builtin rfl (Calls.evalArgs_plain (Calls.spliced_cons ?_))
  have hroom : A.depth < recursionLimit := by have := ao.depth; omega
  refine wpAny_GeneratorExp_walksQ ao.handled hco (closureFor_none hfree) hcell h0 hx hkind hroom ?_ (fun _ => rfl)
  refine ldOwn eo hi hdb ha S₀ fun l' vs a₀ el hv hw hown hz hr => ?_
  cases el
  obtain ⟨ts, evs, ets⟩ := vStrs_items hr hxs
  have hlen : vs.length = l.length := hr.length
  have ha0 : s.heap.get? a₀ ≠ none := (S.low a₀ _ hw).2.1
  have haI : a₀ ≠ s₀.heap.objs.size := by
    obtain ⟨m, e⟩ := hown
    exact Nat.ne_of_lt (Heap.lt_size e)
  refine wpAny_pyIter_list hown.isList ?_
  let I := s₀.heap.objs.size
  let oI : Obj := { cls := .type "list_iterator", data := .fields #[.ref a₀, .int 0 0] }
  let s₂ : Shared := { s₀ with heap := s₀.heap.push oI }
  have x₂ : Ext g s₀ s₂ := Ext.push g s₀ oI s₀.toks
  have iv₂ := x₂.inv iv₀
  have noI : s.heap.get? I = none := size_none _
  refine ⟨iv₂.lim G, ?_⟩
  -- what follows the code object
  have rest : ∀ (code : Value) (h₃ : Heap) (tk₃ : Nat), Ext g s₂ { s₂ with heap := h₃, toks := tk₃ } → s₂.heap.objs.size ≤ h₃.objs.size →
      wpAny (model g.prog g.w) A (builtinsFor env.globals env.builtins) (fun bi s₄ =>
        ∃ I fp wr n₀ P St₀ pz F, Value.ref s₀.heap.objs.size = .ref I ∧ (∀ A' : Around, A'.handled = none → Walks g.prog g.w A' I fp wr n₀ P St₀) ∧ St₀ 0 s₄.heap ∧ (∀ b ∈ fp, b < s₄.heap.objs.size) ∧ s₄.heap.NoLimit ∧ cStatics ∉ wr ∧
          (∀ href : Heap, (∀ b o, s₄.heap.get? b = some o → href.get? b = some o) →
            QuietGen g.prog g.w (genEnv scope [] s₄.heap.objs.size code bi env) x [] (.Call (.Attribute (.Call (.Attribute (.Name x p1) b1 p2) [.Constant (.str y1) k1 p3, .Constant (.str z1) k2 p4] [] p5) b2 p6) [.Constant (.str y2) k3 p7, .Constant (.str z2) k4 p8] [] p9) (List.range s₄.heap.objs.size) wr P pz F href) ∧
          (∀ a h₅ tk gs, gs.bare = true → s₄.heap.objs.size < a → h₅.objs.size = a + 1 → (∀ b o, s₄.heap.get? b = some o → h₅.get? b = some o) →
            WalksS g.prog g.w A.in4 a (a :: s₄.heap.objs.size :: List.range s₄.heap.objs.size) (s₄.heap.objs.size :: wr) (GenOnlyQ s₄.gens.size) (passing pz n₀ 0).length
              (fun j y => ∃ i, (passing pz n₀ 0)[j]? = some i ∧ F i y) (GenAt g.prog g.w A.in4 a s₄.gens.size s₄.heap.objs.size (List.range s₄.heap.objs.size) wr pz n₀ F) →
            GenAt g.prog g.w A.in4 a s₄.gens.size s₄.heap.objs.size (List.range s₄.heap.objs.size) wr pz n₀ F 0 { s₄ with gens := s₄.gens.push gs, toks := tk, heap := h₅ } →
            wpAny (model g.prog g.w) A (spliced []) (fun vs s₂ => wpAny (model g.prog g.w) A (call (.builtin "str.join") ([.str sep s.toks] ++ Args.pos ⟨.ref a :: vs, []⟩) (Args.kw ⟨.ref a :: vs, []⟩)) (fun v s' => 0 < s'.toks → Q v s') E' s₂) E' { s₄ with gens := s₄.gens.push gs, toks := tk, heap := h₅ })) E' { s₂ with heap := h₃, toks := tk₃ } := by
    intro code h₃ tk₃ x₃ hsz
    let s₃ : Shared := { s₂ with heap := h₃, toks := tk₃ }
    have iv₃ : Inv g s₃ := x₃.inv iv₂
    obtain ⟨bm, ob, m1, m2, m3, m4, m5, m6, m7⟩ := X
    have hns := iv₃.mgNs G
    rw [← eo.glob] at hns
    refine wpAny_builtinsFor (s := s₃) hns m1 m2 (iv₃.keep bm ob m3 m4) m5 m6 m7 ?_
    have hI₃ : h₃.get? I = some oI := x₃.keep I oI (by rintro e; exact iv.tabSome (e ▸ noI)) (Heap.get?_push_size _ rfl)
    have hl₃ : h₃.IsList a₀ vs.toArray := (S₀.ownExt (x₂.trans x₃) hw hown).isList
    refine ⟨I, [I, a₀], [I], l.length, fun i v => vs.toArray[i]? = some v, fun i h => h.IsListIter I a₀ i ∧ h.IsList a₀ vs.toArray, fun _ => true, fun i v => ∃ z t, xs[i]? = some z ∧ v = .str (Txt.replace z y2 z2) t, rfl, fun A' hh => ?_, ⟨⟨oI, hI₃, rfl, rfl⟩, hl₃⟩, ?_, iv₃.lim G, ?_, fun href hhref => ⟨fun A' E'' i v s₅ m₂ hh hP hn hm hk => ?_, fun A' E'' i v s₅ m₂ hh hP hpz hn hm hk => ?_⟩, fun a₅ h₅ tk gs hgb hlt hsz₅ hk₅ W hat => ?_⟩
    · have := Walks.list (prog := g.prog) (w := g.w) (A := A') hh I a₀ haI vs.toArray
      have e2 : vs.toArray.size = l.length := (List.size_toArray ..).trans hlen
      rw [e2] at this; exact this
    · intro b hb
      simp only [List.mem_cons, List.not_mem_nil, or_false] at hb
      rcases hb with rfl | rfl
      · exact Heap.lt_size hI₃
      · obtain ⟨o, ho, _⟩ := hl₃; exact Heap.lt_size ho
    · intro hm
      have e : cStatics = I := by simpa using hm
      obtain ⟨mm, hns₀, _⟩ := iv.lim G
      obtain ⟨o, _, _, ho, _⟩ := hns₀
      rw [e, noI] at ho; cases ho
    · exact wpAny_tests_nil ⟨rfl, _, _, rfl, fun _ _ e => e⟩
    · subst evs
      have hP' : (strValues ts)[i]? = some v := by simpa using hP
      unfold strValues at hP'
      rw [List.getElem?_map] at hP'
      cases hti : ts[i]? with
      | none => rw [hti] at hP'; cases hP'
      | some pt =>
        rw [hti] at hP'; cases hP'
        have hxi : xs[i]? = some pt.1 := by rw [← ets, List.getElem?_map, hti]; rfl
        have hgo := List.all_eq_true.mp hok pt.1 (List.mem_of_getElem? hxi)
        simp only [gOk, Bool.and_eq_true, decide_eq_true_eq] at hgo
        refine two_reps hb1 hb2 (by simp [genEnv, hkind]) (by show scope.names.lookup x = _; exact hx) hn hm hdx hline1 hline2 hyz ?_ hgo.1.1 fun t' k => ⟨⟨pt.1, t', hxi, rfl⟩, _, _, rfl, fun _ _ e => e⟩
        have h1 := hgo.1.2
        have h2 := hgo.2
        have : (pt.1.length + 1) * z2.length ≤ 1001 * 10 := Nat.mul_le_mul (by omega) h2
        omega
    · refine Calls.spliced_nil ?_
      have hpl : (passing (fun _ => true) l.length 0).length = l.length := by rw [passing_true, List.length_range]
      let s₅ : Shared := { s₃ with gens := s₃.gens.push gs, toks := tk, heap := h₅ }
      show wpAny _ A (call (.builtin "str.join") [.str sep s.toks, .ref a₅]) _ _ s₅
      refine SC.joinGen W.in4_2 (fun i s' st => st.1.typeIs) hat (fun b hb => ?_) (List.mem_cons_self ..) (fun i v hP => ?_) (fun s' ls hm hits => ?_) (by rw [hpl, sizeLine_is]; omega)
      · show b < h₅.objs.size
        rw [hsz₅]
        rcases List.mem_cons.mp hb with rfl | hb
        · exact Nat.lt_succ_self _
        · rcases List.mem_cons.mp hb with rfl | hb
          · exact Nat.lt_succ_of_lt hlt
          · exact Nat.lt_succ_of_lt (Nat.lt_trans (List.mem_range.mp hb) hlt)
      · obtain ⟨_, _, z, t, _, rfl⟩ := hP; exact ⟨_, _, rfl⟩
      · obtain ⟨hi1, hi2⟩ := hits
        rw [hpl] at hi1
        have hls : ls.map (·.1) = xs.map (Txt.replace · y2 z2) := by
          have hlx : xs.length = l.length := by rw [← ets, List.length_map, ← hlen, evs]; simp [strValues]
          have hll : ls.length = l.length := by rw [← hi1]; simp [strValues]
          refine List.ext_getElem? fun j => ?_
          by_cases hj : j < l.length
          · have e1 : (strValues ls).toArray[j]? = some (.str (ls[j]'(by omega)).1 (ls[j]'(by omega)).2) := by simp [strValues, show j < ls.length by omega]
            obtain ⟨i', hi', z, t, hz', ev⟩ := hi2 j _ e1
            rw [passing_true] at hi'
            have : i' = j := by simp [hj] at hi'; exact hi'.symm
            subst this
            have e4 : (ls[i']'(by omega)).1 = Txt.replace z y2 z2 := (Value.str.inj ev).1
            rw [List.getElem?_map, List.getElem?_map, hz', List.getElem?_eq_getElem (by omega)]
            simp only [Option.map_some, e4]
          · rw [List.getElem?_eq_none (by rw [List.length_map]; omega), List.getElem?_eq_none (by rw [List.length_map]; omega)]
        rw [hls]
        refine ⟨hjok, fun t' k htk => ?_⟩
        have keepS : ∀ b o, b ≠ g.TB → s.heap.get? b = some o → s'.heap.get? b = some o := by
          intro b o nt e
          have e3 : h₃.get? b = some o := x₃.keep b o nt (x₂.keep b o nt e)
          refine hm.heap b o ?_ (hk₅ b o e3)
          intro hb
          rcases List.mem_cons.mp hb with rfl | hb
          · exact Nat.lt_irrefl _ (Heap.lt_size e3)
          · have e' : b = I := by simpa using hb
            rw [e', noI] at e; cases e
        have keep₃ : ∀ b o, b ≠ I → s₃.heap.get? b = some o → s'.heap.get? b = some o := by
          intro b o nI e
          refine hm.heap b o ?_ (hk₅ b o e)
          intro hb
          rcases List.mem_cons.mp hb with rfl | hb
          · exact Nat.lt_irrefl _ (Heap.lt_size e)
          · exact nI (by simpa using hb)
        refine q _ _ ⟨keepS, fun i => ?_⟩ (.str _ _ (joinFit_length (by unfold JoinOk at hjok; simpa using hjok)))
        obtain ⟨mt, ht⟩ := iv₃.tab
        have hI1 := freshLow iv noI
        refine ⟨i.keep.trans keepS, ⟨mt, ht.but keep₃ (fun e => i.cb (e ▸ hI1.1)) (fun e => hI1.2 e.symm)⟩, ?_, ?_, htk, i.cb⟩
        · exact (AllBare.push iv₃.gens hgb).moved hm.gens
        · exact hm.os.trans iv₃.os
  obtain ⟨mt, ht⟩ := iv₂.tab
  have hc := eo.code _ hcode
  cases hnf : codeAmong gp (g.ps ++ mt).toList with
  | some c' => exact wpAny_genexprCode_hit hc ht.code hnf (rest c' s₂.heap s₂.toks (Ext.refl g _) (Nat.le_refl _))
  | none =>
    refine up iv₂.tok fun E'' => wpAny_genexprCodeX hc ht.code ht.tab hnf fun c' h₃ tk₃ hx₃ hge hlt hcode₃ hrec htab₃ _ htk => rest (.ref c') h₃ tk₃ ⟨fun a o t e => hx₃ a o t e, fun i => ⟨i.keep.trans fun a o t e => hx₃ a o t e, ⟨mt ++ #[rawInt gp.line, rawInt gp.col, .ref c'], ?_⟩, i.gens, i.os, htk, i.cb⟩⟩ (Nat.le_trans hge (Nat.le_of_lt hlt))
    rw [← Array.append_assoc]
    exact ⟨htab₃, hcode₃⟩
end
end Mine
end

noncomputable section
open PySem PySem.W PyProof.Rows
open Builtin Builtin.Re
set_option maxRecDepth 100000
namespace Mine

noncomputable def reCode : Array Nat := #[14, 14, 4, 1, 1, 9, 0, 64, 0, 1342177280, 0, 0, 0, 0, 0, 17, 0, 13, 11, 9, 0, 64, 0, 1342177280, 0, 0, 0, 0, 0, 17, 1, 1]
noncomputable def subOk (x : Str) : Bool := match ((Sre.forSearch reCode x.cps 1 0 x.cps.size false).runFor 4).outcome with
  | some .failed => true
  | _ => false

section
variable {M : Model} {A : Around} {E : Value → Shared → Prop} {s : Shared}
theorem rules_loop (f : Nat → PUnit → Sem (ForInStep PUnit)) (hf : ∀ i u, ∃ c nm, f i u = if c = true then (do rule nm; pure (.yield ⟨⟩)) else pure (.yield ⟨⟩)) : ∀ (l : List Nat) (Q : PUnit → Shared → Prop), Q ⟨⟩ s → wpAny M A (forIn l ⟨⟩ f) Q E s
  | [], Q, h => by rw [List.forIn_nil]; exact wpAny_pure h
  | i :: r, Q, h => by
    rw [List.forIn_cons]
    obtain ⟨c, nm, e⟩ := hf i ⟨⟩
    rw [e]
    cases c with
    | true => exact wpAny_bind (wpAny_bind (wpAny_rule (wpAny_pure (rules_loop f hf r Q h))))
    | false => exact wpAny_bind (wpAny_pure (rules_loop f hf r Q h))
theorem run_none {m : Sre.M} {Q : Option Sre.M → Shared → Prop} (h : (m.runFor 4).outcome = some .failed) (q : Q none s) : wpAny M A (reRunToEnd m) Q E s := by
  unfold reRunToEnd
  have e : reDrive (2 ^ 64) m = pure (m.runFor 4) := by
    have e1 : (2 ^ 64 : Nat) = (2 ^ 64 - 1) + 1 := by decide
    rw [e1]
    unfold reDrive
    show (if (m.runFor 4).outcome.isSome = true then pure (m.runFor 4) else _) = _
    rw [h]; rfl
  rw [e]
  refine wpAny_bind (wpAny_pure ?_)
  refine wpAny_bind (rules_loop _ (fun i u => ⟨(m.runFor 4).seen.has i, Sre.names.getD i "", ?_⟩) _ _ ?_)
  · cases (m.runFor 4).seen.has i <;> rfl
  · rw [h]; exact wpAny_pure q
end
end Mine
end

noncomputable section
open PySem PySem.W PyProof.Rows
open Builtin Builtin.Re
set_option maxRecDepth 100000
namespace Mine

section
variable {g : Gl} {n : Nat} {ft : FT}

/-- a lambda is made -/
theorem mkLambda (G : GlOk g) (X : BuiltOk g) {env : Env} (eo : EnvOk ft env) (hcode : ft.code = some (.ref g.CB)) {args : Arguments} {body : Expr} {scope : Scope} {lp : Pos} {A : Around} {s : Shared} {Q : Value → Shared → Prop} {E : Value → Shared → Prop} (hd : defaultsOf args env = ([], [])) (hk : args.kwonlyargs = []) (hfree : ∀ y ∈ scope.names, y.2 ≠ .free)
    (iv : Inv g s) (q : ∀ f s', Ext g s s' → s.heap.get? f = none → s'.TypeIs (.ref f) "function" → Q (.ref f) s') : wpAny (model g.prog g.w) A (eval (.Lambda args body scope lp) env) Q E s := by
  rw [arm_eval_Lambda, hd]
  refine wpAny_bind (wpAny_pure ?_)
  refine wpAny_bind (wpAny_holding (wpAny_pure ?_))
  unfold makeFunction
  rw [closureFor_none hfree]
  simp only [hk, List.zip_nil_left, List.filterMap_nil, List.isEmpty_nil, if_true]
  refine wpAny_bind (wpAny_pure (wpAny_bind (wpAny_pure (wpAny_bind (wpAny_pure (wpAny_bind (wpAny_pure ?_)))))))
  refine wpAny_bind (wpAny_pure ?_)
  have rest : ∀ (code : Value) (h₃ : Heap) (tk₃ : Nat), Ext g s { s with heap := h₃, toks := tk₃ } → wpAny (model g.prog g.w) A (do
      let bi ← builtinsFor env.globals env.builtins
      let nm ← nsGet env.globals "__name__"
      let fd : FuncData := { name := "<lambda>", qualname := env.qual ++ "<lambda>", params := args, body := .expr body, scope, globals := env.globals, closure := [], closureTuple := .none, code := code, builtins := bi, defaults := .none, kwdefaults := .none, annotations := none, pyModule := nm.getD .none, doc := .none }
      newObj (.type "function") (.func fd)) Q E { s with heap := h₃, toks := tk₃ } := by
    intro code h₃ tk₃ x₃
    have iv₃ := x₃.inv iv
    obtain ⟨bm, ob, m1, m2, m3, m4, m5, m6, m7⟩ := X
    have hns := iv₃.mgNs G
    rw [← eo.glob] at hns
    refine wpAny_bind (wpAny_builtinsFor (s := { s with heap := h₃, toks := tk₃ }) hns m1 m2 (iv₃.keep bm ob m3 m4) m5 m6 m7 ?_)
    refine wpAny_bind (wpAny_nsGet hns ?_)
    refine wpAny_newObj_type ?_ (by trivial)
    have x₄ := Ext.push g { s with heap := h₃, toks := tk₃ } { cls := .type "function", data := .func { name := "<lambda>", qualname := env.qual ++ "<lambda>", params := args, body := .expr body, scope, globals := env.globals, closure := [], closureTuple := .none, code := code, builtins := builtinsNs, defaults := .none, kwdefaults := .none, annotations := none, pyModule := (g.mg "__name__").getD .none, doc := .none } } tk₃
    refine q _ _ (x₃.trans x₄) (x₃.none iv (size_none _)) ⟨_, Heap.get?_push_size _ rfl, rfl⟩
  obtain ⟨mt, ht⟩ := iv.tab
  have hc := eo.code _ hcode
  cases hnf : codeAmong lp (g.ps ++ mt).toList with
  | some c' =>
    refine wpAny_bind (wpAny_functionCode_hit hc ht.code hnf ?_)
    exact rest c' s.heap s.toks (Ext.refl g _)
  | none =>
    refine wpAny_bind (up iv.tok fun E'' => wpAny_functionCodeX hc ht.code ht.tab hnf fun c' h₃ tk₃ hx₃ hge hlt hcode₃ hrec htab₃ _ htk => ?_)
    refine rest (.ref c') h₃ tk₃ ⟨fun a o t e => hx₃ a o t e, fun i => ⟨i.keep.trans fun a o t e => hx₃ a o t e, ⟨mt ++ #[rawInt lp.line, rawInt lp.col, .ref c'], ?_⟩, i.gens, i.os, htk, i.cb⟩⟩
    rw [← Array.append_assoc]
    exact ⟨htab₃, hcode₃⟩
end
end Mine
end

noncomputable section
open PySem PySem.W PyProof.Rows
open Builtin Builtin.Re
set_option maxRecDepth 100000
namespace Mine

theorem plainAttrs_pat : PlainAttrs "re.Pattern" :=
  ⟨⟨"object.__getattribute__", by rw [typeLookup_type, builtinLookup_eq_fast]; kernel_rfl, by decide +kernel⟩, by rw [typeLookup_type, builtinLookup_eq_fast]; kernel_rfl⟩
theorem slot_sub : Slot "re.Pattern" "sub" "re.Pattern.sub" :=
  .of (owner := "re.Pattern") (n := "sub") (by rw [typeLookup_type, builtinLookup_eq_fast]; kernel_rfl) (by decide +kernel) (by decide +kernel) (by decide +kernel)
    (by first | exact .inl (by decide +kernel) | exact .inr (by decide +kernel)) (by rw [isSubtype_type]; kernel_rfl)
theorem type_sub : typeOf (.builtin "re.Pattern.sub") = pure (.type "method_descriptor") := by show builtinType _ = _; rw [builtinType_eq_fast]; kernel_rfl
theorem entry_sub : entryFor table "re.Pattern.sub" = some Builtin.«re.Pattern.sub» := entryFor_of_tree (by kernel_rfl)
theorem entry_subloop : entryFor table "re.Pattern.sub.loop" = some Builtin.«re.Pattern.sub.loop» := entryFor_of_tree (by kernel_rfl)
theorem args_sub (a b c : Value) : argsOk "re.Pattern.sub" ⟨[a, b, c], []⟩ := by unfold argsOk; kernel_rfl
theorem plain_subloop : plainId "re.Pattern.sub.loop" = true := by decide +kernel
theorem fn_call : typeLookup (.type "function") "__call__" = pure (some (.builtin "function.__call__")) := by rw [typeLookup_type, builtinLookup_eq_fast]; kernel_rfl

/-- the pattern of the twin, as the top leaves it -/
structure PatAt (h : Heap) (p c : Addr) : Prop where
  pat : ∃ fs, h.get? p = some { cls := .type "re.Pattern", data := .fields fs } ∧ fs.getD 5 .none = .ref c ∧ reRawNat (fs.getD 6 .none) = 0 ∧ reRawNat (fs.getD 2 .none) = 1
  code : ∃ cs m, h.get? c = some { cls := .type "tuple", data := .seq cs m } ∧ (cs.map reRawOf).map (·.toNat) = reCode

section
variable {prog : Program} {w : World} {A : Around} {E : Value → Shared → Prop} {s : Shared} {p c : Addr}
theorem whole_target {x : Str} {t : Tok} {Q : ReTarget → Shared → Prop} (hp : PatAt s.heap p c) (h : Q { pattern := .ref p, string := .str x t, code := reCode, text := x.cps, kind := 0, groups := 1, pos := 0, lim := x.cps.size } s) : wpAny (model prog w) A (reWholeTarget (.ref p) (.str x t)) Q E s := by
  obtain ⟨⟨fs, h1, h2, h3, h4⟩, ⟨cs, m, h5, h6⟩⟩ := hp
  obtain ⟨hh, g, d, tk, os⟩ := s
  unfold reWholeTarget reTextOf
  refine wpAny_bind (wpAny_fieldsOf h1 rfl ?_)
  refine wpAny_bind (wpAny_of_eq (a := (x.cps, 0)) (by first | rfl | kernel_rfl) ?_)
  simp only [h3, h4, h2]
  refine wpAny_bind (wpAny_of_eq (a := PUnit.unit) (by first | rfl | kernel_rfl) ?_)
  unfold reRawItems
  refine wpAny_bind (wpAny_bind (wpAny_seqItems h5 rfl (wpAny_pure ?_)))
  show wpAny _ _ (pure _) _ _ _
  refine wpAny_pure ?_
  have e : (Array.map (fun x => x.toNat) (Array.map reRawOf ((some cs).getD #[]))) = reCode := h6
  rw [e]; exact h

theorem str_no_bytearray : isSubtype (.type "str") (.type "bytearray") = pure false := by rw [isSubtype_type]; kernel_rfl
theorem sub_outer {x : Str} {t : Tok} {f : Addr} {P : PySem.Fin → Shared → Prop} (hp : PatAt s.heap p c) (hT : s.TypeIs (.ref f) "function") (h : P (.again (.builtin "re.Pattern.sub.loop" ⟨[.ref p, .str x t, .ref f, rawInt 1, rawInt 0, rawInt 0, rawInt 0, rawInt 0, .bool false, .ref s.heap.objs.size, .bool false], []⟩)) { s with heap := s.heap.push { cls := .type "list", data := .seq ([] : List Value).toArray } }) :
    wpAny (model prog w) A (Builtin.«re.Pattern.sub» ⟨[.ref p, .ref f, .str x t], []⟩) P E s := by
  have f1 := fn_call
  have f2 := str_no_bytearray
  unfold Builtin.«re.Pattern.sub» reSubstitute
  refine wpAny_bind (wpAny_of_eq (a := [some (.ref f), some (.str x t), none]) (by first | rfl | kernel_rfl) ?_)
  dsimp only
  refine wpAny_bind (wpAny_pure ?_)
  refine wpAny_bind (wpAny_specialOf hT f1 ?_)
  simp only [Option.isSome_some, if_true]
  refine wpAny_bind (wpAny_pure ?_)
  refine wpAny_bind (wpAny_pure ?_)
  dsimp only
  refine wpAny_bind (wpAny_holding (whole_target hp ?_))
  simp only [show ((1 : Int) == 1) = true by decide, if_true]
  have nh : ∀ {Q : Unit → Shared → Prop} {E' : Value → Shared → Prop}, Q () s → wpAny (model prog w) A (reNotHeld "re.Pattern.sub" (.str x t)) Q E' s := by
    intro Q E' q
    unfold reNotHeld
    refine wpAny_bind (wpAny_isInstance (T := "str") (b := false) (typeIs_str _ _ _) f2 ?_)
    simp only [Bool.false_eq_true, if_false]
    exact wpAny_pure q
  refine wpAny_bind (nh ?_)
  refine wpAny_bind ?_
  unfold newList
  refine wpAny_newObj_type ?_ (by show 0 ≤ sizeLine; decide)
  exact wpAny_pure h

theorem sub_loop {x : Str} {t : Tok} {f l : Addr} {Q : Value → Shared → Prop} (hp : PatAt s.heap p c) (hl : s.heap.get? l = some { cls := .type "list", data := .seq ([] : List Value).toArray }) (hpl : p ≠ l) (hcl : c ≠ l) (hok : subOk x = true) (hz : x.length ≤ 1000)
    (h : ∀ t' h' k, (∀ a o, a ≠ l → s.heap.get? a = some o → h'.get? a = some o) → Q (.str x t') { s with heap := h', toks := k }) :
    wpAny (model prog w) A (Builtin.«re.Pattern.sub.loop» ⟨[.ref p, .str x t, .ref f, rawInt 1, rawInt 0, rawInt 0, rawInt 0, rawInt 0, .bool false, .ref l, .bool false], []⟩) (fun fin s' => ∃ v, fin = .done (.ret v) ∧ Q v s') E s := by
  have hout : ((Sre.forSearch reCode x.cps 1 0 x.cps.size false).runFor 4).outcome = some .failed := by
    unfold subOk at hok
    split at hok
    · assumption
    · cases hok
  unfold Builtin.«re.Pattern.sub.loop»
  simp only [rawInt]
  refine wpAny_bind (whole_target hp ?_)
  dsimp only
  simp only [show ((1 : Int) == 0) = false by decide, Bool.false_eq_true, if_false]
  have e0 : (((0 : Int) != 0 && decide ((0 : Int) ≥ 0))) = false := by decide
  simp only [e0, Bool.false_eq_true, if_false]
  refine wpAny_bind ?_
  show wpAny _ _ (reRunToEnd (Sre.forSearch reCode x.cps 1 0 x.cps.size false)) _ _ _
  refine run_none hout ?_
  dsimp only
  have sl : ∀ (b : Nat) {Q' : Value → Shared → Prop} {s₁ : Shared}, b ≤ x.cps.size → Q' (.str ⟨x.cps.extract 0 b⟩ s₁.toks) { s₁ with toks := s₁.toks + 1 } → wpAny (model prog w) A (reSlice x.cps 0 0 b) Q' E s₁ := by
    intro b Q' s₁ hb q
    unfold reSlice
    simp only [beq_self_eq_true, if_true]
    refine wpAny_mkStr q ?_
    show (x.cps.extract 0 b).size ≤ sizeLine
    rw [sizeLine_is, Array.size_extract]
    have : x.cps.size = x.length := rfl
    omega
  have hx0 : (⟨x.cps.extract 0 x.cps.size⟩ : Str) = x := by
    obtain ⟨cps⟩ := x
    simp
  by_cases hn : Int.toNat 0 < x.cps.size
  · simp only [if_pos hn]
    refine wpAny_bind (sl x.cps.size (Nat.le_refl _) ?_)
    refine wpAny_bind (wpAny_updateSeq hl rfl ?_ (by show 0 ≤ sizeLine; decide) (by show 1 ≤ sizeLine + 1; decide))
    rw [hx0]
    have hl₁ : (s.heap.update l (Obj.mapSeq fun ys => ys.push (.str x s.toks))).get? l = some { cls := .type "list", data := .seq (strValues [(x, s.toks)]).toArray 1 } := Heap.get?_update_self _ hl rfl
    refine wpAny_bind (sl 0 (Nat.zero_le _) ?_)
    refine wpAny_bind (wpAny_seqItems (s := { s with heap := s.heap.update l (Obj.mapSeq fun ys => ys.push (.str x s.toks)), toks := s.toks + 1 + 1 }) hl₁ rfl ?_)
    simp only [Option.getD_some]
    have e1 : ((strValues [(x, s.toks)]).toArray.isEmpty) = false := rfl
    simp only [e1, Bool.false_eq_true, if_false, beq_self_eq_true, if_true]
    refine wpAny_bind (SC.join (l := [(x, s.toks)]) (texts := [x]) ⟨_, hl₁, rfl, _, rfl⟩ rfl ?_ fun t' k => wpAny_pure ⟨_, rfl, ?_⟩)
    · unfold JoinOk
      have e : ([x].toArray.foldl (fun a (y : Str) => a + y.length + (⟨x.cps.extract 0 0⟩ : Str).length) 0) = x.length := by
        have e0 : (⟨x.cps.extract 0 0⟩ : Str).length = 0 := by show (x.cps.extract 0 0).size = 0; simp
        show 0 + x.length + (⟨x.cps.extract 0 0⟩ : Str).length = x.length
        rw [e0]; omega
      rw [e]
      unfold Builtin.Str.tooLong
      rw [sizeLine_is]
      simp; omega
    · have e : Txt.join ⟨x.cps.extract 0 0⟩ [x] = x := by first | rfl | simp [Txt.join]
      rw [e]
      exact h _ _ _ fun a o ne e => (Heap.SameBut.update s.heap l _).extBut a o ne e
  · simp only [if_neg hn]
    refine wpAny_bind (sl 0 (Nat.zero_le _) ?_)
    refine wpAny_bind (wpAny_seqItems (s := { s with toks := s.toks + 1 }) hl rfl ?_)
    simp only [Option.getD_some]
    have e1 : (([] : List Value).toArray.isEmpty) = true := rfl
    simp only [e1, if_true]
    have ex : (⟨x.cps.extract 0 0⟩ : Str) = x := by
      have : x.cps.size = 0 := by have h0 : Int.toNat 0 = 0 := rfl; omega
      rw [← hx0, this]
      simp
    rw [ex]
    exact wpAny_bind (wpAny_pure (wpAny_pure ⟨_, rfl, h _ _ _ fun _ _ _ e => e⟩))
end
end Mine
end

noncomputable section
open PySem PySem.W PyProof.Rows
open Builtin Builtin.Re
set_option maxRecDepth 100000
namespace Mine

noncomputable def PatOk (g : Gl) : Prop := ∃ p c, g.mg "_twin_re_1" = some (.ref p) ∧ p ≠ g.TB ∧ c ≠ g.TB ∧ PatAt g.G p c
theorem PatAt.keep {h h' : Heap} {p c : Addr} (x : PatAt h p c) (k1 : ∀ o, h.get? p = some o → h'.get? p = some o) (k2 : ∀ o, h.get? c = some o → h'.get? c = some o) : PatAt h' p c :=
  let ⟨⟨fs, e, r⟩, ⟨cs, m, e', r'⟩⟩ := x; ⟨⟨fs, k1 _ e, r⟩, ⟨cs, m, k2 _ e', r'⟩⟩

section
variable {g : Gl} {n : Nat} {ft : FT}
noncomputable def eSub (f : Sig → Option V) : Sig → Option V := fun σ => (f σ).bind fun a => match a with
  | .str x => if subOk x = true ∧ x.length ≤ 1000 then some (.str x) else none
  | _ => none
theorem sSub (G : GlOk g) (X : BuiltOk g) (Y : PatOk g) (hcode : ft.code = some (.ref g.CB)) {o name : Str} {args : Arguments} {body e : Expr} {scope : Scope} {op lp apos pos : Pos} {f : Sig → Option V} (ho : o = "_twin_re_1") (hn : name = "sub") (hs : ft.scope.names.lookup o = some .globalImplicit)
    (hd : ∀ env, defaultsOf args env = ([], [])) (hk : args.kwonlyargs = []) (hfree : ∀ y ∈ scope.names, y.2 ≠ .free) (he : SoundE g n ft e f) (hst : ∀ env, starEach [.Lambda args body scope lp, e] env = [(false, eval (.Lambda args body scope lp) env), (false, eval e env)])
    (hline : (apos.endLine == pos.line) = true) : SoundE g n ft (.Call (.Attribute (.Name o op) name apos) [.Lambda args body scope lp, e] [] pos) (eSub f) := by
  (try unfold SoundE at *)
  subst ho hn
  intro env eo σ d hdd A ao M B F s Q E iv S q
  obtain ⟨a, ha, hdd⟩ := bind_some hdd
  obtain ⟨x, rfl⟩ : ∃ x, a = .str x := by cases a <;> first | exact ⟨_, rfl⟩ | (simp at hdd)
  simp only at hdd
  split at hdd
  case isFalse => cases hdd
  rename_i hc
  cases hdd
  obtain ⟨p, c, hmg, hpT, hcT, hat⟩ := Y
  have at' : ∀ {s' : Shared}, Inv g s' → PatAt s'.heap p c := fun i => hat.keep (fun o e => i.keep p o hpT e) fun o e => i.keep c o hcT e
  refine wpAny_Call_method_lateS rfl (by rw [hst]; rfl) hline (ldGl G eo hmg hs iv ?_ (by decide))
  obtain ⟨⟨fs, hp, _⟩, _⟩ := at' iv
  refine ⟨"re.Pattern", "re.Pattern.sub", plainAttrs_pat, slot_sub, type_sub, ⟨_, hp, rfl⟩, fun _ e => by cases e; exact ⟨_, hp, rfl⟩, ?_⟩
  rw [hst]
  refine Calls.callWith_builtin rfl (Calls.evalArgs_plain (Calls.spliced_cons (mkLambda G X eo hcode (hd env) hk hfree iv fun fa s₁ x₁ hfa hT => ?_)))
  have iv₁ := x₁.inv iv
  have S₁ := S.extE x₁
  refine Calls.spliced_cons (he env eo σ _ ha A ao M B F s₁ _ E iv₁ S₁ fun v s₂ x₂ r => Calls.spliced_nil ?_)
  have iv₂ := x₂.inv iv₁
  have hT₂ : s₂.TypeIs (.ref fa) "function" := by
    obtain ⟨o, ho, hcl⟩ := hT
    exact ⟨o, x₂.keep fa o (fun e => iv.tabSome (e ▸ hfa)) ho, hcl⟩
  cases r with
  | str _ t hz =>
    obtain ⟨⟨fs₂, hp₂, _⟩, _⟩ := at' iv₂
    refine up iv₂.tok fun E' => wpAny_call (codeAny_call_builtin slot_sub.plain entry_sub (slot_sub.check _ _ _ _ _ _ _ _ ⟨_, hp₂, rfl⟩ (args_sub _ _ _) ?_))
    refine sub_outer (at' iv₂) hT₂ ⟨plainId_quiet plain_subloop _, codeAny_builtin entry_subloop ?_⟩
    rw [Around.under_plainId plain_subloop _]
    let oL : Obj := { cls := .type "list", data := .seq ([] : List Value).toArray }
    let s₃ : Shared := { s₂ with heap := s₂.heap.push oL }
    have x₃ : Ext g s₂ s₃ := Ext.push g s₂ oL s₂.toks
    have iv₃ := x₃.inv iv₂
    obtain ⟨⟨fs₃, hp₃, _⟩, ⟨cs₃, m₃, hc₃, _⟩⟩ := at' iv₂
    refine wpAny_mono (sub_loop (s := s₃) (l := s₂.heap.objs.size) (Q := fun v s' => 0 < s'.toks → Q v s') (at' iv₃) (Heap.get?_push_size _ rfl) (Nat.ne_of_lt (Heap.lt_size hp₃)) (Nat.ne_of_lt (Heap.lt_size hc₃)) hc.1 hc.2 fun t' h' k hk htk => ?_) (fun fin s' hfin => ?_) fun _ _ e => e
    · have keep : ∀ a o, s₂.heap.get? a = some o → h'.get? a = some o := fun a o e => hk a o (Nat.ne_of_lt (Heap.lt_size e)) (Heap.get?_push_of_some _ e)
      exact q _ _ ((x₁.trans x₂).trans (Ext.of (s := s₂) keep fun _ => htk)) (.str _ _ hz)
    · obtain ⟨v, rfl, hq⟩ := hfin
      exact hq
end
end Mine
end

noncomputable section
open PySem PySem.W PyProof.Rows
set_option maxRecDepth 100000
namespace Mine
theorem se_Tuple {x0 x1 x2} {es : List Expr} (env : Env) : starEach (.Tuple x0 x1 x2 :: es) env = (false, eval (.Tuple x0 x1 x2) env) :: starEach es env := rfl
theorem se_List {x0 x1} {es : List Expr} (env : Env) : starEach (.List x0 x1 :: es) env = (false, eval (.List x0 x1) env) :: starEach es env := rfl
theorem se_Constant {x0 x1 x2} {es : List Expr} (env : Env) : starEach (.Constant x0 x1 x2 :: es) env = (false, eval (.Constant x0 x1 x2) env) :: starEach es env := rfl
theorem se_Name {x0 x1} {es : List Expr} (env : Env) : starEach (.Name x0 x1 :: es) env = (false, eval (.Name x0 x1) env) :: starEach es env := rfl
theorem se_Call {x0 x1 x2 x3} {es : List Expr} (env : Env) : starEach (.Call x0 x1 x2 x3 :: es) env = (false, eval (.Call x0 x1 x2 x3) env) :: starEach es env := rfl
theorem se_Subscript {x0 x1 x2} {es : List Expr} (env : Env) : starEach (.Subscript x0 x1 x2 :: es) env = (false, eval (.Subscript x0 x1 x2) env) :: starEach es env := rfl
theorem se_BinOp {x0 x1 x2 x3} {es : List Expr} (env : Env) : starEach (.BinOp x0 x1 x2 x3 :: es) env = (false, eval (.BinOp x0 x1 x2 x3) env) :: starEach es env := rfl
theorem se_UnaryOp {x0 x1 x2} {es : List Expr} (env : Env) : starEach (.UnaryOp x0 x1 x2 :: es) env = (false, eval (.UnaryOp x0 x1 x2) env) :: starEach es env := rfl
theorem se_IfExp {x0 x1 x2 x3} {es : List Expr} (env : Env) : starEach (.IfExp x0 x1 x2 x3 :: es) env = (false, eval (.IfExp x0 x1 x2 x3) env) :: starEach es env := rfl
theorem se_ListComp {x0 x1 x2 x3} {es : List Expr} (env : Env) : starEach (.ListComp x0 x1 x2 x3 :: es) env = (false, eval (.ListComp x0 x1 x2 x3) env) :: starEach es env := rfl
theorem se_Compare {x0 x1 x2 x3} {es : List Expr} (env : Env) : starEach (.Compare x0 x1 x2 x3 :: es) env = (false, eval (.Compare x0 x1 x2 x3) env) :: starEach es env := rfl
theorem se_BoolOp {x0 x1 x2} {es : List Expr} (env : Env) : starEach (.BoolOp x0 x1 x2 :: es) env = (false, eval (.BoolOp x0 x1 x2) env) :: starEach es env := rfl
theorem se_JoinedStr {x0 x1} {es : List Expr} (env : Env) : starEach (.JoinedStr x0 x1 :: es) env = (false, eval (.JoinedStr x0 x1) env) :: starEach es env := rfl
theorem se_Attribute {x0 x1 x2} {es : List Expr} (env : Env) : starEach (.Attribute x0 x1 x2 :: es) env = (false, eval (.Attribute x0 x1 x2) env) :: starEach es env := rfl
/-- all that the top leaves behind and the proof needs -/
structure GlT (g : Gl) : Prop extends GlF g where
  esc : EscOk g
  built : BuiltOk g
  pat : PatOk g
  tcode : ∀ a fd, g.mg "_translate" = some (.ref a) → FnAt g a fd → fd.code = .ref g.CB
end Mine
end

noncomputable section
open PySem PySem.W PySem.W.X PyProof.Rows PySem.Calls
open Builtin Builtin.Re
set_option maxRecDepth 100000
namespace Mine

noncomputable def gOf (prog : Program) (w : World) (s : Shared) (mg mb : Str → Option Value) : Gl := { prog := prog, w := w, G := s.heap, CB := 61, TB := 57, ps := #[], mg := mg, mb := mb, os := s.os }

/-- what is looked up in the written part of the heap -/
structure KOk (K : Frag) : Prop where
  hd : codeHdIn K 61 57 = true
  tab : K.lookup 57 = some (tabObj #[])
  tr : tabIn K "_translate" = some (61, 57)
  esc : nsIn K mainGlobals "_special_chars_map" = some (some (.ref 45))
  pat : nsIn K mainGlobals "_twin_re_1" = some (some (.ref 43))
  escO : ∃ es ep, K.lookup 45 = some { cls := .type "dict", data := .dict es ep } ∧ (es.all fun e => match e.key with | .int i _ => e.hash == hashInt i | _ => false) = true ∧
    (∃ t, findBy Value.isInt es 46 = some (.str "\\." t)) ∧ (∃ t, findBy Value.isInt es 45 = some (.str "\\-" t)) ∧ findBy Value.isInt es 97 = none ∧ findBy Value.isInt es 98 = none
  patO : ∃ fs, K.lookup 43 = some { cls := .type "re.Pattern", data := .fields fs } ∧ fs.getD 5 .none = .ref 42 ∧ reRawNat (fs.getD 6 .none) = 0 ∧ reRawNat (fs.getD 2 .none) = 1
  codeO : ∃ cs m, K.lookup 42 = some { cls := .type "tuple", data := .seq cs m } ∧ (cs.map reRawOf).map (·.toNat) = reCode

/-- what is read off the text -/
structure QOk (q : Program) (loose : List Str) : Prop where
  fn : ∀ i ∈ defIxs, ∃ d ∈ recsOf q, d.name = nameAt i ∧ d.params = paramsAt i ∧ d.body = bodyAt i ∧ d.scope = scopeAt i
  bi : ∀ p ∈ builtinTab, p.1 ∉ startupNames ∧ p.1 ∉ loose ∧ p.1 ∉ (recsOf q).map (·.name) ∧ p.1 ∉ (litsOf q).map (·.1) ∧ p.1 ∉ (clssOf q loose).map (·.name)

section
variable {q : Program} {loose : List Str} {mean : ExcName → Option Value} {prog : Program} {w : World} {s : Shared} {mg mb : Str → Option Value} {K : Frag}

theorem tabAt57 (X : K.In s.heap) (k : KOk K) : s.heap.get? 57 = some (tabObj #[]) := X _ _ k.tab
theorem not57 (X : K.In s.heap) (k : KOk K) {a : Addr} {o : Obj} (h : s.heap.get? a = some o) (hn : o.cls ≠ .none ∨ ∀ vs, o.data ≠ .fields vs) : a ≠ 57 := by
  rintro rfl
  rw [tabAt57 X k] at h
  cases h
  rcases hn with h | h
  · exact h rfl
  · exact h _ rfl

theorem invOf (X : K.In s.heap) (k : KOk K) (hg : s.gens = #[]) (ht : 0 < s.toks) : Inv (gOf prog w s mg mb) s := by
  have hd := codeHd_of_K X k.hd
  have hP := tabAt57 X k
  refine ⟨Kp.refl _ _, ⟨#[], ?_, ?_⟩, .of_eq hg, rfl, ht, ?_⟩
  · exact hd.tab hP
  · exact hd.code hP (by show TriplesOk []; simp [TriplesOk])
  · obtain ⟨o, _, _, _, _, _, _, _, _, h, _⟩ := hd
    show s.heap.get? 61 ≠ none
    rw [h]; exact fun z => nomatch z

theorem glOf (T : Top q loose mean mg mb s.heap) (Z : QOk q loose) (X : K.In s.heap) (k : KOk K) : GlT (gOf prog w s mg mb) := by
  have lk : ∀ {a : Addr} {fd : FuncData}, FnAt (gOf prog w s mg mb) a fd → a ≠ 57 := fun x => x.ne
  refine { mg := T.g, mb := T.b, lim := T.nolimit, ne1 := (by decide : mainGlobals ≠ 57), ne2 := (by decide : builtinsNs ≠ 57), ne3 := (by decide : cStatics ≠ 57), bi := ?_, fn := ?_, esc := ?_, built := ?_, pat := ?_, tcode := ?_ }
  · intro p hp
    obtain ⟨h1, h2, h3, h4, h5⟩ := Z.bi p hp
    refine ⟨T.free p.1 h1 h2 h3 h4 h5, ?_⟩
    have hb : ∀ p ∈ builtinTab, p.1 ≠ "__name__" ∧ bootBuiltins p.1 = some p.2 := by
      intro p hp
      simp only [builtinTab, List.mem_cons, List.not_mem_nil, or_false] at hp
      rcases hp with rfl | rfl | rfl | rfl | rfl | rfl | rfl | rfl | rfl | rfl | rfl | rfl <;> exact ⟨by decide, by kernel_rfl⟩
    obtain ⟨b1, b2⟩ := hb p hp
    show mb p.1 = _
    rw [T.builtins p.1 b1, b2]
  · intro i hi
    obtain ⟨d, hd, e1, e2, e3, e4⟩ := Z.fn i hi
    obtain ⟨a, o, pm, code, doc, h1, h2, h3, h4⟩ := T.fn d hd
    refine ⟨a, _, by rw [← e1]; exact h1, ⟨⟨o, h2, h3⟩, not57 X k h2 (.inr fun vs e => by rw [h3] at e; cases e), ?_, rfl, rfl, rfl⟩, ?_, e4, e2, rfl, rfl⟩
    · obtain ⟨c, o', vs, t, r1, r2, r3, r4⟩ := h4
      refine ⟨c, o', vs, t, r1, ?_, r2, r3, r4⟩
      rintro rfl
      rw [show s.heap.get? (gOf prog w s mg mb).TB = _ from tabAt57 X k] at r2
      cases r2
      cases r3
      simp at r4
    · show FuncBody.stmts d.body = _
      rw [e3]
  · obtain ⟨es, ep, h1, h2, h3, h4, h5, h6⟩ := k.escO
    have hm := mg_of X T.g k.esc
    refine ⟨45, findBy Value.isInt es, hm, (by decide : 45 ≠ 57), by decide, ⟨_, es, ep, X _ _ h1, ⟨rfl, rfl, rfl⟩, rfl, ?_, fun _ => rfl⟩, h3, h4, h5, h6⟩
    intro e he
    have := Array.all_eq_true_iff_forall_mem.mp h2 e he
    split at this
    · rename_i i t hk
      refine ⟨i, ?_, (beq_iff_eq.mp this : e.hash = hashInt i)⟩
      rw [hk]; simp [intKind, Value.isInt]
    · cases this
  · obtain ⟨bm, ob, h1, h2, h3, h4, h5, h6⟩ := T.bmain
    exact ⟨bm, ob, h1, h2, not57 X k h3 (.inl (by rw [h4]; exact fun z => nomatch z)), h3, h4, h5, h6⟩
  · obtain ⟨fs, h1, h2, h3, h4⟩ := k.patO
    obtain ⟨cs, m, h5, h6⟩ := k.codeO
    exact ⟨43, 42, mg_of X T.g k.pat, (by decide : 43 ≠ 57), (by decide : 42 ≠ 57), ⟨⟨fs, X _ _ h1, h2, h3, h4⟩, ⟨cs, m, X _ _ h5, h6⟩⟩⟩
  · intro a fd hm hf
    obtain ⟨⟨o, ho, hd⟩, _⟩ := hf
    exact law_code X T.g k.tr hm ho hd

theorem repInts {h : Heap} {M : AS} : ∀ {vs : List Value} {ns : List Int}, IntsAre vs ns → RepL h M (ns.map .int) vs
  | _, _, .nil => .nil
  | _, _, .cons n t r => .cons (.int n t) (repInts r)

/-- the call of the law, when the model of it gives True -/
theorem lawEnds {a l : Addr} {vs : List Value} {ns : List Int} {f : List V → Option V} {c : ClaimW} {cl : Str → Option Addr} {mn : ExcName → Option Value} {args : List WData} {E : Value → Shared → Prop}
    (T : Top q loose mean mg mb s.heap) (Z : QOk q loose) (X : K.In s.heap) (k : KOk K) (hg : s.gens = #[]) (ht : 0 < s.toks)
    (hf : GlT (gOf prog w s mg mb) → CallOk (gOf prog w s mg mb) "law" 5 f) (hlaw : f [.lst (ns.map .int)] = some (.bool true)) (hm : mg "law" = some (.ref a)) (hl : s.heap.IsList l vs.toArray) (hi : IntsAre vs ns) (hn : ns.length ≤ 63)
    (hr : ∀ cls, c.raises args cls = false) (hp : c.post args (.bool true) args = true) :
    wpAny (model prog w) callerA (call (.ref a) [.ref l]) (fun v s' => GoodWG c cl mn args s (.ok (.ret v)) s') E s := by
  have iv : Inv (gOf prog w s mg mb) s := invOf X k hg ht
  obtain ⟨a', fd, h1, h2, h3⟩ := hf (glOf T Z X k)
  unfold SoundV at h3
  have e : a' = a := by
    have h1' : mg "law" = some (.ref a') := h1
    rw [hm] at h1'; cases h1'; rfl
  subst e
  have hl57 : l ≠ 57 := by
    obtain ⟨o, ho, hc, _⟩ := id hl
    exact not57 X k ho (.inl (by rw [hc]; exact fun z => nomatch z))
  refine h3 _ _ hlaw callerA ⟨rfl, by decide, by decide⟩ (fun b => b = 57) s [.ref l] _ E iv rfl (fun b e => by rw [e, tabAt57 X k]; exact fun z => nomatch z)
    (.cons (.lst _ vs l hl57 hl (by rw [List.length_map, sizeLine_is]; omega) (repInts hi)) .nil) fun v s' x r => ?_
  cases r with
  | bool =>
    have iv' := x.inv iv
    have hos : s'.os = s.os := iv'.os
    obtain ⟨h', g', d', t', os'⟩ := s'
    simp only at hos
    subst hos
    refine ⟨.inl ⟨_, .bool true, [], rfl, hr, ReadsW.bool true, hp, fun _ => ⟨List.nodup_nil, fun _ hm => (nomatch hm)⟩⟩, ?_, rfl, iv'.gens⟩
    obtain ⟨more, ht', _⟩ := iv'.tab
    obtain ⟨m0, ht0, _⟩ := iv.tab
    have hP := tabAt57 X k
    refine ⟨fun b o e => ?_, fun b o e => ?_⟩
    · by_cases hb : b = 57
      · subst hb
        rw [hP] at e; cases e
        refine .inr (.inl ⟨ht0.isCodeTable, rfl, #[], more, rfl, ?_⟩)
        have := ht'.2
        exact this
      · exact .inl (x.keep b o hb e)
    · by_cases hb : b = 57
      · subst hb; exact ⟨_, ht'.2⟩
      · exact ⟨o, x.keep b o hb e⟩
end
end Mine
end

noncomputable section
open PySem PySem.W PyProof.Rows
set_option maxRecDepth 100000
set_option maxHeartbeats 4000000
namespace Mine

noncomputable def ft_law_digits : FT := { scope := scopeAt 26, tbl := [("number", .local, false), ("base", .local, false), ("size", .local, false), ("digits", .local, true)] }
noncomputable def m_law_digits : Sig → Option (Fl × Sig) := (sSeq (sOwn ft_law_digits 3) (sSeq (sWhile 60 (tAnd (tCmp .Gt (eName 0) (eInt 0)) (tAnd (tCmp .Lt (eLen (eNameL 3)) (eName 2)) (tConst true))) (sSeq (sApp 3 (eBin .Mod (eBin .Sub (eName 0) (eInt 1)) (eName 1))) (sSeq (sAsg 0 (eBin .FloorDiv (eBin .Sub (eName 0) (eInt 1)) (eName 1))) sNil))) (sSeq (sRet (eNameL 3)) sNil)))
theorem sound_law_digits {g : Gl} (G : GlT g) : SoundSS g 0 ft_law_digits (bodyAt 26) m_law_digits := (sssCons (ssOwn (i := 3) rfl) (sssCons (ssWhile (fuel := 60) (tsBool (tsAndCons (tsCmp (sName (i := 0) rfl (by decide +kernel)) sInt) (tsAndCons (tsCmp (sLen G.toGlB rfl (by decide +kernel) (sNameB (i := 3) rfl (by decide +kernel))) (sName (i := 2) rfl (by decide +kernel))) tsAndNil))) (sssCons (ssApp (i := 3) rfl rfl (by decide +kernel) (sBin (sBin (sName (i := 0) rfl (by decide +kernel)) sInt) (sName (i := 1) rfl (by decide +kernel))) (fun _ => rfl) rfl (fun env h => by cases env; cases h; kernel_rfl)) (sssCons (ssAsg (i := 0) rfl (fun e => absurd rfl e) (sBin (sBin (sName (i := 0) rfl (by decide +kernel)) sInt) (sName (i := 1) rfl (by decide +kernel)))) sssNil))) (sssCons (ssRetOwn (i := 3) rfl (by decide +kernel)) sssNil)))
noncomputable def f_law_digits : List V → Option V := fnOf 1 (bdN 3) m_law_digits
theorem call_law_digits {g : Gl} (G : GlT g) : CallOk g "_law_digits" 1 f_law_digits :=
  callOkB (ft := ft_law_digits) (params := paramsAt 26) (body := bodyAt 26) G.toGlOk ["number", "base", "size"] 1 (G.fn 26 (by decide)) rfl (by decide +kernel) (sound_law_digits G) (fun fd h1 h2 h3 => soundBd_plain fun vals hv => by
    obtain ⟨nm, qn, pr, bd, sc, gl, cl, df, kd, dc, pm, an, cd, ct, bi⟩ := fd
    simp only at h1 h2 h3
    subst h1 h2 h3
    obtain _ | ⟨v0, vals⟩ := vals
    · cases hv
    obtain _ | ⟨v1, vals⟩ := vals
    · cases hv
    obtain _ | ⟨v2, vals⟩ := vals
    · cases hv
    obtain _ | ⟨v, vals⟩ := vals
    · rfl
    · simp at hv)

noncomputable def ft_law_means : FT := { scope := scopeAt 31, tbl := [("signs", .local, false), ("name", .cell, false), ("left", .local, false), ("some", .cell, false)] }
noncomputable def scfc__law_means_1 : Scope := { kind := .function, names := [(".0", .local), ("k", .local), ("name", .free), ("some", .free)], isGenerator := false, isCoroutine := false, more := [] }
noncomputable def fc__law_means_1 : FT := { scope := relabelS scfc__law_means_1 ft_law_means.scope, tbl := [("name", .cell, false), ("some", .cell, false), ("k", .local, false)], wc := false }
noncomputable def m_law_means : Sig → Option (Fl × Sig) := (sSeq (sAsg 2 (eLst (esCons (eLen (eName 1)) esNil))) (sSeq (sFor (iSeq (eSlice (eName 0) eNone eNone (eNeg (eInt 1)))) (aName 3) (sSeq (sIf (tCmp .Eq (eName 3) (eStr "*")) (sSeq (sAsg 2 (eListRange (esCons (eBin .Add (eCallV fMax (esCons (eBin .Add (eLst (esCons (eNeg (eInt 1)) esNil)) (eName 2)) esNil)) (eInt 1)) esNil))) sNil) (sSeq (sAsgC 2 (eComp [1, 3] 1 (iSeq (eName 2)) (aName 2) (tAnd (tCmp .Gt (eName 2) (eInt 0)) (tAnd (tCmp .In (eIdx (eName 0) (eBin .Sub (eName 2) (eInt 1))) (eName 1)) (tConst true))) (eBin .Sub (eName 2) (eInt 1)))) sNil)) sNil)) (sSeq (sRet (eCmp .In (eInt 0) (eName 2))) sNil)))
theorem sound_law_means {g : Gl} (G : GlT g) : SoundSS g 0 ft_law_means (bodyAt 31) m_law_means := (sssCons (ssAsg (i := 2) rfl (fun e => absurd rfl e) (sLst (ssCons (sLen G.toGlB rfl (by decide +kernel) (SoundE.b (sName (i := 1) rfl (by decide +kernel)))) ssNil se_Call))) (sssCons (ssFor (siSeq (sSlice (SoundE.b (sName (i := 0) rfl (by decide +kernel))) spNone spNone (spSome (sNeg sInt)))) (saName (i := 3) rfl (fun _ => ⟨rfl, rfl⟩)) (sssCons (ssIf (tsCmp (sName (i := 3) rfl (by decide +kernel)) sStr) (sssCons (ssAsg (i := 2) rfl (fun e => absurd rfl e) (sListRange G.toGlB rfl rfl (by decide +kernel) (by decide +kernel) (fun _ _ => ⟨_, _, rfl, rfl⟩) (ssCons (sBin (sCallV G.toGlB (.tail _ (.tail _ (.tail _ (.tail _ (.head _))))) (by decide +kernel) (by decide +kernel) rfl (fun _ _ => ⟨_, _, rfl, rfl⟩) vMax (ssCons (sBin (sLst (ssCons (sNeg sInt) ssNil se_UnaryOp)) (sName (i := 2) rfl (by decide +kernel))) ssNil se_BinOp)) sInt) ssNil se_BinOp))) sssNil) (sssCons (ssAsgC (fc := fc__law_means_1) (i := 2) 1 (compOk (ft := ft_law_means) (scope := scfc__law_means_1) (fc := fc__law_means_1) (is := [1, 3]) rfl rfl (by decide +kernel)) rfl (siSeq (sName (i := 2) rfl (by decide +kernel))) (saName (i := 2) rfl (fun e => absurd rfl e)) (sgOne (tsBool (tsAndCons (tsCmp (sName (i := 2) rfl (by decide +kernel)) sInt) (tsAndCons (tsCmp (sIdx (SoundE.b (sName (i := 0) rfl (by decide +kernel))) (sBin (sName (i := 2) rfl (by decide +kernel)) sInt)) (sName (i := 1) rfl (by decide +kernel))) tsAndNil)))) (sBin (sName (i := 2) rfl (by decide +kernel)) sInt) (fun env h => by cases env; cases h; kernel_rfl)) sssNil)) sssNil)) (sssCons (ssRet (sCmp sInt (sName (i := 2) rfl (by decide +kernel)))) sssNil)))
noncomputable def f_law_means : List V → Option V := fnOf 2 (bdN 2) m_law_means
theorem call_law_means {g : Gl} (G : GlT g) : CallOk g "_law_means" 1 f_law_means :=
  callOkB (ft := ft_law_means) (params := paramsAt 31) (body := bodyAt 31) G.toGlOk ["signs", "name"] 2 (G.fn 31 (by decide)) rfl (by decide +kernel) (sound_law_means G) (fun fd h1 h2 h3 => soundBd_plain fun vals hv => by
    obtain ⟨nm, qn, pr, bd, sc, gl, cl, df, kd, dc, pm, an, cd, ct, bi⟩ := fd
    simp only at h1 h2 h3
    subst h1 h2 h3
    obtain _ | ⟨v0, vals⟩ := vals
    · cases hv
    obtain _ | ⟨v1, vals⟩ := vals
    · cases hv
    obtain _ | ⟨v, vals⟩ := vals
    · rfl
    · simp at hv)

end Mine
end

noncomputable section
open PySem PySem.W PyProof.Rows
set_option maxRecDepth 100000
set_option maxHeartbeats 4000000
namespace Mine

noncomputable def ft_fspath : FT := { scope := scopeAt 16, tbl := [("path", .local, false)] }
noncomputable def m_fspath : Sig → Option (Fl × Sig) := sFsp
theorem sound_fspath {g : Gl} (G : GlT g) : SoundSS g 0 ft_fspath (bodyAt 16) m_fspath := (sssFsp G.toGlB rfl (by decide +kernel) (by decide) rfl rfl rfl rfl (by decide +kernel) (by decide +kernel) (by decide +kernel) (by decide +kernel) (by decide +kernel) (by decide +kernel))
noncomputable def f_fspath : List V → Option V := fnOf 0 (bdN 1) m_fspath
theorem call_fspath {g : Gl} (G : GlT g) : CallOk g "fspath" 1 f_fspath :=
  callOkB (ft := ft_fspath) (params := paramsAt 16) (body := bodyAt 16) G.toGlOk ["path"] 0 (G.fn 16 (by decide)) rfl (by decide +kernel) (sound_fspath G) (fun fd h1 h2 h3 => soundBd_plain fun vals hv => by
    obtain ⟨nm, qn, pr, bd, sc, gl, cl, df, kd, dc, pm, an, cd, ct, bi⟩ := fd
    simp only at h1 h2 h3
    subst h1 h2 h3
    obtain _ | ⟨v0, vals⟩ := vals
    · cases hv
    obtain _ | ⟨v, vals⟩ := vals
    · rfl
    · simp at hv)

noncomputable def ft_get_sep : FT := { scope := scopeAt 20, tbl := [("path", .local, false)] }
noncomputable def m_get_sep : Sig → Option (Fl × Sig) := (sSeq (sIf (tVal (eIsStr false (eName 0))) (fun _ => none) (sSeq (sRet (eStr "/")) sNil)) sNil)
theorem sound_get_sep {g : Gl} (G : GlT g) : SoundSS g 0 ft_get_sep (bodyAt 20) m_get_sep := (sssCons (ssIf (tsVal (SoundE.b (sIsBytes G.toGlB rfl rfl (by decide +kernel) (by decide +kernel) (sName (i := 0) rfl (by decide +kernel))))) sssDead (sssCons (ssRet sStr) sssNil)) sssNil)
noncomputable def f_get_sep : List V → Option V := fnOf 0 (bdN 1) m_get_sep
theorem call_get_sep {g : Gl} (G : GlT g) : CallOk g "_get_sep" 1 f_get_sep :=
  callOkB (ft := ft_get_sep) (params := paramsAt 20) (body := bodyAt 20) G.toGlOk ["path"] 0 (G.fn 20 (by decide)) rfl (by decide +kernel) (sound_get_sep G) (fun fd h1 h2 h3 => soundBd_plain fun vals hv => by
    obtain ⟨nm, qn, pr, bd, sc, gl, cl, df, kd, dc, pm, an, cd, ct, bi⟩ := fd
    simp only at h1 h2 h3
    subst h1 h2 h3
    obtain _ | ⟨v0, vals⟩ := vals
    · cases hv
    obtain _ | ⟨v, vals⟩ := vals
    · rfl
    · simp at hv)

noncomputable def ft_split : FT := { scope := scopeAt 22, tbl := [("p", .local, false), ("sep", .local, false), ("i", .local, false), ("head", .local, false), ("tail", .local, false)] }
noncomputable def m_split : Sig → Option (Fl × Sig) := (sSeq (sAsg 0 (eCallV f_fspath (esCons (eName 0) esNil))) (sSeq (sAsg 1 (eCallV f_get_sep (esCons (eName 0) esNil))) (sSeq (sAsg 2 (eBin .Add (eMeth fRfind (eName 0) (esCons (eName 1) esNil)) (eInt 1))) (sSeq (sAsgW [3, 4] (eTup (esCons (eSlice (eName 0) eNone (eName 2) eNone) (esCons (eSlice (eName 0) (eName 2) eNone eNone) esNil)))) (sSeq (sIf (tAnd (tVal (eName 3)) (tAnd (tCmp .NotEq (eName 3) (eBin .Mult (eName 1) (eLen (eName 3)))) (tConst true))) (sSeq (sAsg 3 (eMeth fRstrip (eName 3) (esCons (eName 1) esNil))) sNil) sNil) (sSeq (sRet (eTup (esCons (eName 3) (esCons (eName 4) esNil)))) sNil))))))
theorem sound_split {g : Gl} (G : GlT g) : SoundSS g 1 ft_split (bodyAt 22) m_split := (sssCons (ssAsg (i := 0) rfl (fun e => absurd rfl e) (sCallN G.toGlOk (call_fspath G) (by decide +kernel) (by decide +kernel) (fun _ _ => ⟨_, _, rfl⟩) (ssCons (sName (i := 0) rfl (by decide +kernel)) ssNil se_Name))) (sssCons (ssAsg (i := 1) rfl (fun e => absurd rfl e) (sCallN G.toGlOk (call_get_sep G) (by decide +kernel) (by decide +kernel) (fun _ _ => ⟨_, _, rfl⟩) (ssCons (sName (i := 0) rfl (by decide +kernel)) ssNil se_Name))) (sssCons (ssAsg (i := 2) rfl (fun e => absurd rfl e) (sBin (sMeth mRfind vRfind (sName (i := 0) rfl (by decide +kernel)) (ssCons (sName (i := 1) rfl (by decide +kernel)) ssNil se_Name) (fun _ _ => ⟨_, _, rfl, rfl⟩) (fun _ => rfl) (fun _ => rfl) rfl) sInt)) (sssCons (ssAsgW [("head", 3), ("tail", 4)] (by intro p hp; simp only [List.mem_cons, List.not_mem_nil, or_false] at hp; rcases hp with rfl | rfl <;> rfl) (sTup (ssCons (sSlice (SoundE.b (sName (i := 0) rfl (by decide +kernel))) spNone (spSome (sName (i := 2) rfl (by decide +kernel))) spNone) (ssCons (sSlice (SoundE.b (sName (i := 0) rfl (by decide +kernel))) (spSome (sName (i := 2) rfl (by decide +kernel))) spNone spNone) ssNil se_Subscript) se_Subscript)) (fun _ => rfl) (fun env h => by cases env; cases h; kernel_rfl)) (sssCons (ssIf (tsBool (tsAndCons (tsVal (SoundE.b (sName (i := 3) rfl (by decide +kernel)))) (tsAndCons (tsCmp (sName (i := 3) rfl (by decide +kernel)) (sBin (sName (i := 1) rfl (by decide +kernel)) (sLen G.toGlB rfl (by decide +kernel) (SoundE.b (sName (i := 3) rfl (by decide +kernel)))))) tsAndNil))) (sssCons (ssAsg (i := 3) rfl (fun e => absurd rfl e) (sMeth mRstrip vRstrip (sName (i := 3) rfl (by decide +kernel)) (ssCons (sName (i := 1) rfl (by decide +kernel)) ssNil se_Name) (fun _ _ => ⟨_, _, rfl, rfl⟩) (fun _ => rfl) (fun _ => rfl) rfl)) sssNil) sssNil) (sssCons (ssRet (sTup (ssCons (sName (i := 3) rfl (by decide +kernel)) (ssCons (sName (i := 4) rfl (by decide +kernel)) ssNil se_Name) se_Name))) sssNil))))))
noncomputable def f_split : List V → Option V := fnOf 4 (bdN 1) m_split
theorem call_split {g : Gl} (G : GlT g) : CallOk g "split" 2 f_split :=
  callOkB (ft := ft_split) (params := paramsAt 22) (body := bodyAt 22) G.toGlOk ["p"] 4 (G.fn 22 (by decide)) rfl (by decide +kernel) (sound_split G) (fun fd h1 h2 h3 => soundBd_plain fun vals hv => by
    obtain ⟨nm, qn, pr, bd, sc, gl, cl, df, kd, dc, pm, an, cd, ct, bi⟩ := fd
    simp only at h1 h2 h3
    subst h1 h2 h3
    obtain _ | ⟨v0, vals⟩ := vals
    · cases hv
    obtain _ | ⟨v, vals⟩ := vals
    · rfl
    · simp at hv)

noncomputable def ft_splitroot : FT := { scope := scopeAt 23, tbl := [("p", .local, false), ("sep", .local, false), ("empty", .local, false)] }
noncomputable def m_splitroot : Sig → Option (Fl × Sig) := (sSeq (sAsg 0 (eCallV f_fspath (esCons (eName 0) esNil))) (sSeq (sIf (tVal (eIsStr false (eName 0))) (fun _ => none) (sSeq (sAsg 1 (eStr "/")) (sSeq (sAsg 2 (eStr "")) sNil))) (sSeq (sIf (tCmp .NotEq (eSlice (eName 0) eNone (eInt 1) eNone) (eName 1)) (sSeq (sRet (eTup (esCons (eName 2) (esCons (eName 2) (esCons (eName 0) esNil))))) sNil) (sSeq (sIf (tOr (tCmp .NotEq (eSlice (eName 0) (eInt 1) (eInt 2) eNone) (eName 1)) (tOr (tCmp .Eq (eSlice (eName 0) (eInt 2) (eInt 3) eNone) (eName 1)) (tConst false))) (sSeq (sRet (eTup (esCons (eName 2) (esCons (eName 1) (esCons (eSlice (eName 0) (eInt 1) eNone eNone) esNil))))) sNil) (sSeq (sRet (eTup (esCons (eName 2) (esCons (eSlice (eName 0) eNone (eInt 2) eNone) (esCons (eSlice (eName 0) (eInt 2) eNone eNone) esNil))))) sNil)) sNil)) sNil)))
theorem sound_splitroot {g : Gl} (G : GlT g) : SoundSS g 1 ft_splitroot (bodyAt 23) m_splitroot := (sssCons (ssAsg (i := 0) rfl (fun e => absurd rfl e) (sCallN G.toGlOk (call_fspath G) (by decide +kernel) (by decide +kernel) (fun _ _ => ⟨_, _, rfl⟩) (ssCons (sName (i := 0) rfl (by decide +kernel)) ssNil se_Name))) (sssCons (ssIf (tsVal (SoundE.b (sIsBytes G.toGlB rfl rfl (by decide +kernel) (by decide +kernel) (sName (i := 0) rfl (by decide +kernel))))) sssDead (sssCons (ssAsg (i := 1) rfl (fun e => absurd rfl e) sStr) (sssCons (ssAsg (i := 2) rfl (fun e => absurd rfl e) sStr) sssNil))) (sssCons (ssIf (tsCmp (sSlice (SoundE.b (sName (i := 0) rfl (by decide +kernel))) spNone (spSome sInt) spNone) (sName (i := 1) rfl (by decide +kernel))) (sssCons (ssRet (sTup (ssCons (sName (i := 2) rfl (by decide +kernel)) (ssCons (sName (i := 2) rfl (by decide +kernel)) (ssCons (sName (i := 0) rfl (by decide +kernel)) ssNil se_Name) se_Name) se_Name))) sssNil) (sssCons (ssIf (tsBool (tsOrCons (tsCmp (sSlice (SoundE.b (sName (i := 0) rfl (by decide +kernel))) (spSome sInt) (spSome sInt) spNone) (sName (i := 1) rfl (by decide +kernel))) (tsOrCons (tsCmp (sSlice (SoundE.b (sName (i := 0) rfl (by decide +kernel))) (spSome sInt) (spSome sInt) spNone) (sName (i := 1) rfl (by decide +kernel))) tsOrNil))) (sssCons (ssRet (sTup (ssCons (sName (i := 2) rfl (by decide +kernel)) (ssCons (sName (i := 1) rfl (by decide +kernel)) (ssCons (sSlice (SoundE.b (sName (i := 0) rfl (by decide +kernel))) (spSome sInt) spNone spNone) ssNil se_Subscript) se_Name) se_Name))) sssNil) (sssCons (ssRet (sTup (ssCons (sName (i := 2) rfl (by decide +kernel)) (ssCons (sSlice (SoundE.b (sName (i := 0) rfl (by decide +kernel))) spNone (spSome sInt) spNone) (ssCons (sSlice (SoundE.b (sName (i := 0) rfl (by decide +kernel))) (spSome sInt) spNone spNone) ssNil se_Subscript) se_Subscript) se_Name))) sssNil)) sssNil)) sssNil)))
noncomputable def f_splitroot : List V → Option V := fnOf 2 (bdN 1) m_splitroot
theorem call_splitroot {g : Gl} (G : GlT g) : CallOk g "splitroot" 2 f_splitroot :=
  callOkB (ft := ft_splitroot) (params := paramsAt 23) (body := bodyAt 23) G.toGlOk ["p"] 2 (G.fn 23 (by decide)) rfl (by decide +kernel) (sound_splitroot G) (fun fd h1 h2 h3 => soundBd_plain fun vals hv => by
    obtain ⟨nm, qn, pr, bd, sc, gl, cl, df, kd, dc, pm, an, cd, ct, bi⟩ := fd
    simp only at h1 h2 h3
    subst h1 h2 h3
    obtain _ | ⟨v0, vals⟩ := vals
    · cases hv
    obtain _ | ⟨v, vals⟩ := vals
    · rfl
    · simp at hv)

noncomputable def ft_join : FT := { scope := scopeAt 21, tbl := [("a", .local, false), ("p", .local, false), ("sep", .local, false), ("path", .local, false), ("b", .local, false)] }
noncomputable def m_join : Sig → Option (Fl × Sig) := (sSeq (sAsg 0 (eCallV f_fspath (esCons (eName 0) esNil))) (sSeq (sAsg 2 (eCallV f_get_sep (esCons (eName 0) esNil))) (sSeq (sAsg 3 (eName 0)) (sSeq (sSeq (sFor (iSeq (eName 1)) (aName 4) (sSeq (sAsg 4 (eCallV f_fspath (esCons (eName 4) esNil))) (sSeq (sIf (tOr (tVal (eMeth fStarts (eName 4) (esCons (eName 2) esNil))) (tOr (tNot (tVal (eName 3))) (tConst false))) (sSeq (sAsg 3 (eName 4)) sNil) (sSeq (sIf (tVal (eMeth fEnds (eName 3) (esCons (eName 2) esNil))) (sSeq (sAug 3 (eName 4)) sNil) (sSeq (sAug 3 (eBin .Add (eName 2) (eName 4))) sNil)) sNil)) sNil))) sNil) (sSeq (sRet (eName 3)) sNil)))))
theorem sound_join {g : Gl} (G : GlT g) : SoundSS g 1 ft_join (bodyAt 21) m_join := (sssCons (ssAsg (i := 0) rfl (fun e => absurd rfl e) (sCallN G.toGlOk (call_fspath G) (by decide +kernel) (by decide +kernel) (fun _ _ => ⟨_, _, rfl⟩) (ssCons (sName (i := 0) rfl (by decide +kernel)) ssNil se_Name))) (sssCons (ssAsg (i := 2) rfl (fun e => absurd rfl e) (sCallN G.toGlOk (call_get_sep G) (by decide +kernel) (by decide +kernel) (fun _ _ => ⟨_, _, rfl⟩) (ssCons (sName (i := 0) rfl (by decide +kernel)) ssNil se_Name))) (sssCons (ssAsg (i := 3) rfl (fun e => absurd rfl e) (sName (i := 0) rfl (by decide +kernel))) (sssCons (ssTry (sssCons (ssFor (siSeq (sName (i := 1) rfl (by decide +kernel))) (saName (i := 4) rfl (fun e => absurd rfl e)) (sssCons (ssAsg (i := 4) rfl (fun e => absurd rfl e) (sCallN G.toGlOk (call_fspath G) (by decide +kernel) (by decide +kernel) (fun _ _ => ⟨_, _, rfl⟩) (ssCons (sName (i := 4) rfl (by decide +kernel)) ssNil se_Name))) (sssCons (ssIf (tsBool (tsOrCons (tsVal (SoundE.b (sMeth mStarts vStarts (sName (i := 4) rfl (by decide +kernel)) (ssCons (sName (i := 2) rfl (by decide +kernel)) ssNil se_Name) (fun _ _ => ⟨_, _, rfl, rfl⟩) (fun _ => rfl) (fun _ => rfl) rfl))) (tsOrCons (tsNot (tsVal (SoundE.b (sName (i := 3) rfl (by decide +kernel))))) tsOrNil))) (sssCons (ssAsg (i := 3) rfl (fun e => absurd rfl e) (sName (i := 4) rfl (by decide +kernel))) sssNil) (sssCons (ssIf (tsVal (SoundE.b (sMeth mEnds vEnds (sName (i := 3) rfl (by decide +kernel)) (ssCons (sName (i := 2) rfl (by decide +kernel)) ssNil se_Name) (fun _ _ => ⟨_, _, rfl, rfl⟩) (fun _ => rfl) (fun _ => rfl) rfl))) (sssCons (ssAug (i := 3) rfl (fun e => absurd rfl e) (sName (i := 4) rfl (by decide +kernel))) sssNil) (sssCons (ssAug (i := 3) rfl (fun e => absurd rfl e) (sBin (sName (i := 2) rfl (by decide +kernel)) (sName (i := 4) rfl (by decide +kernel)))) sssNil)) sssNil)) sssNil))) sssNil)) (sssCons (ssRet (sName (i := 3) rfl (by decide +kernel))) sssNil)))))
noncomputable def f_join : List V → Option V := fnOf 3 bdJ m_join
theorem call_join {g : Gl} (G : GlT g) : CallOk g "join" 2 f_join :=
  callOkB (ft := ft_join) (params := paramsAt 21) (body := bodyAt 21) G.toGlOk ["a", "p"] 3 (G.fn 21 (by decide)) rfl (by decide +kernel) (sound_join G) (fun fd h1 h2 h3 => soundBd_join fun v vs => by obtain ⟨nm, qn, pr, bd, sc, gl, cl, df, kd, dc, pm, an, cd, ct, bi⟩ := fd; simp only at h1 h2 h3; subst h1 h2 h3; cases vs <;> rfl)

noncomputable def ft_normpath : FT := { scope := scopeAt 24, tbl := [("path", .local, false), ("sep", .local, false), ("dot", .local, false), ("dotdot", .local, false), ("_", .local, false), ("initial_slashes", .local, false), ("comps", .local, false), ("new_comps", .local, true), ("comp", .local, false)] }
noncomputable def m_normpath : Sig → Option (Fl × Sig) := (sSeq (sAsg 0 (eCallV f_fspath (esCons (eName 0) esNil))) (sSeq (sIf (tVal (eIsStr false (eName 0))) (fun _ => none) (sSeq (sAsg 1 (eStr "/")) (sSeq (sAsg 2 (eStr ".")) (sSeq (sAsg 3 (eStr "..")) sNil)))) (sSeq (sIf (tNot (tVal (eName 0))) (sSeq (sRet (eName 2)) sNil) sNil) (sSeq (sAsgT (eCallV f_splitroot (esCons (eName 0) esNil)) (aTup 3 (asCons (aName 4) (asCons (aName 5) (asCons (aName 0) asNil))))) (sSeq (sAsg 6 (eMeth fSplit (eName 0) (esCons (eName 1) esNil))) (sSeq (sOwn ft_normpath 7) (sSeq (sFor (iSeq (eName 6)) (aName 8) (sSeq (sIf (tOr (tNot (tVal (eName 8))) (tOr (tCmp .Eq (eName 8) (eName 2)) (tConst false))) (sSeq (fun σ => some (.cont, σ)) sNil) sNil) (sSeq (sIf (tOr (tCmp .NotEq (eName 8) (eName 3)) (tOr (tAnd (tNot (tVal (eName 5))) (tAnd (tNot (tVal (eNameL 7))) (tConst true))) (tOr (tAnd (tVal (eNameL 7)) (tAnd (tCmp .Eq (eIdx (eNameL 7) (eNeg (eInt 1))) (eName 3)) (tConst true))) (tConst false)))) (sSeq (sApp 7 (eName 8)) sNil) (sSeq (sIf (tVal (eNameL 7)) (sSeq (sPop 7) sNil) sNil) sNil)) sNil))) (sSeq (sMv ft_normpath 6 7) (sSeq (sAsg 0 (eBin .Add (eName 5) (eMeth fJoin (eName 1) (esCons (eName 6) esNil)))) (sSeq (sRet (eOr (eName 0) (eName 2))) sNil))))))))))
theorem sound_normpath {g : Gl} (G : GlT g) : SoundSS g 2 ft_normpath (bodyAt 24) m_normpath := (sssCons (ssAsg (i := 0) rfl (fun e => absurd rfl e) (sCallN G.toGlOk (call_fspath G) (by decide +kernel) (by decide +kernel) (fun _ _ => ⟨_, _, rfl⟩) (ssCons (sName (i := 0) rfl (by decide +kernel)) ssNil se_Name))) (sssCons (ssIf (tsVal (SoundE.b (sIsBytes G.toGlB rfl rfl (by decide +kernel) (by decide +kernel) (sName (i := 0) rfl (by decide +kernel))))) sssDead (sssCons (ssAsg (i := 1) rfl (fun e => absurd rfl e) sStr) (sssCons (ssAsg (i := 2) rfl (fun e => absurd rfl e) sStr) (sssCons (ssAsg (i := 3) rfl (fun e => absurd rfl e) sStr) sssNil)))) (sssCons (ssIf (tsNot (tsVal (SoundE.b (sName (i := 0) rfl (by decide +kernel))))) (sssCons (ssRet (sName (i := 2) rfl (by decide +kernel))) sssNil) sssNil) (sssCons (ssAsgT (sCallN G.toGlOk (call_splitroot G) (by decide +kernel) (by decide +kernel) (fun _ _ => ⟨_, _, rfl⟩) (ssCons (sName (i := 0) rfl (by decide +kernel)) ssNil se_Name)) (saTup (sasCons (saName (i := 4) rfl (fun e => absurd rfl e)) (sasCons (saName (i := 5) rfl (fun e => absurd rfl e)) (sasCons (saName (i := 0) rfl (fun e => absurd rfl e)) sasNil (fun _ => rfl)) (fun _ => rfl)) (fun _ => rfl)) (fun _ => rfl) (fun _ => rfl)) (fun _ => rfl) (fun env h => by cases env; cases h; kernel_rfl)) (sssCons (ssAsg (i := 6) rfl (fun e => absurd rfl e) (sMeth mSplit vSplit (sName (i := 0) rfl (by decide +kernel)) (ssCons (sName (i := 1) rfl (by decide +kernel)) ssNil se_Name) (fun _ _ => ⟨_, _, rfl, rfl⟩) (fun _ => rfl) (fun _ => rfl) rfl)) (sssCons (ssOwn (i := 7) rfl) (sssCons (ssFor (siSeq (sName (i := 6) rfl (by decide +kernel))) (saName (i := 8) rfl (fun e => absurd rfl e)) (sssCons (ssIf (tsBool (tsOrCons (tsNot (tsVal (SoundE.b (sName (i := 8) rfl (by decide +kernel))))) (tsOrCons (tsCmp (sName (i := 8) rfl (by decide +kernel)) (sName (i := 2) rfl (by decide +kernel))) tsOrNil))) (sssCons ssContinue sssNil) sssNil) (sssCons (ssIf (tsBool (tsOrCons (tsCmp (sName (i := 8) rfl (by decide +kernel)) (sName (i := 3) rfl (by decide +kernel))) (tsOrCons (tsBool (tsAndCons (tsNot (tsVal (SoundE.b (sName (i := 5) rfl (by decide +kernel))))) (tsAndCons (tsNot (tsVal (sNameB (i := 7) rfl (by decide +kernel)))) tsAndNil))) (tsOrCons (tsBool (tsAndCons (tsVal (sNameB (i := 7) rfl (by decide +kernel))) (tsAndCons (tsCmp (sIdx (sNameB (i := 7) rfl (by decide +kernel)) (sNeg sInt)) (sName (i := 3) rfl (by decide +kernel))) tsAndNil))) tsOrNil)))) (sssCons (ssApp (i := 7) rfl rfl (by decide +kernel) (sName (i := 8) rfl (by decide +kernel)) (fun _ => rfl) rfl (fun env h => by cases env; cases h; kernel_rfl)) sssNil) (sssCons (ssIf (tsVal (sNameB (i := 7) rfl (by decide +kernel))) (sssCons (ssPop (i := 7) rfl rfl (by decide +kernel) rfl (fun env h => by cases env; cases h; kernel_rfl)) sssNil) sssNil) sssNil)) sssNil))) (sssCons (ssMv (i := 7) (j := 6) (k := .local) rfl rfl (by decide +kernel)) (sssCons (ssAsg (i := 0) rfl (fun e => absurd rfl e) (sBin (sName (i := 5) rfl (by decide +kernel)) (sMeth mJoin vJoin (sName (i := 1) rfl (by decide +kernel)) (ssCons (sName (i := 6) rfl (by decide +kernel)) ssNil se_Name) (fun _ _ => ⟨_, _, rfl, rfl⟩) (fun _ => rfl) (fun _ => rfl) rfl))) (sssCons (ssRet (sOr (sName (i := 0) rfl (by decide +kernel)) (sName (i := 2) rfl (by decide +kernel)))) sssNil))))))))))
noncomputable def f_normpath : List V → Option V := fnOf 8 (bdN 1) m_normpath
theorem call_normpath {g : Gl} (G : GlT g) : CallOk g "normpath" 3 f_normpath :=
  callOkB (ft := ft_normpath) (params := paramsAt 24) (body := bodyAt 24) G.toGlOk ["path"] 8 (G.fn 24 (by decide)) rfl (by decide +kernel) (sound_normpath G) (fun fd h1 h2 h3 => soundBd_plain fun vals hv => by
    obtain ⟨nm, qn, pr, bd, sc, gl, cl, df, kd, dc, pm, an, cd, ct, bi⟩ := fd
    simp only at h1 h2 h3
    subst h1 h2 h3
    obtain _ | ⟨v0, vals⟩ := vals
    · cases hv
    obtain _ | ⟨v, vals⟩ := vals
    · rfl
    · simp at hv)

end Mine
end

noncomputable section
open PySem PySem.W PyProof.Rows
set_option maxRecDepth 100000
set_option maxHeartbeats 4000000
namespace Mine

noncomputable def ft_law_reads : FT := { scope := scopeAt 27, tbl := [("part", .local, false), ("sign", .local, false), ("barred", .local, false), ("units", .local, true), ("at", .local, false), ("hit", .local, false), ("size", .local, false)] }
noncomputable def m_law_reads : Sig → Option (Fl × Sig) := (sSeq (sIf (tCmp .Eq (eName 0) (eStr ".")) (sSeq (sRet (eBool true)) sNil) sNil) (sSeq (sIf (tCmp .Eq (eName 0) (eStr "(?!)")) (sSeq (sRet (eBool false)) sNil) sNil) (sSeq (sIf (tCmp .NotEq (eIdx (eName 0) (eInt 0)) (eStr "[")) (sSeq (sRet (eCmp .Eq (eIdx (eName 0) (eNeg (eInt 1))) (eName 1))) sNil) sNil) (sSeq (sAsg 2 (eCmp .Eq (eIdx (eName 0) (eInt 1)) (eStr "^"))) (sSeq (sOwn ft_law_reads 3) (sSeq (sAsg 4 (eIf (tVal (eName 2)) (eInt 2) (eInt 1))) (sSeq (sWhile 60 (tCmp .Lt (eName 4) (eBin .Sub (eLen (eName 0)) (eInt 1))) (sSeq (sIf (tCmp .Eq (eIdx (eName 0) (eName 4)) (eStr "\\")) (sSeq (sAug 4 (eInt 1)) (sSeq (sApp 3 (eTup (esCons (eIdx (eName 0) (eName 4)) (esCons (eBool false) esNil)))) sNil)) (sSeq (sApp 3 (eTup (esCons (eIdx (eName 0) (eName 4)) (esCons (eBool true) esNil)))) sNil)) (sSeq (sAug 4 (eInt 1)) sNil))) (sSeq (sAsgT (eTup (esCons (eBool false) (esCons (eInt 0) esNil))) (aTup 2 (asCons (aName 5) (asCons (aName 4) asNil)))) (sSeq (sWhile 60 (tCmp .Lt (eName 4) (eLen (eNameL 3))) (sSeq (sAsg 6 (eIf (tAnd (tCmp .Eq (eSlice (eNameL 3) (eBin .Add (eName 4) (eInt 1)) (eBin .Add (eName 4) (eInt 2)) eNone) (eLst (esCons (eTup (esCons (eStr "-") (esCons (eBool true) esNil))) esNil))) (tAnd (tCmp .Lt (eBin .Add (eName 4) (eInt 2)) (eLen (eNameL 3))) (tConst true))) (eInt 3) (eInt 1))) (sSeq (sAsg 5 (eOr (eName 5) (eCmp2 .LtE .LtE (eIdx (eIdx (eNameL 3) (eName 4)) (eInt 0)) (eName 1) (eIdx (eIdx (eNameL 3) (eBin .Sub (eBin .Add (eName 4) (eName 6)) (eInt 1))) (eInt 0))))) (sSeq (sAug 4 (eName 6)) sNil)))) (sSeq (sRet (eCmp .NotEq (eName 5) (eName 2))) sNil))))))))))
theorem sound_law_reads {g : Gl} (G : GlT g) : SoundSS g 0 ft_law_reads (bodyAt 27) m_law_reads := (sssCons (ssIf (tsCmp (sName (i := 0) rfl (by decide +kernel)) sStr) (sssCons (ssRet sBool) sssNil) sssNil) (sssCons (ssIf (tsCmp (sName (i := 0) rfl (by decide +kernel)) sStr) (sssCons (ssRet sBool) sssNil) sssNil) (sssCons (ssIf (tsCmp (sIdx (SoundE.b (sName (i := 0) rfl (by decide +kernel))) sInt) sStr) (sssCons (ssRet (sCmp (sIdx (SoundE.b (sName (i := 0) rfl (by decide +kernel))) (sNeg sInt)) (sName (i := 1) rfl (by decide +kernel)))) sssNil) sssNil) (sssCons (ssAsg (i := 2) rfl (fun e => absurd rfl e) (sCmp (sIdx (SoundE.b (sName (i := 0) rfl (by decide +kernel))) sInt) sStr)) (sssCons (ssOwn (i := 3) rfl) (sssCons (ssAsg (i := 4) rfl (fun e => absurd rfl e) (sIfExp (tsVal (SoundE.b (sName (i := 2) rfl (by decide +kernel)))) sInt sInt)) (sssCons (ssWhile (fuel := 60) (tsCmp (sName (i := 4) rfl (by decide +kernel)) (sBin (sLen G.toGlB rfl (by decide +kernel) (SoundE.b (sName (i := 0) rfl (by decide +kernel)))) sInt)) (sssCons (ssIf (tsCmp (sIdx (SoundE.b (sName (i := 0) rfl (by decide +kernel))) (sName (i := 4) rfl (by decide +kernel))) sStr) (sssCons (ssAug (i := 4) rfl (fun e => absurd rfl e) sInt) (sssCons (ssApp (i := 3) rfl rfl (by decide +kernel) (sTup (ssCons (sIdx (SoundE.b (sName (i := 0) rfl (by decide +kernel))) (sName (i := 4) rfl (by decide +kernel))) (ssCons sBool ssNil se_Constant) se_Subscript)) (fun _ => rfl) rfl (fun env h => by cases env; cases h; kernel_rfl)) sssNil)) (sssCons (ssApp (i := 3) rfl rfl (by decide +kernel) (sTup (ssCons (sIdx (SoundE.b (sName (i := 0) rfl (by decide +kernel))) (sName (i := 4) rfl (by decide +kernel))) (ssCons sBool ssNil se_Constant) se_Subscript)) (fun _ => rfl) rfl (fun env h => by cases env; cases h; kernel_rfl)) sssNil)) (sssCons (ssAug (i := 4) rfl (fun e => absurd rfl e) sInt) sssNil))) (sssCons (ssAsgT (sTup (ssCons sBool (ssCons sInt ssNil se_Constant) se_Constant)) (saTup (sasCons (saName (i := 5) rfl (fun e => absurd rfl e)) (sasCons (saName (i := 4) rfl (fun e => absurd rfl e)) sasNil (fun _ => rfl)) (fun _ => rfl)) (fun _ => rfl) (fun _ => rfl)) (fun _ => rfl) (fun env h => by cases env; cases h; kernel_rfl)) (sssCons (ssWhile (fuel := 60) (tsCmp (sName (i := 4) rfl (by decide +kernel)) (sLen G.toGlB rfl (by decide +kernel) (sNameB (i := 3) rfl (by decide +kernel)))) (sssCons (ssAsg (i := 6) rfl (fun e => absurd rfl e) (sIfExp (tsBool (tsAndCons (tsCmp (sSlice (sNameB (i := 3) rfl (by decide +kernel)) (spSome (sBin (sName (i := 4) rfl (by decide +kernel)) sInt)) (spSome (sBin (sName (i := 4) rfl (by decide +kernel)) sInt)) spNone) (sLst (ssCons (sTup (ssCons sStr (ssCons sBool ssNil se_Constant) se_Constant)) ssNil se_Tuple))) (tsAndCons (tsCmp (sBin (sName (i := 4) rfl (by decide +kernel)) sInt) (sLen G.toGlB rfl (by decide +kernel) (sNameB (i := 3) rfl (by decide +kernel)))) tsAndNil))) sInt sInt)) (sssCons (ssAsg (i := 5) rfl (fun e => absurd rfl e) (sOr (sName (i := 5) rfl (by decide +kernel)) (sCmp2 (sIdx (SoundE.b (sIdx (sNameB (i := 3) rfl (by decide +kernel)) (sName (i := 4) rfl (by decide +kernel)))) sInt) (sName (i := 1) rfl (by decide +kernel)) (sIdx (SoundE.b (sIdx (sNameB (i := 3) rfl (by decide +kernel)) (sBin (sBin (sName (i := 4) rfl (by decide +kernel)) (sName (i := 6) rfl (by decide +kernel))) sInt))) sInt)))) (sssCons (ssAug (i := 4) rfl (fun e => absurd rfl e) (sName (i := 6) rfl (by decide +kernel))) sssNil)))) (sssCons (ssRet (sCmp (sName (i := 5) rfl (by decide +kernel)) (sName (i := 2) rfl (by decide +kernel)))) sssNil))))))))))
noncomputable def f_law_reads : List V → Option V := fnOf 5 (bdN 2) m_law_reads
theorem call_law_reads {g : Gl} (G : GlT g) : CallOk g "_law_reads" 1 f_law_reads :=
  callOkB (ft := ft_law_reads) (params := paramsAt 27) (body := bodyAt 27) G.toGlOk ["part", "sign"] 5 (G.fn 27 (by decide)) rfl (by decide +kernel) (sound_law_reads G) (fun fd h1 h2 h3 => soundBd_plain fun vals hv => by
    obtain ⟨nm, qn, pr, bd, sc, gl, cl, df, kd, dc, pm, an, cd, ct, bi⟩ := fd
    simp only at h1 h2 h3
    subst h1 h2 h3
    obtain _ | ⟨v0, vals⟩ := vals
    · cases hv
    obtain _ | ⟨v1, vals⟩ := vals
    · cases hv
    obtain _ | ⟨v, vals⟩ := vals
    · rfl
    · simp at hv)

noncomputable def ft_law_fits : FT := { scope := scopeAt 28, tbl := [("parts", .local, false), ("name", .cell, false), ("places", .local, false), ("part", .cell, false)] }
noncomputable def scfc__law_fits_1 : Scope := { kind := .function, names := [(".0", .local), ("k", .local), ("len", .globalImplicit), ("_law_reads", .globalImplicit), ("name", .free), ("part", .free)], isGenerator := false, isCoroutine := false, more := [] }
noncomputable def fc__law_fits_1 : FT := { scope := relabelS scfc__law_fits_1 ft_law_fits.scope, tbl := [("name", .cell, false), ("part", .cell, false), ("k", .local, false)], wc := false }
noncomputable def m_law_fits : Sig → Option (Fl × Sig) := (sSeq (sAsg 2 (eLst (esCons (eInt 0) esNil))) (sSeq (sFor (iSeq (eName 0)) (aName 3) (sSeq (sIf (tCmp .Is (eName 3) eNone) (sSeq (sAsg 2 (eListRange (esCons (eCallV fMin (esCons (eBin .Add (eName 2) (eLst (esCons (eBin .Add (eLen (eName 1)) (eInt 1)) esNil))) esNil)) (esCons (eBin .Add (eLen (eName 1)) (eInt 1)) esNil)))) sNil) (sSeq (sAsgC 2 (eComp [1, 3] 1 (iSeq (eName 2)) (aName 2) (tAnd (tCmp .Lt (eName 2) (eLen (eName 0))) (tAnd (tVal (eCallV f_law_reads (esCons (eName 1) (esCons (eIdx (eName 0) (eName 2)) esNil)))) (tConst true))) (eBin .Add (eName 2) (eInt 1)))) sNil)) sNil)) (sSeq (sRet (eCmp .In (eLen (eName 1)) (eName 2))) sNil)))
theorem sound_law_fits {g : Gl} (G : GlT g) : SoundSS g 1 ft_law_fits (bodyAt 28) m_law_fits := (sssCons (ssAsg (i := 2) rfl (fun e => absurd rfl e) (sLst (ssCons sInt ssNil se_Constant))) (sssCons (ssFor (siSeq (sName (i := 0) rfl (by decide +kernel))) (saName (i := 3) rfl (fun _ => ⟨rfl, rfl⟩)) (sssCons (ssIf (tsCmp (sName (i := 3) rfl (by decide +kernel)) sNone) (sssCons (ssAsg (i := 2) rfl (fun e => absurd rfl e) (sListRange G.toGlB rfl rfl (by decide +kernel) (by decide +kernel) (fun _ _ => ⟨_, _, rfl, rfl⟩) (ssCons (sCallV G.toGlB (.tail _ (.tail _ (.tail _ (.head _)))) (by decide +kernel) (by decide +kernel) rfl (fun _ _ => ⟨_, _, rfl, rfl⟩) vMin (ssCons (sBin (sName (i := 2) rfl (by decide +kernel)) (sLst (ssCons (sBin (sLen G.toGlB rfl (by decide +kernel) (SoundE.b (sName (i := 1) rfl (by decide +kernel)))) sInt) ssNil se_BinOp))) ssNil se_BinOp)) (ssCons (sBin (sLen G.toGlB rfl (by decide +kernel) (SoundE.b (sName (i := 1) rfl (by decide +kernel)))) sInt) ssNil se_BinOp) se_Call))) sssNil) (sssCons (ssAsgC (fc := fc__law_fits_1) (i := 2) 1 (compOk (ft := ft_law_fits) (scope := scfc__law_fits_1) (fc := fc__law_fits_1) (is := [1, 3]) rfl rfl (by decide +kernel)) rfl (siSeq (sName (i := 2) rfl (by decide +kernel))) (saName (i := 2) rfl (fun e => absurd rfl e)) (sgOne (tsBool (tsAndCons (tsCmp (sName (i := 2) rfl (by decide +kernel)) (sLen G.toGlB rfl (by decide +kernel) (SoundE.b (sName (i := 0) rfl (by decide +kernel))))) (tsAndCons (tsVal (SoundE.b (sCallN G.toGlOk (call_law_reads G) (by decide +kernel) (by decide +kernel) (fun _ _ => ⟨_, _, rfl⟩) (ssCons (sName (i := 1) rfl (by decide +kernel)) (ssCons (sIdx (SoundE.b (sName (i := 0) rfl (by decide +kernel))) (sName (i := 2) rfl (by decide +kernel))) ssNil se_Subscript) se_Name)))) tsAndNil)))) (sBin (sName (i := 2) rfl (by decide +kernel)) sInt) (fun env h => by cases env; cases h; kernel_rfl)) sssNil)) sssNil)) (sssCons (ssRet (sCmp (sLen G.toGlB rfl (by decide +kernel) (SoundE.b (sName (i := 1) rfl (by decide +kernel)))) (sName (i := 2) rfl (by decide +kernel)))) sssNil)))
noncomputable def f_law_fits : List V → Option V := fnOf 2 (bdN 2) m_law_fits
theorem call_law_fits {g : Gl} (G : GlT g) : CallOk g "_law_fits" 2 f_law_fits :=
  callOkB (ft := ft_law_fits) (params := paramsAt 28) (body := bodyAt 28) G.toGlOk ["parts", "name"] 2 (G.fn 28 (by decide)) rfl (by decide +kernel) (sound_law_fits G) (fun fd h1 h2 h3 => soundBd_plain fun vals hv => by
    obtain ⟨nm, qn, pr, bd, sc, gl, cl, df, kd, dc, pm, an, cd, ct, bi⟩ := fd
    simp only at h1 h2 h3
    subst h1 h2 h3
    obtain _ | ⟨v0, vals⟩ := vals
    · cases hv
    obtain _ | ⟨v1, vals⟩ := vals
    · cases hv
    obtain _ | ⟨v, vals⟩ := vals
    · rfl
    · simp at hv)

noncomputable def ft_law_climb : FT := { scope := scopeAt 29, tbl := [("path", .local, false), ("heads", .local, true), ("tails", .local, true), ("head", .local, false), ("tail", .local, false)] }
noncomputable def m_law_climb : Sig → Option (Fl × Sig) := (sSeq (sOwn2 ft_law_climb 1 2) (sSeq (sAsgT (eCallV f_split (esCons (eName 0) esNil)) (aTup 2 (asCons (aName 3) (asCons (aName 4) asNil)))) (sSeq (sWhile 60 (tCmp .NotEq (eName 4) (eStr "")) (sSeq (sApp 1 (eName 3)) (sSeq (sApp 2 (eName 4)) (sSeq (sAsgT (eCallV f_split (esCons (eName 3) esNil)) (aTup 2 (asCons (aName 3) (asCons (aName 4) asNil)))) sNil)))) (sRel ft_law_climb 1 (sRel (ft_law_climb.rel 1 "heads") 2 (sSeq (sRet (eTup (esCons (eName 3) (esCons (eName 1) (esCons (eName 2) esNil))))) sNil))))))
theorem sound_law_climb {g : Gl} (G : GlT g) : SoundSS g 2 ft_law_climb (bodyAt 29) m_law_climb := (sssCons (ssOwn2 (i := 1) (j := 2) rfl rfl (fun env h => by cases env; cases h; kernel_rfl)) (sssCons (ssAsgT (sCallN G.toGlOk (call_split G) (by decide +kernel) (by decide +kernel) (fun _ _ => ⟨_, _, rfl⟩) (ssCons (sName (i := 0) rfl (by decide +kernel)) ssNil se_Name)) (saTup (sasCons (saName (i := 3) rfl (fun e => absurd rfl e)) (sasCons (saName (i := 4) rfl (fun e => absurd rfl e)) sasNil (fun _ => rfl)) (fun _ => rfl)) (fun _ => rfl) (fun _ => rfl)) (fun _ => rfl) (fun env h => by cases env; cases h; kernel_rfl)) (sssCons (ssWhile (fuel := 60) (tsCmp (sName (i := 4) rfl (by decide +kernel)) sStr) (sssCons (ssApp (i := 1) rfl rfl (by decide +kernel) (sName (i := 3) rfl (by decide +kernel)) (fun _ => rfl) rfl (fun env h => by cases env; cases h; kernel_rfl)) (sssCons (ssApp (i := 2) rfl rfl (by decide +kernel) (sName (i := 4) rfl (by decide +kernel)) (fun _ => rfl) rfl (fun env h => by cases env; cases h; kernel_rfl)) (sssCons (ssAsgT (sCallN G.toGlOk (call_split G) (by decide +kernel) (by decide +kernel) (fun _ _ => ⟨_, _, rfl⟩) (ssCons (sName (i := 3) rfl (by decide +kernel)) ssNil se_Name)) (saTup (sasCons (saName (i := 3) rfl (fun e => absurd rfl e)) (sasCons (saName (i := 4) rfl (fun e => absurd rfl e)) sasNil (fun _ => rfl)) (fun _ => rfl)) (fun _ => rfl) (fun _ => rfl)) (fun _ => rfl) (fun env h => by cases env; cases h; kernel_rfl)) sssNil)))) (sssRel (i := 1) (x := "heads") rfl (sssRel (i := 2) (x := "tails") rfl (sssCons (ssRet (sTup (ssCons (sName (i := 3) rfl (by decide +kernel)) (ssCons (sName (i := 1) rfl (by decide +kernel)) (ssCons (sName (i := 2) rfl (by decide +kernel)) ssNil se_Name) se_Name) se_Name))) sssNil))))))
noncomputable def f_law_climb : List V → Option V := fnOf 4 (bdN 1) m_law_climb
theorem call_law_climb {g : Gl} (G : GlT g) : CallOk g "_law_climb" 3 f_law_climb :=
  callOkB (ft := ft_law_climb) (params := paramsAt 29) (body := bodyAt 29) G.toGlOk ["path"] 4 (G.fn 29 (by decide)) rfl (by decide +kernel) (sound_law_climb G) (fun fd h1 h2 h3 => soundBd_plain fun vals hv => by
    obtain ⟨nm, qn, pr, bd, sc, gl, cl, df, kd, dc, pm, an, cd, ct, bi⟩ := fd
    simp only at h1 h2 h3
    subst h1 h2 h3
    obtain _ | ⟨v0, vals⟩ := vals
    · cases hv
    obtain _ | ⟨v, vals⟩ := vals
    · rfl
    · simp at hv)

noncomputable def ft_law_stay : FT := { scope := scopeAt 32, tbl := [("pieces", .local, false), ("stay", .local, false), ("debt", .local, false), ("piece", .local, false)] }
noncomputable def m_law_stay : Sig → Option (Fl × Sig) := (sSeq (sAsgW [1, 2] (eTup (esCons (eLst esNil) (esCons (eInt 0) esNil)))) (sSeq (sFor (iSeq (eSlice (eName 0) eNone eNone (eNeg (eInt 1)))) (aName 3) (sSeq (sIf (tCmp .Eq (eIdx (eName 3) (eInt 0)) (eStr "..")) (sSeq (sAug 2 (eInt 1)) sNil) (sSeq (sIf (tCmp .NotIn (eIdx (eName 3) (eInt 0)) (eLst (esCons (eStr "") (esCons (eStr ".") esNil)))) (sSeq (sAsg 1 (eIf (tCmp .Eq (eName 2) (eInt 0)) (eBin .Add (eLst (esCons (eName 3) esNil)) (eName 1)) (eName 1))) (sSeq (sAsg 2 (eCallV fMax (esCons (eBin .Sub (eName 2) (eInt 1)) (esCons (eInt 0) esNil)))) sNil)) sNil) sNil)) sNil)) (sSeq (sRet (eName 1)) sNil)))
theorem sound_law_stay {g : Gl} (G : GlT g) : SoundSS g 0 ft_law_stay (bodyAt 32) m_law_stay := (sssCons (ssAsgW [("stay", 1), ("debt", 2)] (by intro p hp; simp only [List.mem_cons, List.not_mem_nil, or_false] at hp; rcases hp with rfl | rfl <;> rfl) (sTup (ssCons (sLst ssNil) (ssCons sInt ssNil se_Constant) se_List)) (fun _ => rfl) (fun env h => by cases env; cases h; kernel_rfl)) (sssCons (ssFor (siSeq (sSlice (SoundE.b (sName (i := 0) rfl (by decide +kernel))) spNone spNone (spSome (sNeg sInt)))) (saName (i := 3) rfl (fun e => absurd rfl e)) (sssCons (ssIf (tsCmp (sIdx (SoundE.b (sName (i := 3) rfl (by decide +kernel))) sInt) sStr) (sssCons (ssAug (i := 2) rfl (fun e => absurd rfl e) sInt) sssNil) (sssCons (ssIf (tsCmp (sIdx (SoundE.b (sName (i := 3) rfl (by decide +kernel))) sInt) (sLst (ssCons sStr (ssCons sStr ssNil se_Constant) se_Constant))) (sssCons (ssAsg (i := 1) rfl (fun e => absurd rfl e) (sIfExp (tsCmp (sName (i := 2) rfl (by decide +kernel)) sInt) (sBin (sLst (ssCons (sName (i := 3) rfl (by decide +kernel)) ssNil se_Name)) (sName (i := 1) rfl (by decide +kernel))) (sName (i := 1) rfl (by decide +kernel)))) (sssCons (ssAsg (i := 2) rfl (fun e => absurd rfl e) (sCallV G.toGlB (.tail _ (.tail _ (.tail _ (.tail _ (.head _))))) (by decide +kernel) (by decide +kernel) rfl (fun _ _ => ⟨_, _, rfl, rfl⟩) vMax (ssCons (sBin (sName (i := 2) rfl (by decide +kernel)) sInt) (ssCons sInt ssNil se_Constant) se_BinOp))) sssNil)) sssNil) sssNil)) sssNil)) (sssCons (ssRet (sName (i := 1) rfl (by decide +kernel))) sssNil)))
noncomputable def f_law_stay : List V → Option V := fnOf 3 (bdN 1) m_law_stay
theorem call_law_stay {g : Gl} (G : GlT g) : CallOk g "_law_stay" 1 f_law_stay :=
  callOkB (ft := ft_law_stay) (params := paramsAt 32) (body := bodyAt 32) G.toGlOk ["pieces"] 3 (G.fn 32 (by decide)) rfl (by decide +kernel) (sound_law_stay G) (fun fd h1 h2 h3 => soundBd_plain fun vals hv => by
    obtain ⟨nm, qn, pr, bd, sc, gl, cl, df, kd, dc, pm, an, cd, ct, bi⟩ := fd
    simp only at h1 h2 h3
    subst h1 h2 h3
    obtain _ | ⟨v0, vals⟩ := vals
    · cases hv
    obtain _ | ⟨v, vals⟩ := vals
    · rfl
    · simp at hv)

end Mine
end

noncomputable section
open PySem PySem.W PyProof.Rows
set_option maxRecDepth 100000
set_option maxHeartbeats 4000000
namespace Mine

noncomputable def ft_law_moved : FT := { scope := scopeAt 30, tbl := [("path", .local, false), ("rules", .local, false), ("root", .local, false), ("heads", .local, false), ("tails", .cell, false), ("k", .cell, false), ("top", .local, false), ("parts", .cell, false), ("target", .local, false)] }
noncomputable def scfc__law_moved_1 : Scope := { kind := .function, names := [(".0", .local), ("j", .local), ("_law_fits", .globalImplicit), ("k", .free), ("parts", .free), ("tails", .free)], isGenerator := false, isCoroutine := false, more := [] }
noncomputable def fc__law_moved_1 : FT := { scope := relabelS scfc__law_moved_1 ft_law_moved.scope, tbl := [("k", .cell, false), ("parts", .cell, false), ("tails", .cell, false), ("j", .local, false)], wc := false }
noncomputable def m_law_moved : Sig → Option (Fl × Sig) := (sSeq (sAsgT (eCallV f_law_climb (esCons (eName 0) esNil)) (aTup 3 (asCons (aName 2) (asCons (aName 3) (asCons (aName 4) asNil))))) (sSeq (sFor (iRange (esCons (eLen (eName 4)) esNil)) (aName 5) (sSeq (sFor (iSeq (eName 1)) (aTup 3 (asCons (aName 6) (asCons (aName 7) (asCons (aName 8) asNil)))) (sSeq (sIf (tAnd (tCmp .Eq (eName 6) (eName 2)) (tAnd (tCmp .Eq (eLen (eName 7)) (eBin .Sub (eLen (eName 4)) (eName 5))) (tAnd (tCmp .Eq (eComp [5, 7, 4] 1 (iRange (esCons (eLen (eName 7)) esNil)) (aName 3) (tNot (tVal (eCallV f_law_fits (esCons (eIdx (eName 1) (eName 3)) (esCons (eIdx (eName 2) (eBin .Add (eName 0) (eName 3))) esNil))))) (eName 3)) (eLst esNil)) (tConst true)))) (sSeq (sRet (eCallV f_normpath (esCons (eCallV f_join (esCons (eIdx (eName 3) (eName 5)) (esCons (eName 8) (esStar (eSlice (eSlice (eName 4) eNone (eName 5) eNone) eNone eNone (eNeg (eInt 1))))))) esNil))) sNil) sNil) sNil)) sNil)) (sSeq (sRet (eStr "")) sNil)))
theorem sound_law_moved {g : Gl} (G : GlT g) : SoundSS g 3 ft_law_moved (bodyAt 30) m_law_moved := (sssCons (ssAsgT (sCallN G.toGlOk (call_law_climb G) (by decide +kernel) (by decide +kernel) (fun _ _ => ⟨_, _, rfl⟩) (ssCons (sName (i := 0) rfl (by decide +kernel)) ssNil se_Name)) (saTup (sasCons (saName (i := 2) rfl (fun e => absurd rfl e)) (sasCons (saName (i := 3) rfl (fun e => absurd rfl e)) (sasCons (saName (i := 4) rfl (fun _ => ⟨rfl, rfl⟩)) sasNil (fun _ => rfl)) (fun _ => rfl)) (fun _ => rfl)) (fun _ => rfl) (fun _ => rfl)) (fun _ => rfl) (fun env h => by cases env; cases h; kernel_rfl)) (sssCons (ssFor (siRange G.toGlB rfl (by decide +kernel) (fun _ _ => ⟨_, _, rfl, rfl⟩) (ssCons (sLen G.toGlB rfl (by decide +kernel) (SoundE.b (sName (i := 4) rfl (by decide +kernel)))) ssNil se_Call)) (saName (i := 5) rfl (fun _ => ⟨rfl, rfl⟩)) (sssCons (ssFor (siSeq (sName (i := 1) rfl (by decide +kernel))) (saTup (sasCons (saName (i := 6) rfl (fun e => absurd rfl e)) (sasCons (saName (i := 7) rfl (fun _ => ⟨rfl, rfl⟩)) (sasCons (saName (i := 8) rfl (fun e => absurd rfl e)) sasNil (fun _ => rfl)) (fun _ => rfl)) (fun _ => rfl)) (fun _ => rfl) (fun _ => rfl)) (sssCons (ssIf (tsBool (tsAndCons (tsCmp (sName (i := 6) rfl (by decide +kernel)) (sName (i := 2) rfl (by decide +kernel))) (tsAndCons (tsCmp (sLen G.toGlB rfl (by decide +kernel) (SoundE.b (sName (i := 7) rfl (by decide +kernel)))) (sBin (sLen G.toGlB rfl (by decide +kernel) (SoundE.b (sName (i := 4) rfl (by decide +kernel)))) (sName (i := 5) rfl (by decide +kernel)))) (tsAndCons (tsCmp (sComp (fc := fc__law_moved_1) 1 (compOk (ft := ft_law_moved) (scope := scfc__law_moved_1) (fc := fc__law_moved_1) (is := [5, 7, 4]) rfl rfl (by decide +kernel)) (siRange G.toGlB rfl (by decide +kernel) (fun _ _ => ⟨_, _, rfl, rfl⟩) (ssCons (sLen G.toGlB rfl (by decide +kernel) (SoundE.b (sName (i := 7) rfl (by decide +kernel)))) ssNil se_Call)) (saName (i := 3) rfl (fun e => absurd rfl e)) (sgOne (tsNot (tsVal (SoundE.b (sCallN G.toGlOk (call_law_fits G) (by decide +kernel) (by decide +kernel) (fun _ _ => ⟨_, _, rfl⟩) (ssCons (sIdx (SoundE.b (sName (i := 1) rfl (by decide +kernel))) (sName (i := 3) rfl (by decide +kernel))) (ssCons (sIdx (SoundE.b (sName (i := 2) rfl (by decide +kernel))) (sBin (sName (i := 0) rfl (by decide +kernel)) (sName (i := 3) rfl (by decide +kernel)))) ssNil se_Subscript) se_Subscript)))))) (sName (i := 3) rfl (by decide +kernel))) (sLst ssNil)) tsAndNil)))) (sssCons (ssRet (sCallN G.toGlOk (call_normpath G) (by decide +kernel) (by decide +kernel) (fun _ _ => ⟨_, _, rfl⟩) (ssCons (sCallN G.toGlOk (call_join G) (by decide +kernel) (by decide +kernel) (fun _ _ => ⟨_, _, rfl⟩) (ssCons (sIdx (SoundE.b (sName (i := 3) rfl (by decide +kernel))) (sName (i := 5) rfl (by decide +kernel))) (ssCons (sName (i := 8) rfl (by decide +kernel)) (ssStar (sSlice (SoundE.b (sSlice (SoundE.b (sName (i := 4) rfl (by decide +kernel))) spNone (spSome (sName (i := 5) rfl (by decide +kernel))) spNone)) spNone spNone (spSome (sNeg sInt)))) se_Name) se_Subscript)) ssNil se_Call))) sssNil) sssNil) sssNil)) sssNil)) (sssCons (ssRet sStr) sssNil)))
noncomputable def f_law_moved : List V → Option V := fnOf 7 (bdN 2) m_law_moved
theorem call_law_moved {g : Gl} (G : GlT g) : CallOk g "_law_moved" 4 f_law_moved :=
  callOkB (ft := ft_law_moved) (params := paramsAt 30) (body := bodyAt 30) G.toGlOk ["path", "rules"] 7 (G.fn 30 (by decide)) rfl (by decide +kernel) (sound_law_moved G) (fun fd h1 h2 h3 => soundBd_plain fun vals hv => by
    obtain ⟨nm, qn, pr, bd, sc, gl, cl, df, kd, dc, pm, an, cd, ct, bi⟩ := fd
    simp only at h1 h2 h3
    subst h1 h2 h3
    obtain _ | ⟨v0, vals⟩ := vals
    · cases hv
    obtain _ | ⟨v1, vals⟩ := vals
    · cases hv
    obtain _ | ⟨v, vals⟩ := vals
    · rfl
    · simp at hv)

noncomputable def ft_law_next : FT := { scope := scopeAt 33, tbl := [("root", .local, false), ("names", .cell, false), ("rules", .local, false), ("size", .local, false), ("pattern", .cell, false), ("slashes", .local, false), ("target", .local, false)] }
noncomputable def scfc__law_next_1 : Scope := { kind := .function, names := [(".0", .local), ("k", .local), ("_law_means", .globalImplicit), ("names", .free), ("pattern", .free)], isGenerator := false, isCoroutine := false, more := [] }
noncomputable def fc__law_next_1 : FT := { scope := relabelS scfc__law_next_1 ft_law_next.scope, tbl := [("names", .cell, false), ("pattern", .cell, false), ("k", .local, false)], wc := false }
noncomputable def m_law_next : Sig → Option (Fl × Sig) := (sSeq (sFor (iRange (esCons (eLen (eName 1)) (esCons (eInt 0) (esCons (eNeg (eInt 1)) esNil)))) (aName 3) (sSeq (sFor (iSeq (eName 2)) (aTup 3 (asCons (aName 4) (asCons (aName 5) (asCons (aName 6) asNil)))) (sSeq (sIf (tAnd (tCmp .Eq (eName 0) (eStr "/")) (tAnd (tCmp .Eq (eLen (eName 4)) (eName 3)) (tAnd (tCmp .Eq (eComp [1, 4] 1 (iRange (esCons (eName 3) esNil)) (aName 2) (tNot (tVal (eCallV f_law_means (esCons (eIdx (eIdx (eName 1) (eName 2)) (eInt 1)) (esCons (eIdx (eIdx (eName 0) (eName 2)) (eInt 0)) esNil))))) (eName 2)) (eLst esNil)) (tConst true)))) (sSeq (sIf (tCmp .Gt (eName 5) (eInt 0)) (sSeq (sRet (eTup (esCons (eBin .Mult (eStr "/") (eName 5)) (esCons (eCallV f_law_stay (esCons (eBin .Add (eName 6) (eSlice (eName 1) (eName 3) eNone eNone)) esNil)) esNil)))) sNil) sNil) (sSeq (sRet (eTup (esCons (eName 0) (esCons (eCallV f_law_stay (esCons (eBin .Add (eBin .Add (eSlice (eName 1) eNone (eBin .Sub (eName 3) (eInt 1)) eNone) (eName 6)) (eSlice (eName 1) (eName 3) eNone eNone)) esNil)) esNil)))) sNil)) sNil) sNil)) sNil)) (sSeq (sRet (eTup (esCons (eStr "") (esCons (eLst esNil) esNil)))) sNil))
theorem sound_law_next {g : Gl} (G : GlT g) : SoundSS g 1 ft_law_next (bodyAt 33) m_law_next := (sssCons (ssFor (siRange G.toGlB rfl (by decide +kernel) (fun _ _ => ⟨_, _, rfl, rfl⟩) (ssCons (sLen G.toGlB rfl (by decide +kernel) (SoundE.b (sName (i := 1) rfl (by decide +kernel)))) (ssCons sInt (ssCons (sNeg sInt) ssNil se_UnaryOp) se_Constant) se_Call)) (saName (i := 3) rfl (fun e => absurd rfl e)) (sssCons (ssFor (siSeq (sName (i := 2) rfl (by decide +kernel))) (saTup (sasCons (saName (i := 4) rfl (fun _ => ⟨rfl, rfl⟩)) (sasCons (saName (i := 5) rfl (fun e => absurd rfl e)) (sasCons (saName (i := 6) rfl (fun e => absurd rfl e)) sasNil (fun _ => rfl)) (fun _ => rfl)) (fun _ => rfl)) (fun _ => rfl) (fun _ => rfl)) (sssCons (ssIf (tsBool (tsAndCons (tsCmp (sName (i := 0) rfl (by decide +kernel)) sStr) (tsAndCons (tsCmp (sLen G.toGlB rfl (by decide +kernel) (SoundE.b (sName (i := 4) rfl (by decide +kernel)))) (sName (i := 3) rfl (by decide +kernel))) (tsAndCons (tsCmp (sComp (fc := fc__law_next_1) 1 (compOk (ft := ft_law_next) (scope := scfc__law_next_1) (fc := fc__law_next_1) (is := [1, 4]) rfl rfl (by decide +kernel)) (siRange G.toGlB rfl (by decide +kernel) (fun _ _ => ⟨_, _, rfl, rfl⟩) (ssCons (sName (i := 3) rfl (by decide +kernel)) ssNil se_Name)) (saName (i := 2) rfl (fun e => absurd rfl e)) (sgOne (tsNot (tsVal (SoundE.b (sCallN G.toGlOk (call_law_means G) (by decide +kernel) (by decide +kernel) (fun _ _ => ⟨_, _, rfl⟩) (ssCons (sIdx (SoundE.b (sIdx (SoundE.b (sName (i := 1) rfl (by decide +kernel))) (sName (i := 2) rfl (by decide +kernel)))) sInt) (ssCons (sIdx (SoundE.b (sIdx (SoundE.b (sName (i := 0) rfl (by decide +kernel))) (sName (i := 2) rfl (by decide +kernel)))) sInt) ssNil se_Subscript) se_Subscript)))))) (sName (i := 2) rfl (by decide +kernel))) (sLst ssNil)) tsAndNil)))) (sssCons (ssIf (tsCmp (sName (i := 5) rfl (by decide +kernel)) sInt) (sssCons (ssRet (sTup (ssCons (sBin sStr (sName (i := 5) rfl (by decide +kernel))) (ssCons (sCallN G.toGlOk (call_law_stay G) (by decide +kernel) (by decide +kernel) (fun _ _ => ⟨_, _, rfl⟩) (ssCons (sBin (sName (i := 6) rfl (by decide +kernel)) (sSlice (SoundE.b (sName (i := 1) rfl (by decide +kernel))) (spSome (sName (i := 3) rfl (by decide +kernel))) spNone spNone)) ssNil se_BinOp)) ssNil se_Call) se_BinOp))) sssNil) sssNil) (sssCons (ssRet (sTup (ssCons (sName (i := 0) rfl (by decide +kernel)) (ssCons (sCallN G.toGlOk (call_law_stay G) (by decide +kernel) (by decide +kernel) (fun _ _ => ⟨_, _, rfl⟩) (ssCons (sBin (sBin (sSlice (SoundE.b (sName (i := 1) rfl (by decide +kernel))) spNone (spSome (sBin (sName (i := 3) rfl (by decide +kernel)) sInt)) spNone) (sName (i := 6) rfl (by decide +kernel))) (sSlice (SoundE.b (sName (i := 1) rfl (by decide +kernel))) (spSome (sName (i := 3) rfl (by decide +kernel))) spNone spNone)) ssNil se_BinOp)) ssNil se_Call) se_Name))) sssNil)) sssNil) sssNil)) sssNil)) (sssCons (ssRet (sTup (ssCons sStr (ssCons (sLst ssNil) ssNil se_List) se_Constant))) sssNil))
noncomputable def f_law_next : List V → Option V := fnOf 4 (bdN 3) m_law_next
theorem call_law_next {g : Gl} (G : GlT g) : CallOk g "_law_next" 2 f_law_next :=
  callOkB (ft := ft_law_next) (params := paramsAt 33) (body := bodyAt 33) G.toGlOk ["root", "names", "rules"] 4 (G.fn 33 (by decide)) rfl (by decide +kernel) (sound_law_next G) (fun fd h1 h2 h3 => soundBd_plain fun vals hv => by
    obtain ⟨nm, qn, pr, bd, sc, gl, cl, df, kd, dc, pm, an, cd, ct, bi⟩ := fd
    simp only at h1 h2 h3
    subst h1 h2 h3
    obtain _ | ⟨v0, vals⟩ := vals
    · cases hv
    obtain _ | ⟨v1, vals⟩ := vals
    · cases hv
    obtain _ | ⟨v2, vals⟩ := vals
    · cases hv
    obtain _ | ⟨v, vals⟩ := vals
    · rfl
    · simp at hv)

end Mine
end

noncomputable section
open PySem PySem.W PyProof.Rows
set_option maxRecDepth 100000
set_option maxHeartbeats 4000000
namespace Mine

noncomputable def ft_escape : FT := { scope := scopeAt 5, tbl := [("pattern", .local, false)] }
noncomputable def m_escape : Sig → Option (Fl × Sig) := (sSeq (sIf (tVal (eIsStr true (eName 0))) (sSeq (sRet (eTrans (eName 0))) sNil) (fun _ => none)) sNil)
theorem sound_escape {g : Gl} (G : GlT g) : SoundSS g 0 ft_escape (bodyAt 5) m_escape := (sssCons (ssIf (tsVal (SoundE.b (sIsStr G.toGlB rfl rfl (by decide +kernel) (by decide +kernel) (sName (i := 0) rfl (by decide +kernel))))) (sssCons (ssRet (sTrans G.toGlOk G.esc rfl rfl (sName (i := 0) rfl (by decide +kernel)) (by decide +kernel) (fun _ => rfl) rfl)) sssNil) sssDead) sssNil)
noncomputable def f_escape : List V → Option V := fnOf 0 (bdN 1) m_escape
theorem call_escape {g : Gl} (G : GlT g) : CallOk g "escape" 1 f_escape :=
  callOkB (ft := ft_escape) (params := paramsAt 5) (body := bodyAt 5) G.toGlOk ["pattern"] 0 (G.fn 5 (by decide)) rfl (by decide +kernel) (sound_escape G) (fun fd h1 h2 h3 => soundBd_plain fun vals hv => by
    obtain ⟨nm, qn, pr, bd, sc, gl, cl, df, kd, dc, pm, an, cd, ct, bi⟩ := fd
    simp only at h1 h2 h3
    subst h1 h2 h3
    obtain _ | ⟨v0, vals⟩ := vals
    · cases hv
    obtain _ | ⟨v, vals⟩ := vals
    · rfl
    · simp at hv)

noncomputable def ft0_translate : FT := { scope := scopeAt 7, tbl := [("pat", .local, false), ("STAR", .local, false), ("QUESTION_MARK", .local, false), ("res", .local, true), ("add", .local, true), ("i", .local, false), ("n", .local, false), ("c", .local, false), ("j", .local, false), ("stuff", .local, false), ("chunks", .local, true), ("k", .local, false), ("chunk", .local, false)] }
noncomputable def ft_translate (g : Gl) : FT := { scope := scopeAt 7, tbl := [("pat", .local, false), ("STAR", .local, false), ("QUESTION_MARK", .local, false), ("res", .local, true), ("add", .local, true), ("i", .local, false), ("n", .local, false), ("c", .local, false), ("j", .local, false), ("stuff", .local, false), ("chunks", .local, true), ("k", .local, false), ("chunk", .local, false)], code := some (.ref g.CB) }
noncomputable def m_translate : Sig → Option (Fl × Sig) := (sSeq (sOwn ft0_translate 3) (sSeq (sBind ft0_translate 3 4) (sSeq (sAsgW [5, 6] (eTup (esCons (eInt 0) (esCons (eLen (eName 0)) esNil)))) (sSeq (sWhile 60 (tCmp .Lt (eName 5) (eName 6)) (sSeq (sAsg 7 (eIdx (eName 0) (eName 5))) (sSeq (sAsg 5 (eBin .Add (eName 5) (eInt 1))) (sSeq (sIf (tCmp .Eq (eName 7) (eStr "*")) (sSeq (sIf (tOr (tNot (tVal (eNameL 3))) (tOr (tCmp .IsNot (eIdx (eNameL 3) (eNeg (eInt 1))) (eName 1)) (tConst false))) (sSeq (sAdd ft0_translate 4 (eName 1)) sNil) sNil) sNil) (sSeq (sIf (tCmp .Eq (eName 7) (eStr "?")) (sSeq (sAdd ft0_translate 4 (eName 2)) sNil) (sSeq (sIf (tCmp .Eq (eName 7) (eStr "[")) (sSeq (sAsg 8 (eName 5)) (sSeq (sIf (tAnd (tCmp .Lt (eName 8) (eName 6)) (tAnd (tCmp .Eq (eIdx (eName 0) (eName 8)) (eStr "!")) (tConst true))) (sSeq (sAsg 8 (eBin .Add (eName 8) (eInt 1))) sNil) sNil) (sSeq (sIf (tAnd (tCmp .Lt (eName 8) (eName 6)) (tAnd (tCmp .Eq (eIdx (eName 0) (eName 8)) (eStr "]")) (tConst true))) (sSeq (sAsg 8 (eBin .Add (eName 8) (eInt 1))) sNil) sNil) (sSeq (sWhile 60 (tAnd (tCmp .Lt (eName 8) (eName 6)) (tAnd (tCmp .NotEq (eIdx (eName 0) (eName 8)) (eStr "]")) (tConst true))) (sSeq (sAsg 8 (eBin .Add (eName 8) (eInt 1))) sNil)) (sSeq (sIf (tCmp .GtE (eName 8) (eName 6)) (sSeq (sAdd ft0_translate 4 (eStr "\\[")) sNil) (sSeq (sAsg 9 (eSlice (eName 0) (eName 5) (eName 8) eNone)) (sSeq (sIf (tCmp .NotIn (eStr "-") (eName 9)) (sSeq (sAsg 9 (eReplace (eName 9) "\\" "\\\\")) sNil) (sSeq (sOwn ft0_translate 10) (sSeq (sAsg 11 (eIf (tCmp .Eq (eIdx (eName 0) (eName 5)) (eStr "!")) (eBin .Add (eName 5) (eInt 2)) (eBin .Add (eName 5) (eInt 1)))) (sSeq (sWhile 60 (tVal (eBool true)) (sSeq (sAsg 11 (eMeth fFind (eName 0) (esCons (eStr "-") (esCons (eName 11) (esCons (eName 8) esNil))))) (sSeq (sIf (tCmp .Lt (eName 11) (eInt 0)) (sSeq (fun σ => some (.brk, σ)) sNil) sNil) (sSeq (sApp 10 (eSlice (eName 0) (eName 5) (eName 11) eNone)) (sSeq (sAsg 5 (eBin .Add (eName 11) (eInt 1))) (sSeq (sAsg 11 (eBin .Add (eName 11) (eInt 3))) sNil)))))) (sSeq (sAsg 12 (eSlice (eName 0) (eName 5) (eName 8) eNone)) (sSeq (sIf (tVal (eName 12)) (sSeq (sApp 10 (eName 12)) sNil) (sSeq (sAugIx 10 (eNeg (eInt 1)) (eStr "-")) sNil)) (sSeq (sFor (iRange (esCons (eBin .Sub (eLen (eNameL 10)) (eInt 1)) (esCons (eInt 0) (esCons (eNeg (eInt 1)) esNil)))) (aName 11) (sSeq (sIf (tCmp .Gt (eIdx (eIdx (eNameL 10) (eBin .Sub (eName 11) (eInt 1))) (eNeg (eInt 1))) (eIdx (eIdx (eNameL 10) (eName 11)) (eInt 0))) (sSeq (sSetIx 10 (eBin .Sub (eName 11) (eInt 1)) (eBin .Add (eSlice (eIdx (eNameL 10) (eBin .Sub (eName 11) (eInt 1))) eNone (eNeg (eInt 1)) eNone) (eSlice (eIdx (eNameL 10) (eName 11)) (eInt 1) eNone eNone))) (sSeq (sDelIx 10 (eName 11)) sNil)) sNil) sNil)) (sSeq (sAsg 9 (eJoinG "-" 10 "\\" "-" "\\-")) sNil)))))))) (sSeq (sAsg 9 (eSub (eName 9))) (sSeq (sAsg 5 (eBin .Add (eName 8) (eInt 1))) (sSeq (sIf (tNot (tVal (eName 9))) (sSeq (sAdd ft0_translate 4 (eStr "(?!)")) sNil) (sSeq (sIf (tCmp .Eq (eName 9) (eStr "!")) (sSeq (sAdd ft0_translate 4 (eStr ".")) sNil) (sSeq (sIf (tCmp .Eq (eIdx (eName 9) (eInt 0)) (eStr "!")) (sSeq (sAsg 9 (eBin .Add (eStr "^") (eSlice (eName 9) (eInt 1) eNone eNone))) sNil) (sSeq (sIf (tCmp .In (eIdx (eName 9) (eInt 0)) (eTup (esCons (eStr "^") (esCons (eStr "[") esNil)))) (sSeq (sAsg 9 (eBin .Add (eStr "\\") (eName 9))) sNil) sNil) sNil)) (sSeq (sAdd ft0_translate 4 (eFmt "[" "]" (eName 9))) sNil))) sNil)) sNil)))))) sNil))))) (sSeq (sAdd ft0_translate 4 (eCallV f_escape (esCons (eName 7) esNil))) sNil)) sNil)) sNil)) sNil)))) (sSeq (sAssert (tCmp .Eq (eName 5) (eName 6))) (sSeq (sRet (eNameL 3)) sNil))))))
theorem sound_translate {g : Gl} (G : GlT g) : SoundSS g 1 (ft_translate g) (bodyAt 7) m_translate := (sssCons (ssOwn (i := 3) rfl) (sssCons (ssBind (i := 3) (j := 4) rfl rfl rfl (by decide +kernel)) (sssCons (ssAsgW [("i", 5), ("n", 6)] (by intro p hp; simp only [List.mem_cons, List.not_mem_nil, or_false] at hp; rcases hp with rfl | rfl <;> rfl) (sTup (ssCons sInt (ssCons (sLen G.toGlB rfl (by kernel_rfl) (SoundE.b (sName (i := 0) rfl (by decide +kernel)))) ssNil se_Call) se_Constant)) (fun _ => rfl) (fun env h => by cases env; cases h; kernel_rfl)) (sssCons (ssWhile (fuel := 60) (tsCmp (sName (i := 5) rfl (by decide +kernel)) (sName (i := 6) rfl (by decide +kernel))) (sssCons (ssAsg (i := 7) rfl (fun e => absurd rfl e) (sIdx (SoundE.b (sName (i := 0) rfl (by decide +kernel))) (sName (i := 5) rfl (by decide +kernel)))) (sssCons (ssAsg (i := 5) rfl (fun e => absurd rfl e) (sBin (sName (i := 5) rfl (by decide +kernel)) sInt)) (sssCons (ssIf (tsCmp (sName (i := 7) rfl (by decide +kernel)) sStr) (sssCons (ssIf (tsBool (tsOrCons (tsNot (tsVal (sNameB (i := 3) rfl (by decide +kernel)))) (tsOrCons (tsCmp (sIdx (sNameB (i := 3) rfl (by decide +kernel)) (sNeg sInt)) (sName (i := 1) rfl (by decide +kernel))) tsOrNil))) (sssCons (ssAdd (j := 4) rfl (by decide +kernel) (sName (i := 1) rfl (by decide +kernel)) (fun _ => rfl) (fun env h => by cases env; cases h; kernel_rfl)) sssNil) sssNil) sssNil) (sssCons (ssIf (tsCmp (sName (i := 7) rfl (by decide +kernel)) sStr) (sssCons (ssAdd (j := 4) rfl (by decide +kernel) (sName (i := 2) rfl (by decide +kernel)) (fun _ => rfl) (fun env h => by cases env; cases h; kernel_rfl)) sssNil) (sssCons (ssIf (tsCmp (sName (i := 7) rfl (by decide +kernel)) sStr) (sssCons (ssAsg (i := 8) rfl (fun e => absurd rfl e) (sName (i := 5) rfl (by decide +kernel))) (sssCons (ssIf (tsBool (tsAndCons (tsCmp (sName (i := 8) rfl (by decide +kernel)) (sName (i := 6) rfl (by decide +kernel))) (tsAndCons (tsCmp (sIdx (SoundE.b (sName (i := 0) rfl (by decide +kernel))) (sName (i := 8) rfl (by decide +kernel))) sStr) tsAndNil))) (sssCons (ssAsg (i := 8) rfl (fun e => absurd rfl e) (sBin (sName (i := 8) rfl (by decide +kernel)) sInt)) sssNil) sssNil) (sssCons (ssIf (tsBool (tsAndCons (tsCmp (sName (i := 8) rfl (by decide +kernel)) (sName (i := 6) rfl (by decide +kernel))) (tsAndCons (tsCmp (sIdx (SoundE.b (sName (i := 0) rfl (by decide +kernel))) (sName (i := 8) rfl (by decide +kernel))) sStr) tsAndNil))) (sssCons (ssAsg (i := 8) rfl (fun e => absurd rfl e) (sBin (sName (i := 8) rfl (by decide +kernel)) sInt)) sssNil) sssNil) (sssCons (ssWhile (fuel := 60) (tsBool (tsAndCons (tsCmp (sName (i := 8) rfl (by decide +kernel)) (sName (i := 6) rfl (by decide +kernel))) (tsAndCons (tsCmp (sIdx (SoundE.b (sName (i := 0) rfl (by decide +kernel))) (sName (i := 8) rfl (by decide +kernel))) sStr) tsAndNil))) (sssCons (ssAsg (i := 8) rfl (fun e => absurd rfl e) (sBin (sName (i := 8) rfl (by decide +kernel)) sInt)) sssNil)) (sssCons (ssIf (tsCmp (sName (i := 8) rfl (by decide +kernel)) (sName (i := 6) rfl (by decide +kernel))) (sssCons (ssAdd (j := 4) rfl (by decide +kernel) sStr (fun _ => rfl) (fun env h => by cases env; cases h; kernel_rfl)) sssNil) (sssCons (ssAsg (i := 9) rfl (fun e => absurd rfl e) (sSlice (SoundE.b (sName (i := 0) rfl (by decide +kernel))) (spSome (sName (i := 5) rfl (by decide +kernel))) (spSome (sName (i := 8) rfl (by decide +kernel))) spNone)) (sssCons (ssIf (tsCmp sStr (sName (i := 9) rfl (by decide +kernel))) (sssCons (ssAsg (i := 9) rfl (fun e => absurd rfl e) (sReplace rfl (sName (i := 9) rfl (by decide +kernel)) (fun _ => rfl) rfl)) sssNil) (sssCons (ssOwn (i := 10) rfl) (sssCons (ssAsg (i := 11) rfl (fun e => absurd rfl e) (sIfExp (tsCmp (sIdx (SoundE.b (sName (i := 0) rfl (by decide +kernel))) (sName (i := 5) rfl (by decide +kernel))) sStr) (sBin (sName (i := 5) rfl (by decide +kernel)) sInt) (sBin (sName (i := 5) rfl (by decide +kernel)) sInt))) (sssCons (ssWhile (fuel := 60) (tsVal (SoundE.b sBool)) (sssCons (ssAsg (i := 11) rfl (fun e => absurd rfl e) (sMeth mFind vFind (sName (i := 0) rfl (by decide +kernel)) (ssCons sStr (ssCons (sName (i := 11) rfl (by decide +kernel)) (ssCons (sName (i := 8) rfl (by decide +kernel)) ssNil se_Name) se_Name) se_Constant) (fun _ _ => ⟨_, _, rfl, rfl⟩) (fun _ => rfl) (fun _ => rfl) rfl)) (sssCons (ssIf (tsCmp (sName (i := 11) rfl (by decide +kernel)) sInt) (sssCons ssBreak sssNil) sssNil) (sssCons (ssApp (i := 10) rfl rfl (by decide +kernel) (sSlice (SoundE.b (sName (i := 0) rfl (by decide +kernel))) (spSome (sName (i := 5) rfl (by decide +kernel))) (spSome (sName (i := 11) rfl (by decide +kernel))) spNone) (fun _ => rfl) rfl (fun env h => by cases env; cases h; kernel_rfl)) (sssCons (ssAsg (i := 5) rfl (fun e => absurd rfl e) (sBin (sName (i := 11) rfl (by decide +kernel)) sInt)) (sssCons (ssAsg (i := 11) rfl (fun e => absurd rfl e) (sBin (sName (i := 11) rfl (by decide +kernel)) sInt)) sssNil)))))) (sssCons (ssAsg (i := 12) rfl (fun e => absurd rfl e) (sSlice (SoundE.b (sName (i := 0) rfl (by decide +kernel))) (spSome (sName (i := 5) rfl (by decide +kernel))) (spSome (sName (i := 8) rfl (by decide +kernel))) spNone)) (sssCons (ssIf (tsVal (SoundE.b (sName (i := 12) rfl (by decide +kernel)))) (sssCons (ssApp (i := 10) rfl rfl (by decide +kernel) (sName (i := 12) rfl (by decide +kernel)) (fun _ => rfl) rfl (fun env h => by cases env; cases h; kernel_rfl)) sssNil) (sssCons (ssAugIx (i := 10) rfl (by decide +kernel) (sNeg sInt) sStr (fun _ _ _ => rfl)) sssNil)) (sssCons (ssFor (siRange G.toGlB rfl (by kernel_rfl) (fun _ _ => ⟨_, _, rfl, rfl⟩) (ssCons (sBin (sLen G.toGlB rfl (by kernel_rfl) (sNameB (i := 10) rfl (by decide +kernel))) sInt) (ssCons sInt (ssCons (sNeg sInt) ssNil se_UnaryOp) se_Constant) se_BinOp)) (saName (i := 11) rfl (fun e => absurd rfl e)) (sssCons (ssIf (tsCmp (sIdx (SoundE.b (sIdx (sNameB (i := 10) rfl (by decide +kernel)) (sBin (sName (i := 11) rfl (by decide +kernel)) sInt))) (sNeg sInt)) (sIdx (SoundE.b (sIdx (sNameB (i := 10) rfl (by decide +kernel)) (sName (i := 11) rfl (by decide +kernel)))) sInt)) (sssCons (ssSetIx (i := 10) rfl (by decide +kernel) (sBin (sName (i := 11) rfl (by decide +kernel)) sInt) (sBin (sSlice (SoundE.b (sIdx (sNameB (i := 10) rfl (by decide +kernel)) (sBin (sName (i := 11) rfl (by decide +kernel)) sInt))) spNone (spSome (sNeg sInt)) spNone) (sSlice (SoundE.b (sIdx (sNameB (i := 10) rfl (by decide +kernel)) (sName (i := 11) rfl (by decide +kernel)))) (spSome sInt) spNone spNone)) (fun _ => rfl)) (sssCons (ssDelIx (i := 10) rfl (by decide +kernel) (sName (i := 11) rfl (by decide +kernel))) sssNil)) sssNil) sssNil)) (sssCons (ssAsg (i := 9) rfl (fun e => absurd rfl e) (sJoinG G.toGlOk G.built rfl (i := 10) rfl rfl rfl rfl (by decide +kernel) (by decide +kernel) rfl (by decide +kernel) (by decide +kernel) (by decide +kernel) (by decide +kernel) rfl rfl rfl rfl (by decide +kernel))) sssNil)))))))) (sssCons (ssAsg (i := 9) rfl (fun e => absurd rfl e) (sSub G.toGlOk G.built G.pat rfl rfl rfl (by kernel_rfl) (fun _ => rfl) rfl (by decide +kernel) (sName (i := 9) rfl (by decide +kernel)) (fun _ => rfl) rfl)) (sssCons (ssAsg (i := 5) rfl (fun e => absurd rfl e) (sBin (sName (i := 8) rfl (by decide +kernel)) sInt)) (sssCons (ssIf (tsNot (tsVal (SoundE.b (sName (i := 9) rfl (by decide +kernel))))) (sssCons (ssAdd (j := 4) rfl (by decide +kernel) sStr (fun _ => rfl) (fun env h => by cases env; cases h; kernel_rfl)) sssNil) (sssCons (ssIf (tsCmp (sName (i := 9) rfl (by decide +kernel)) sStr) (sssCons (ssAdd (j := 4) rfl (by decide +kernel) sStr (fun _ => rfl) (fun env h => by cases env; cases h; kernel_rfl)) sssNil) (sssCons (ssIf (tsCmp (sIdx (SoundE.b (sName (i := 9) rfl (by decide +kernel))) sInt) sStr) (sssCons (ssAsg (i := 9) rfl (fun e => absurd rfl e) (sBin sStr (sSlice (SoundE.b (sName (i := 9) rfl (by decide +kernel))) (spSome sInt) spNone spNone))) sssNil) (sssCons (ssIf (tsCmp (sIdx (SoundE.b (sName (i := 9) rfl (by decide +kernel))) sInt) (sTup (ssCons sStr (ssCons sStr ssNil se_Constant) se_Constant))) (sssCons (ssAsg (i := 9) rfl (fun e => absurd rfl e) (sBin sStr (sName (i := 9) rfl (by decide +kernel)))) sssNil) sssNil) sssNil)) (sssCons (ssAdd (j := 4) rfl (by decide +kernel) (sFmt (sName (i := 9) rfl (by decide +kernel))) (fun _ => rfl) (fun env h => by cases env; cases h; kernel_rfl)) sssNil))) sssNil)) sssNil)))))) sssNil))))) (sssCons (ssAdd (j := 4) rfl (by decide +kernel) (sCallN G.toGlOk (call_escape G) (by kernel_rfl) (by decide +kernel) (fun _ _ => ⟨_, _, rfl⟩) (ssCons (sName (i := 7) rfl (by decide +kernel)) ssNil se_Name)) (fun _ => rfl) (fun env h => by cases env; cases h; kernel_rfl)) sssNil)) sssNil)) sssNil)) sssNil)))) (sssCons (ssAssert (tsCmp (sName (i := 5) rfl (by decide +kernel)) (sName (i := 6) rfl (by decide +kernel)))) (sssCons (ssRetOwn (i := 3) rfl (by decide +kernel)) sssNil))))))
noncomputable def f_translate : List V → Option V := fnOf 10 (bdN 3) m_translate
theorem call_translate {g : Gl} (G : GlT g) : CallOk g "_translate" 2 f_translate :=
  callOkB (ft := (ft_translate g)) (params := paramsAt 7) (body := bodyAt 7) G.toGlOk ["pat", "STAR", "QUESTION_MARK"] 10 (G.fn 7 (by decide)) rfl (by kernel_rfl) (sound_translate G) (fun fd h1 h2 h3 => soundBd_plain fun vals hv => by
    obtain ⟨nm, qn, pr, bd, sc, gl, cl, df, kd, dc, pm, an, cd, ct, bi⟩ := fd
    simp only at h1 h2 h3
    subst h1 h2 h3
    obtain _ | ⟨v0, vals⟩ := vals
    · cases hv
    obtain _ | ⟨v1, vals⟩ := vals
    · cases hv
    obtain _ | ⟨v2, vals⟩ := vals
    · cases hv
    obtain _ | ⟨v, vals⟩ := vals
    · rfl
    · simp at hv) (fun a fd h1 h2 c hc => by cases hc; exact G.tcode a fd h1 h2)

end Mine
end

noncomputable section
open PySem PySem.W PyProof.Rows
set_option maxRecDepth 100000
set_option maxHeartbeats 4000000
namespace Mine

noncomputable def ft_law : FT := { scope := scopeAt 34, tbl := [("script", .cell, false), ("items", .cell, false), ("words", .cell, false), ("seeds", .cell, false), ("k", .local, false), ("cells", .local, false), ("drawn", .local, true), ("due", .local, true), ("digits", .local, false), ("pieces", .local, false), ("slashes", .local, false), ("target", .local, false), ("root", .local, false), ("heads", .local, false), ("tails", .local, false), ("cell", .local, false), ("names", .local, false), ("path", .local, false), ("top", .local, false), ("row", .local, false), ("step", .local, false)] }
noncomputable def scfc_law_1 : Scope := { kind := .function, names := [(".0", .local), ("k", .local), ("abs", .globalImplicit), ("sum", .globalImplicit), ("script", .free), ("seeds", .free)], isGenerator := false, isCoroutine := false, more := [] }
noncomputable def fc_law_1 : FT := { scope := relabelS scfc_law_1 ft_law.scope, tbl := [("script", .cell, false), ("seeds", .cell, false), ("k", .local, false)], wc := false }
noncomputable def scfc_law_2 : Scope := { kind := .function, names := [(".0", .local), ("n", .local), ("items", .free)], isGenerator := false, isCoroutine := false, more := [] }
noncomputable def fc_law_2 : FT := { scope := relabelS scfc_law_2 ft_law.scope, tbl := [("items", .cell, false), ("n", .local, false)], wc := false }
noncomputable def scfc_law_3 : Scope := { kind := .function, names := [(".0", .local), ("n", .local), ("words", .free)], isGenerator := false, isCoroutine := false, more := [] }
noncomputable def fc_law_3 : FT := { scope := relabelS scfc_law_3 ft_law.scope, tbl := [("words", .cell, false), ("n", .local, false)], wc := false }
noncomputable def scfc_law_4 : Scope := { kind := .function, names := [(".0", .local), ("piece", .local)], isGenerator := false, isCoroutine := false, more := [] }
noncomputable def fc_law_4 : FT := { scope := relabelS scfc_law_4 ft_law.scope, tbl := [("piece", .local, false)], wc := true }
noncomputable def scfc_law_5 : Scope := { kind := .function, names := [(".0", .local), ("tail", .local), ("_translate", .globalImplicit)], isGenerator := false, isCoroutine := false, more := [] }
noncomputable def fc_law_5 : FT := { scope := relabelS scfc_law_5 ft_law.scope, tbl := [("tail", .local, false)], wc := true }
noncomputable def scfc_law_6 : Scope := { kind := .function, names := [(".0", .local), ("name", .local)], isGenerator := false, isCoroutine := false, more := [] }
noncomputable def fc_law_6 : FT := { scope := relabelS scfc_law_6 ft_law.scope, tbl := [("name", .local, false)], wc := true }
noncomputable def scfc_law_7 : Scope := { kind := .function, names := [(".0", .local), ("parts", .cell), ("range", .globalImplicit), ("len", .globalImplicit)], isGenerator := false, isCoroutine := false, more := [] }
noncomputable def fc_law_7 : FT := { scope := relabelS scfc_law_7 ft_law.scope, tbl := [("parts", .cell, false)], wc := true }
noncomputable def scfc_law_8 : Scope := { kind := .function, names := [(".0", .local), ("j", .local), ("parts", .free)], isGenerator := false, isCoroutine := false, more := [] }
noncomputable def fc_law_8 : FT := { scope := relabelS scfc_law_8 fc_law_7.scope, tbl := [("parts", .cell, false), ("j", .local, false)], wc := false }
noncomputable def scfc_law_9 : Scope := { kind := .function, names := [(".0", .local), ("n", .local), ("words", .free)], isGenerator := false, isCoroutine := false, more := [] }
noncomputable def fc_law_9 : FT := { scope := relabelS scfc_law_9 ((ft_law.rel 6 "drawn").rel 7 "due").scope, tbl := [("words", .cell, false), ("n", .local, false)], wc := false }
noncomputable def scfc_law_10 : Scope := { kind := .function, names := [(".0", .local), ("name", .local)], isGenerator := false, isCoroutine := false, more := [] }
noncomputable def fc_law_10 : FT := { scope := relabelS scfc_law_10 ((ft_law.rel 6 "drawn").rel 7 "due").scope, tbl := [("name", .local, false)], wc := true }
noncomputable def scfc_law_11 : Scope := { kind := .function, names := [(".0", .local), ("name", .local), ("none", .local)], isGenerator := false, isCoroutine := false, more := [] }
noncomputable def fc_law_11 : FT := { scope := relabelS scfc_law_11 ((ft_law.rel 6 "drawn").rel 7 "due").scope, tbl := [("name", .local, false), ("none", .local, false)], wc := true }
noncomputable def m_law : Sig → Option (Fl × Sig) := (sSeq (sAsg 1 (eLst (esCons (eTup (esCons (eStr "") (esCons (eLst esNil) esNil))) (esCons (eTup (esCons (eStr "*") (esCons (eLst (esCons (eStr "*") esNil)) esNil))) (esCons (eTup (esCons (eStr "?") (esCons (eLst (esCons (eStr "ab.-^\\") esNil)) esNil))) (esCons (eTup (esCons (eStr "a") (esCons (eLst (esCons (eStr "a") esNil)) esNil))) (esCons (eTup (esCons (eStr "b") (esCons (eLst (esCons (eStr "b") esNil)) esNil))) (esCons (eTup (esCons (eStr ".") (esCons (eLst (esCons (eStr ".") esNil)) esNil))) (esCons (eTup (esCons (eStr "-") (esCons (eLst (esCons (eStr "-") esNil)) esNil))) (esCons (eTup (esCons (eStr "[!a]") (esCons (eLst (esCons (eStr "b.-^\\") esNil)) esNil))) (esCons (eTup (esCons (eStr "[a-b]") (esCons (eLst (esCons (eStr "ab") esNil)) esNil))) (esCons (eTup (esCons (eStr "[b-a]") (esCons (eLst (esCons (eStr "") esNil)) esNil))) (esCons (eTup (esCons (eStr "[b-a!a]") (esCons (eLst (esCons (eStr "b.-^\\") esNil)) esNil))) (esCons (eTup (esCons (eStr "[!b-a]") (esCons (eLst (esCons (eStr "ab.-^\\") esNil)) esNil))) (esCons (eTup (esCons (eStr "[--.]") (esCons (eLst (esCons (eStr "-.") esNil)) esNil))) (esCons (eTup (esCons (eStr "[a-]") (esCons (eLst (esCons (eStr "a-") esNil)) esNil))) (esCons (eTup (esCons (eStr "[!.-]") (esCons (eLst (esCons (eStr "ab^\\") esNil)) esNil))) (esCons (eTup (esCons (eStr "[]-a]") (esCons (eLst (esCons (eStr "^a") esNil)) esNil))) (esCons (eTup (esCons (eStr "[!-b-a]") (esCons (eLst (esCons (eStr "ab.^\\") esNil)) esNil))) (esCons (eTup (esCons (eStr "[^\\]") (esCons (eLst (esCons (eStr "^\\") esNil)) esNil))) esNil)))))))))))))))))))) (sSeq (sAsg 2 (eLst (esCons (eStr "a") (esCons (eStr "b") (esCons (eStr "ab") (esCons (eStr "..") (esCons (eStr "a.") (esCons (eStr "-b") (esCons (eStr "") (esCons (eStr ".") (esCons (eStr "^") (esCons (eStr "a\\") esNil)))))))))))) (sSeq (sAsg 3 (eLst (esCons (eInt 724) (esCons (eInt 11) (esCons (eInt 33556) (esCons (eInt 192) (esCons (eInt 428) (esCons (eInt 8) (esCons (eInt 72) (esCons (eInt 161) (esCons (eInt 423) (esCons (eInt 105) esNil)))))))))))) (sSeq (sAsgC 5 (eComp [0, 3] 1 (iRange (esCons (eInt 10) esNil)) (aName 2) gNil (eCallV fAbs (esCons (eBin .Add (eCallV fSum (esCons (eSlice (eName 0) (eName 2) (eInt 63) (eInt 10)) esNil)) (eIdx (eName 1) (eName 2))) esNil)))) (sSeq (sOwn2 ft_law 6 7) (sSeq (sFor (iRange (esCons (eInt 4) esNil)) (aName 4) (sSeq (sAsg 8 (eIf (tCmp .Lt (eName 4) (eInt 3)) (eCallV f_law_digits (esCons (eIdx (eName 5) (eName 4)) (esCons (eInt 360) (esCons (eInt 2) esNil)))) (eLst (esCons (eInt 1) esNil)))) (sSeq (sAsgC 9 (eComp [1] 1 (iSeq (eName 8)) (aName 1) gNil (eIf (tCmp .GtE (eName 1) (eInt 324)) (eTup (esCons (eStr "..") (esCons (eLst esNil) esNil))) (eTup (esCons (eBin .Add (eIdx (eIdx (eName 0) (eBin .Mod (eName 1) (eInt 18))) (eInt 0)) (eIdx (eIdx (eName 0) (eBin .FloorDiv (eName 1) (eInt 18))) (eInt 0))) (esCons (eBin .Add (eIdx (eIdx (eName 0) (eBin .Mod (eName 1) (eInt 18))) (eInt 1)) (eIdx (eIdx (eName 0) (eBin .FloorDiv (eName 1) (eInt 18))) (eInt 1))) esNil)))))) (sSeq (sAsg 9 (eIf (tCmp .NotEq (eCallV f_law_stay (esCons (eName 9) esNil)) (eLst esNil)) (eName 9) (eBin .Add (eName 9) (eLst (esCons (eIdx (eName 1) (eInt 1)) esNil))))) (sSeq (sAsg 10 (eIdx (eLst (esCons (eInt 0) (esCons (eInt 0) (esCons (eInt 0) (esCons (eInt 0) (esCons (eInt 1) (esCons (eInt 1) (esCons (eInt 1) (esCons (eInt 2) esNil))))))))) (eBin .Mod (eIdx (eName 5) (eBin .Add (eName 4) (eInt 3))) (eInt 8)))) (sSeq (sAsgC 11 (eComp [2] 1 (iSeq (eCallV f_law_digits (esCons (eBin .FloorDiv (eIdx (eName 5) (eBin .Add (eName 4) (eInt 3))) (eInt 8)) (esCons (eInt 10) (esCons (eInt 2) esNil))))) (aName 1) gNil (eIdx (eName 0) (eName 1)))) (sSeq (sAsgT (eCallV f_law_climb (esCons (eCallV f_normpath (esCons (eCallV f_join (esCons (eStr "/.") (esStar (eComp [] 1 (iSeq (eName 9)) (aName 0) gNil (eIdx (eName 0) (eInt 0)))))) esNil)) esNil)) (aTup 3 (asCons (aName 12) (asCons (aName 13) (asCons (aName 14) asNil))))) (sSeq (sApp 6 (eTup (esCons (eName 12) (esCons (eComp [] 1 (iSeq (eName 14)) (aName 0) gNil (eCallV f_translate (esCons (eName 0) (esCons eNone (esCons (eStr ".") esNil))))) (esCons (eCallV f_join (esCons (eBin .Add (eBin .Mult (eStr "/") (eName 10)) (eStr ".")) (esStar (eName 11)))) esNil))))) (sSeq (sApp 7 (eTup (esCons (eCallV f_law_stay (esCons (eName 9) esNil)) (esCons (eName 10) (esCons (eComp [] 1 (iSeq (eName 11)) (aName 0) gNil (eTup (esCons (eName 0) (esCons (eLst esNil) esNil)))) esNil))))) (sSeq (sIf (tCmp .NotEq (eComp [] 1 (iSeq (eIdx (eIdx (eNameL 6) (eName 4)) (eInt 1))) (aName 0) (tCmp .NotEq (eComp [0] 1 (iRange (esCons (eInt 1) (esCons (eLen (eName 0)) esNil))) (aName 1) (tCmp .Eq (eSlice (eName 0) (eBin .Sub (eName 1) (eInt 1)) (eBin .Add (eName 1) (eInt 1)) eNone) (eLst (esCons eNone (esCons eNone esNil)))) (eName 1)) (eLst esNil)) (eName 0)) (eLst esNil)) (sSeq (sRet (eBool false)) sNil) sNil) sNil)))))))))) (sRel ft_law 6 (sRel (ft_law.rel 6 "drawn") 7 (sSeq (sFor (iSeq (eSlice (eName 5) (eInt 7) eNone eNone)) (aName 15) (sSeq (sAsgC 16 (eComp [2] 1 (iSeq (eCallV f_law_digits (esCons (eName 15) (esCons (eInt 10) (esCons (eInt 3) esNil))))) (aName 1) gNil (eIdx (eName 0) (eName 1)))) (sSeq (sAsgW [17, 18, 19] (eTup (esCons (eCallV f_normpath (esCons (eCallV f_join (esCons (eStr "/.") (esStar (eName 16)))) esNil)) (esCons (eStr "/") (esCons (eCallV f_law_stay (esCons (eComp [] 1 (iSeq (eName 16)) (aName 0) gNil (eTup (esCons (eName 0) (esCons (eLst esNil) esNil)))) esNil)) esNil))))) (sSeq (sFor (iRange (esCons (eInt 5) esNil)) (aName 20) (sSeq (sIf (tCmp .NotEq (eName 17) (eIf (tCmp .Eq (eName 18) (eStr "")) (eStr "") (eBin .Add (eName 18) (eMeth fJoin (eStr "/") (esCons (eComp [] 2 (iSeq (eName 19)) (aTup 2 (asCons (aName 0) (asCons (aName 1) asNil))) gNil (eName 0)) esNil))))) (sSeq (sRet (eBool false)) sNil) sNil) (sSeq (sIf (tAnd (tCmp .NotEq (eName 17) (eStr "")) (tAnd (tCmp .Lt (eName 20) (eInt 4)) (tConst true))) (sSeq (sAsg 17 (eCallV f_law_moved (esCons (eName 17) (esCons (eName 6) esNil)))) (sSeq (sAsgT (eCallV f_law_next (esCons (eName 18) (esCons (eName 19) (esCons (eName 7) esNil)))) (aTup 2 (asCons (aName 18) (asCons (aName 19) asNil)))) sNil)) sNil) sNil))) sNil)))) (sSeq (sRet (eBool true)) sNil))))))))))
theorem sound_law {g : Gl} (G : GlT g) : SoundSS g 4 ft_law (bodyAt 34) m_law := (sssCons (ssAsg (i := 1) rfl (fun _ => ⟨rfl, rfl⟩) (sLst (ssCons (sTup (ssCons sStr (ssCons (sLst ssNil) ssNil se_List) se_Constant)) (ssCons (sTup (ssCons sStr (ssCons (sLst (ssCons sStr ssNil se_Constant)) ssNil se_List) se_Constant)) (ssCons (sTup (ssCons sStr (ssCons (sLst (ssCons sStr ssNil se_Constant)) ssNil se_List) se_Constant)) (ssCons (sTup (ssCons sStr (ssCons (sLst (ssCons sStr ssNil se_Constant)) ssNil se_List) se_Constant)) (ssCons (sTup (ssCons sStr (ssCons (sLst (ssCons sStr ssNil se_Constant)) ssNil se_List) se_Constant)) (ssCons (sTup (ssCons sStr (ssCons (sLst (ssCons sStr ssNil se_Constant)) ssNil se_List) se_Constant)) (ssCons (sTup (ssCons sStr (ssCons (sLst (ssCons sStr ssNil se_Constant)) ssNil se_List) se_Constant)) (ssCons (sTup (ssCons sStr (ssCons (sLst (ssCons sStr ssNil se_Constant)) ssNil se_List) se_Constant)) (ssCons (sTup (ssCons sStr (ssCons (sLst (ssCons sStr ssNil se_Constant)) ssNil se_List) se_Constant)) (ssCons (sTup (ssCons sStr (ssCons (sLst (ssCons sStr ssNil se_Constant)) ssNil se_List) se_Constant)) (ssCons (sTup (ssCons sStr (ssCons (sLst (ssCons sStr ssNil se_Constant)) ssNil se_List) se_Constant)) (ssCons (sTup (ssCons sStr (ssCons (sLst (ssCons sStr ssNil se_Constant)) ssNil se_List) se_Constant)) (ssCons (sTup (ssCons sStr (ssCons (sLst (ssCons sStr ssNil se_Constant)) ssNil se_List) se_Constant)) (ssCons (sTup (ssCons sStr (ssCons (sLst (ssCons sStr ssNil se_Constant)) ssNil se_List) se_Constant)) (ssCons (sTup (ssCons sStr (ssCons (sLst (ssCons sStr ssNil se_Constant)) ssNil se_List) se_Constant)) (ssCons (sTup (ssCons sStr (ssCons (sLst (ssCons sStr ssNil se_Constant)) ssNil se_List) se_Constant)) (ssCons (sTup (ssCons sStr (ssCons (sLst (ssCons sStr ssNil se_Constant)) ssNil se_List) se_Constant)) (ssCons (sTup (ssCons sStr (ssCons (sLst (ssCons sStr ssNil se_Constant)) ssNil se_List) se_Constant)) ssNil se_Tuple) se_Tuple) se_Tuple) se_Tuple) se_Tuple) se_Tuple) se_Tuple) se_Tuple) se_Tuple) se_Tuple) se_Tuple) se_Tuple) se_Tuple) se_Tuple) se_Tuple) se_Tuple) se_Tuple) se_Tuple))) (sssCons (ssAsg (i := 2) rfl (fun _ => ⟨rfl, rfl⟩) (sLst (ssCons sStr (ssCons sStr (ssCons sStr (ssCons sStr (ssCons sStr (ssCons sStr (ssCons sStr (ssCons sStr (ssCons sStr (ssCons sStr ssNil se_Constant) se_Constant) se_Constant) se_Constant) se_Constant) se_Constant) se_Constant) se_Constant) se_Constant) se_Constant))) (sssCons (ssAsg (i := 3) rfl (fun _ => ⟨rfl, rfl⟩) (sLst (ssCons sInt (ssCons sInt (ssCons sInt (ssCons sInt (ssCons sInt (ssCons sInt (ssCons sInt (ssCons sInt (ssCons sInt (ssCons sInt ssNil se_Constant) se_Constant) se_Constant) se_Constant) se_Constant) se_Constant) se_Constant) se_Constant) se_Constant) se_Constant))) (sssCons (ssAsgC (fc := fc_law_1) (i := 5) 1 (compOk (ft := ft_law) (scope := scfc_law_1) (fc := fc_law_1) (is := [0, 3]) rfl rfl (by decide +kernel)) rfl (siRange G.toGlB rfl (by decide +kernel) (fun _ _ => ⟨_, _, rfl, rfl⟩) (ssCons sInt ssNil se_Constant)) (saName (i := 2) rfl (fun e => absurd rfl e)) sgNil (sCallV G.toGlB (.tail _ (.head _)) (by decide +kernel) (by decide +kernel) rfl (fun _ _ => ⟨_, _, rfl, rfl⟩) vAbs (ssCons (sBin (sCallV G.toGlB (.tail _ (.tail _ (.head _))) (by decide +kernel) (by decide +kernel) rfl (fun _ _ => ⟨_, _, rfl, rfl⟩) vSum (ssCons (sSlice (SoundE.b (sName (i := 0) rfl (by decide +kernel))) (spSome (sName (i := 2) rfl (by decide +kernel))) (spSome sInt) (spSome sInt)) ssNil se_Subscript)) (sIdx (SoundE.b (sName (i := 1) rfl (by decide +kernel))) (sName (i := 2) rfl (by decide +kernel)))) ssNil se_BinOp)) (fun env h => by cases env; cases h; kernel_rfl)) (sssCons (ssOwn2 (i := 6) (j := 7) rfl rfl (fun env h => by cases env; cases h; kernel_rfl)) (sssCons (ssFor (siRange G.toGlB rfl (by decide +kernel) (fun _ _ => ⟨_, _, rfl, rfl⟩) (ssCons sInt ssNil se_Constant)) (saName (i := 4) rfl (fun e => absurd rfl e)) (sssCons (ssAsg (i := 8) rfl (fun e => absurd rfl e) (sIfExp (tsCmp (sName (i := 4) rfl (by decide +kernel)) sInt) (sCallN G.toGlOk (call_law_digits G) (by decide +kernel) (by decide +kernel) (fun _ _ => ⟨_, _, rfl⟩) (ssCons (sIdx (SoundE.b (sName (i := 5) rfl (by decide +kernel))) (sName (i := 4) rfl (by decide +kernel))) (ssCons sInt (ssCons sInt ssNil se_Constant) se_Constant) se_Subscript)) (sLst (ssCons sInt ssNil se_Constant)))) (sssCons (ssAsgC (fc := fc_law_2) (i := 9) 1 (compOk (ft := ft_law) (scope := scfc_law_2) (fc := fc_law_2) (is := [1]) rfl rfl (by decide +kernel)) rfl (siSeq (sName (i := 8) rfl (by decide +kernel))) (saName (i := 1) rfl (fun e => absurd rfl e)) sgNil (sIfExp (tsCmp (sName (i := 1) rfl (by decide +kernel)) sInt) (sTup (ssCons sStr (ssCons (sLst ssNil) ssNil se_List) se_Constant)) (sTup (ssCons (sBin (sIdx (SoundE.b (sIdx (SoundE.b (sName (i := 0) rfl (by decide +kernel))) (sBin (sName (i := 1) rfl (by decide +kernel)) sInt))) sInt) (sIdx (SoundE.b (sIdx (SoundE.b (sName (i := 0) rfl (by decide +kernel))) (sBin (sName (i := 1) rfl (by decide +kernel)) sInt))) sInt)) (ssCons (sBin (sIdx (SoundE.b (sIdx (SoundE.b (sName (i := 0) rfl (by decide +kernel))) (sBin (sName (i := 1) rfl (by decide +kernel)) sInt))) sInt) (sIdx (SoundE.b (sIdx (SoundE.b (sName (i := 0) rfl (by decide +kernel))) (sBin (sName (i := 1) rfl (by decide +kernel)) sInt))) sInt)) ssNil se_BinOp) se_BinOp))) (fun env h => by cases env; cases h; kernel_rfl)) (sssCons (ssAsg (i := 9) rfl (fun e => absurd rfl e) (sIfExp (tsCmp (sCallN G.toGlOk (call_law_stay G) (by decide +kernel) (by decide +kernel) (fun _ _ => ⟨_, _, rfl⟩) (ssCons (sName (i := 9) rfl (by decide +kernel)) ssNil se_Name)) (sLst ssNil)) (sName (i := 9) rfl (by decide +kernel)) (sBin (sName (i := 9) rfl (by decide +kernel)) (sLst (ssCons (sIdx (SoundE.b (sName (i := 1) rfl (by decide +kernel))) sInt) ssNil se_Subscript))))) (sssCons (ssAsg (i := 10) rfl (fun e => absurd rfl e) (sIdx (SoundE.b (sLst (ssCons sInt (ssCons sInt (ssCons sInt (ssCons sInt (ssCons sInt (ssCons sInt (ssCons sInt (ssCons sInt ssNil se_Constant) se_Constant) se_Constant) se_Constant) se_Constant) se_Constant) se_Constant) se_Constant))) (sBin (sIdx (SoundE.b (sName (i := 5) rfl (by decide +kernel))) (sBin (sName (i := 4) rfl (by decide +kernel)) sInt)) sInt))) (sssCons (ssAsgC (fc := fc_law_3) (i := 11) 1 (compOk (ft := ft_law) (scope := scfc_law_3) (fc := fc_law_3) (is := [2]) rfl rfl (by decide +kernel)) rfl (siSeq (sCallN G.toGlOk (call_law_digits G) (by decide +kernel) (by decide +kernel) (fun _ _ => ⟨_, _, rfl⟩) (ssCons (sBin (sIdx (SoundE.b (sName (i := 5) rfl (by decide +kernel))) (sBin (sName (i := 4) rfl (by decide +kernel)) sInt)) sInt) (ssCons sInt (ssCons sInt ssNil se_Constant) se_Constant) se_BinOp))) (saName (i := 1) rfl (fun e => absurd rfl e)) sgNil (sIdx (SoundE.b (sName (i := 0) rfl (by decide +kernel))) (sName (i := 1) rfl (by decide +kernel))) (fun env h => by cases env; cases h; kernel_rfl)) (sssCons (ssAsgT (sCallN G.toGlOk (call_law_climb G) (by decide +kernel) (by decide +kernel) (fun _ _ => ⟨_, _, rfl⟩) (ssCons (sCallN G.toGlOk (call_normpath G) (by decide +kernel) (by decide +kernel) (fun _ _ => ⟨_, _, rfl⟩) (ssCons (sCallN G.toGlOk (call_join G) (by decide +kernel) (by decide +kernel) (fun _ _ => ⟨_, _, rfl⟩) (ssCons sStr (ssStar (sComp (fc := fc_law_4) 1 (compOk (ft := ft_law) (scope := scfc_law_4) (fc := fc_law_4) (is := []) rfl rfl (by decide +kernel)) (siSeq (sName (i := 9) rfl (by decide +kernel))) (saName (i := 0) rfl (fun e => absurd rfl e)) sgNil (sIdx (SoundE.b (sName (i := 0) rfl (by decide +kernel))) sInt))) se_Constant)) ssNil se_Call)) ssNil se_Call)) (saTup (sasCons (saName (i := 12) rfl (fun e => absurd rfl e)) (sasCons (saName (i := 13) rfl (fun e => absurd rfl e)) (sasCons (saName (i := 14) rfl (fun e => absurd rfl e)) sasNil (fun _ => rfl)) (fun _ => rfl)) (fun _ => rfl)) (fun _ => rfl) (fun _ => rfl)) (fun _ => rfl) (fun env h => by cases env; cases h; kernel_rfl)) (sssCons (ssApp (i := 6) rfl rfl (by decide +kernel) (sTup (ssCons (sName (i := 12) rfl (by decide +kernel)) (ssCons (sComp (fc := fc_law_5) 1 (compOk (ft := ft_law) (scope := scfc_law_5) (fc := fc_law_5) (is := []) rfl rfl (by decide +kernel)) (siSeq (sName (i := 14) rfl (by decide +kernel))) (saName (i := 0) rfl (fun e => absurd rfl e)) sgNil (sCallN G.toGlOk (call_translate G) (by decide +kernel) (by decide +kernel) (fun _ _ => ⟨_, _, rfl⟩) (ssCons (sName (i := 0) rfl (by decide +kernel)) (ssCons sNone (ssCons sStr ssNil se_Constant) se_Constant) se_Name))) (ssCons (sCallN G.toGlOk (call_join G) (by decide +kernel) (by decide +kernel) (fun _ _ => ⟨_, _, rfl⟩) (ssCons (sBin (sBin sStr (sName (i := 10) rfl (by decide +kernel))) sStr) (ssStar (sName (i := 11) rfl (by decide +kernel))) se_BinOp)) ssNil se_Call) se_ListComp) se_Name)) (fun _ => rfl) rfl (fun env h => by cases env; cases h; kernel_rfl)) (sssCons (ssApp (i := 7) rfl rfl (by decide +kernel) (sTup (ssCons (sCallN G.toGlOk (call_law_stay G) (by decide +kernel) (by decide +kernel) (fun _ _ => ⟨_, _, rfl⟩) (ssCons (sName (i := 9) rfl (by decide +kernel)) ssNil se_Name)) (ssCons (sName (i := 10) rfl (by decide +kernel)) (ssCons (sComp (fc := fc_law_6) 1 (compOk (ft := ft_law) (scope := scfc_law_6) (fc := fc_law_6) (is := []) rfl rfl (by decide +kernel)) (siSeq (sName (i := 11) rfl (by decide +kernel))) (saName (i := 0) rfl (fun e => absurd rfl e)) sgNil (sTup (ssCons (sName (i := 0) rfl (by decide +kernel)) (ssCons (sLst ssNil) ssNil se_List) se_Name))) ssNil se_ListComp) se_Name) se_Call)) (fun _ => rfl) rfl (fun env h => by cases env; cases h; kernel_rfl)) (sssCons (ssIf (tsCmp (sComp (fc := fc_law_7) 1 (compOk (ft := ft_law) (scope := scfc_law_7) (fc := fc_law_7) (is := []) rfl rfl (by decide +kernel)) (siSeq (sIdx (SoundE.b (sIdx (sNameB (i := 6) rfl (by decide +kernel)) (sName (i := 4) rfl (by decide +kernel)))) sInt)) (saName (i := 0) rfl (fun _ => ⟨rfl, rfl⟩)) (sgOne (tsCmp (sComp (fc := fc_law_8) 1 (compOk (ft := fc_law_7) (scope := scfc_law_8) (fc := fc_law_8) (is := [0]) rfl rfl (by decide +kernel)) (siRange G.toGlB rfl (by decide +kernel) (fun _ _ => ⟨_, _, rfl, rfl⟩) (ssCons sInt (ssCons (sLen G.toGlB rfl (by decide +kernel) (SoundE.b (sName (i := 0) rfl (by decide +kernel)))) ssNil se_Call) se_Constant)) (saName (i := 1) rfl (fun e => absurd rfl e)) (sgOne (tsCmp (sSlice (SoundE.b (sName (i := 0) rfl (by decide +kernel))) (spSome (sBin (sName (i := 1) rfl (by decide +kernel)) sInt)) (spSome (sBin (sName (i := 1) rfl (by decide +kernel)) sInt)) spNone) (sLst (ssCons sNone (ssCons sNone ssNil se_Constant) se_Constant)))) (sName (i := 1) rfl (by decide +kernel))) (sLst ssNil))) (sName (i := 0) rfl (by decide +kernel))) (sLst ssNil)) (sssCons (ssRet sBool) sssNil) sssNil) sssNil)))))))))) (sssRel (i := 6) (x := "drawn") rfl (sssRel (i := 7) (x := "due") rfl (sssCons (ssFor (siSeq (sSlice (SoundE.b (sName (i := 5) rfl (by decide +kernel))) (spSome sInt) spNone spNone)) (saName (i := 15) rfl (fun e => absurd rfl e)) (sssCons (ssAsgC (fc := fc_law_9) (i := 16) 1 (compOk (ft := ((ft_law.rel 6 "drawn").rel 7 "due")) (scope := scfc_law_9) (fc := fc_law_9) (is := [2]) rfl rfl (by decide +kernel)) rfl (siSeq (sCallN G.toGlOk (call_law_digits G) (by decide +kernel) (by decide +kernel) (fun _ _ => ⟨_, _, rfl⟩) (ssCons (sName (i := 15) rfl (by decide +kernel)) (ssCons sInt (ssCons sInt ssNil se_Constant) se_Constant) se_Name))) (saName (i := 1) rfl (fun e => absurd rfl e)) sgNil (sIdx (SoundE.b (sName (i := 0) rfl (by decide +kernel))) (sName (i := 1) rfl (by decide +kernel))) (fun env h => by cases env; cases h; kernel_rfl)) (sssCons (ssAsgW [("path", 17), ("top", 18), ("row", 19)] (by intro p hp; simp only [List.mem_cons, List.not_mem_nil, or_false] at hp; rcases hp with rfl | rfl | rfl <;> rfl) (sTup (ssCons (sCallN G.toGlOk (call_normpath G) (by decide +kernel) (by decide +kernel) (fun _ _ => ⟨_, _, rfl⟩) (ssCons (sCallN G.toGlOk (call_join G) (by decide +kernel) (by decide +kernel) (fun _ _ => ⟨_, _, rfl⟩) (ssCons sStr (ssStar (sName (i := 16) rfl (by decide +kernel))) se_Constant)) ssNil se_Call)) (ssCons sStr (ssCons (sCallN G.toGlOk (call_law_stay G) (by decide +kernel) (by decide +kernel) (fun _ _ => ⟨_, _, rfl⟩) (ssCons (sComp (fc := fc_law_10) 1 (compOk (ft := ((ft_law.rel 6 "drawn").rel 7 "due")) (scope := scfc_law_10) (fc := fc_law_10) (is := []) rfl rfl (by decide +kernel)) (siSeq (sName (i := 16) rfl (by decide +kernel))) (saName (i := 0) rfl (fun e => absurd rfl e)) sgNil (sTup (ssCons (sName (i := 0) rfl (by decide +kernel)) (ssCons (sLst ssNil) ssNil se_List) se_Name))) ssNil se_ListComp)) ssNil se_Call) se_Constant) se_Call)) (fun _ => rfl) (fun env h => by cases env; cases h; kernel_rfl)) (sssCons (ssFor (siRange G.toGlB rfl (by decide +kernel) (fun _ _ => ⟨_, _, rfl, rfl⟩) (ssCons sInt ssNil se_Constant)) (saName (i := 20) rfl (fun e => absurd rfl e)) (sssCons (ssIf (tsCmp (sName (i := 17) rfl (by decide +kernel)) (sIfExp (tsCmp (sName (i := 18) rfl (by decide +kernel)) sStr) sStr (sBin (sName (i := 18) rfl (by decide +kernel)) (sMeth mJoin vJoin sStr (ssCons (sComp (fc := fc_law_11) 2 (compOk (ft := ((ft_law.rel 6 "drawn").rel 7 "due")) (scope := scfc_law_11) (fc := fc_law_11) (is := []) rfl rfl (by decide +kernel)) (siSeq (sName (i := 19) rfl (by decide +kernel))) (saTup (sasCons (saName (i := 0) rfl (fun e => absurd rfl e)) (sasCons (saName (i := 1) rfl (fun e => absurd rfl e)) sasNil (fun _ => rfl)) (fun _ => rfl)) (fun _ => rfl) (fun _ => rfl)) sgNil (sName (i := 0) rfl (by decide +kernel))) ssNil se_ListComp) (fun _ _ => ⟨_, _, rfl, rfl⟩) (fun _ => rfl) (fun _ => rfl) rfl)))) (sssCons (ssRet sBool) sssNil) sssNil) (sssCons (ssIf (tsBool (tsAndCons (tsCmp (sName (i := 17) rfl (by decide +kernel)) sStr) (tsAndCons (tsCmp (sName (i := 20) rfl (by decide +kernel)) sInt) tsAndNil))) (sssCons (ssAsg (i := 17) rfl (fun e => absurd rfl e) (sCallN G.toGlOk (call_law_moved G) (by decide +kernel) (by decide +kernel) (fun _ _ => ⟨_, _, rfl⟩) (ssCons (sName (i := 17) rfl (by decide +kernel)) (ssCons (sName (i := 6) rfl (by decide +kernel)) ssNil se_Name) se_Name))) (sssCons (ssAsgT (sCallN G.toGlOk (call_law_next G) (by decide +kernel) (by decide +kernel) (fun _ _ => ⟨_, _, rfl⟩) (ssCons (sName (i := 18) rfl (by decide +kernel)) (ssCons (sName (i := 19) rfl (by decide +kernel)) (ssCons (sName (i := 7) rfl (by decide +kernel)) ssNil se_Name) se_Name) se_Name)) (saTup (sasCons (saName (i := 18) rfl (fun e => absurd rfl e)) (sasCons (saName (i := 19) rfl (fun e => absurd rfl e)) sasNil (fun _ => rfl)) (fun _ => rfl)) (fun _ => rfl) (fun _ => rfl)) (fun _ => rfl) (fun env h => by cases env; cases h; kernel_rfl)) sssNil)) sssNil) sssNil))) sssNil)))) (sssCons (ssRet sBool) sssNil))))))))))
noncomputable def f_law : List V → Option V := fnOf 20 (bdN 1) m_law
theorem call_law {g : Gl} (G : GlT g) : CallOk g "law" 5 f_law :=
  callOkB (ft := ft_law) (params := paramsAt 34) (body := bodyAt 34) G.toGlOk ["script"] 20 (G.fn 34 (by decide)) rfl (by decide +kernel) (sound_law G) (fun fd h1 h2 h3 => soundBd_plain fun vals hv => by
    obtain ⟨nm, qn, pr, bd, sc, gl, cl, df, kd, dc, pm, an, cd, ct, bi⟩ := fd
    simp only at h1 h2 h3
    subst h1 h2 h3
    obtain _ | ⟨v0, vals⟩ := vals
    · cases hv
    obtain _ | ⟨v, vals⟩ := vals
    · rfl
    · simp at hv)

end Mine
end

noncomputable section
open PySem PySem.W PyProof.Rows
open Builtin Builtin.Str
set_option maxRecDepth 100000
namespace Mine

/-- the text of these signs -/
noncomputable def S (l : List Nat) : Str := ⟨l.toArray⟩
theorem S_len (l : List Nat) : (S l).length = l.length := by simp [S, Str.length]
theorem S_toList (l : List Nat) : (S l).cps.toList = l := by simp [S]
theorem S_app (a b : List Nat) : S a ++ S b = S (a ++ b) := by
  apply Str.ext'
  simp [S, Str.cps_append]
theorem S_inj {a b : List Nat} (h : S a = S b) : a = b := by
  have := congrArg (fun x => x.cps.toList) h
  simpa [S_toList] using this
theorem S_of (x : Str) : S x.cps.toList = x := by cases x; simp [S]
theorem S_beq (a b : List Nat) : (S a == S b) = decide (a = b) := by
  by_cases h : a = b
  · subst h; simp
  · rw [decide_eq_false h]
    have : S a ≠ S b := fun q => h (S_inj q)
    simpa using this
theorem S_sub (l : List Nat) (i j : Nat) : strSub (S l) i j = S ((l.drop i).take (j - i)) := by
  rw [← S_of (strSub (S l) i j), StrLaws.strSub_toList, S_toList]

/- slices -/
theorem pickL {α : Type} (l : List α) (a k : Nat) : ((List.range k).map (a + ·)).filterMap (l[·]?) = (l.drop a).take k := by
  have := pick_run l.toArray a k
  simp only [List.getElem?_toArray] at this
  exact this
theorem tk1 {α : Type} (l : List α) (b : Nat) : (l.drop 0).take (min b l.length - 0) = l.take b := by
  rw [List.drop_zero, Nat.sub_zero, ← List.take_eq_take_min]
theorem tk2 {α : Type} (l : List α) (a : Nat) : (l.drop (min a l.length)).take (l.length - min a l.length) = l.drop a := by
  rcases Nat.le_total a l.length with h | h
  · rw [Nat.min_eq_left h, List.take_of_length_le (Nat.le_of_eq List.length_drop)]
  · rw [Nat.min_eq_right h, List.drop_length, List.take_nil, List.drop_of_length_le h]
theorem tk3 {α : Type} (l : List α) (a b : Nat) : (l.drop (min a l.length)).take (min b l.length - min a l.length) = (l.drop a).take (b - a) := by
  rcases Nat.le_total a l.length with h | h
  · rw [Nat.min_eq_left h, List.take_eq_take_min, List.take_eq_take_min (i := b - a), List.length_drop]
    rcases Nat.le_total b l.length with h' | h'
    · rw [Nat.min_eq_left h']
    · rw [Nat.min_eq_right h', Nat.min_self, Nat.min_eq_right (Nat.sub_le_sub_right h' a)]
  · rw [Nat.min_eq_right h, List.drop_length, List.take_nil, List.drop_of_length_le h, List.take_nil]
theorem sliceS_is (l : List Nat) (lo hi : Option Int) {a b : Nat} (ha : lo.elim 0 (clipAt l.length) = a) (hb : hi.elim l.length (clipAt l.length) = b) (h : b ≤ l.length) : vSliceS (S l) lo hi none = S ((l.drop a).take (b - a)) := by
  have e : strSliceIndices lo hi 1 (S l).length = (List.range (b - a)).map (a + ·) := by
    show sliceRange (sliceBounds lo hi none (S l).length).1 (sliceBounds lo hi none (S l).length).2.1 1 = _
    rw [S_len, sliceBounds_plain, ha, hb]
    exact sliceRange_one a b
  show (if (1 == (1 : Int) && (strSliceIndices lo hi 1 (S l).length).length == (S l).length) = true then S l else ⟨((strSliceIndices lo hi 1 (S l).length).filterMap ((S l).cps[·]?)).toArray⟩) = _
  rw [e, List.length_map, List.length_range, S_len]
  split
  · rename_i hc
    have hc' : b - a = l.length := beq_iff_eq.mp hc
    have : b = l.length := Nat.le_antisymm h (hc' ▸ Nat.sub_le _ _)
    subst this
    rw [hc', List.Sublist.eq_of_length ((List.take_sublist _ _).trans (List.drop_sublist a l)) (by rw [List.length_take, List.length_drop, hc', Nat.min_self])]
  · have p := pick_run l.toArray a (b - a)
    exact congrArg (fun x => (⟨x.toArray⟩ : Str)) p
theorem slice_to (l : List Nat) (b : Nat) : vSliceS (S l) none (some (b : Int)) none = S (l.take b) := by
  rw [sliceS_is l none (some (b : Int)) (a := 0) rfl (clipAt_nat _ b) (Nat.min_le_right _ _), tk1]
theorem slice_from (l : List Nat) (a : Nat) : vSliceS (S l) (some (a : Int)) none none = S (l.drop a) := by
  rw [sliceS_is l (some (a : Int)) none (b := l.length) (clipAt_nat _ a) rfl (Nat.le_refl _), tk2]
theorem slice_mid (l : List Nat) {a b : Nat} (_ : a ≤ b) : vSliceS (S l) (some (a : Int)) (some (b : Int)) none = S ((l.drop a).take (b - a)) := by
  rw [sliceS_is l (some (a : Int)) (some (b : Int)) (clipAt_nat _ a) (clipAt_nat _ b) (Nat.min_le_right _ _), tk3]

/- the slash -/
noncomputable def sl : Str := S [47]
theorem sl_is : ("/" : Str) = sl := by decide +kernel
theorem starts_sl (l : List Nat) : Txt.startswith (S l) sl = (l.head? == some 47) := by
  unfold Txt.startswith sl
  rw [StrLaws.subAt_eq, S_toList, S_toList, S_len, S_len]
  cases l with
  | nil => rfl
  | cons c r => by_cases h : c = 47 <;> simp [h]
theorem ends_sl (l : List Nat) : Txt.endswith (S l) sl = (l.getLast? == some 47) := by
  unfold Txt.endswith sl
  rw [StrLaws.subAt_eq, S_toList, S_toList, S_len, S_len]
  rcases List.eq_nil_or_concat l with rfl | ⟨r, c, rfl⟩
  · rfl
  · by_cases h : c = 47 <;> simp [h]
theorem at_sl (l : List Nat) (i : Nat) : StrLaws.At (S l) sl (S l).length i ↔ l[i]? = some 47 := by
  have := StrLaws.subAt_one (S l) 47 i
  rw [S_toList] at this
  exact this
theorem rfind_sl (a c : List Nat) (h : 47 ∉ c) : Txt.rfind (S (a ++ 47 :: c)) sl = (a.length : Int) := by
  unfold Txt.rfind
  rcases StrLaws.last_spec (S (a ++ 47 :: c)) sl with ⟨_, h2⟩ | ⟨i, h1, h2, h3⟩
  · exact absurd ((at_sl _ _).mpr (by simp)) (h2 a.length)
  · rw [h1]
    show (i : Int) = _
    rw [at_sl] at h2
    have e1 : ¬ i < a.length := fun q => h3 a.length q ((at_sl _ _).mpr (by simp))
    have e2 : ¬ a.length < i := by
      intro q
      have : c[i - a.length - 1]? = some 47 := by
        rw [List.getElem?_append_right (by omega)] at h2
        have e : i - a.length = (i - a.length - 1) + 1 := by omega
        rw [e, List.getElem?_cons_succ] at h2
        exact h2
      exact h (List.mem_of_getElem? this)
    omega
theorem rstrip_sl (l : List Nat) (h : l.getLast? ≠ some 47) : Txt.rstripChars (S (l ++ [47])) sl = S l := by
  unfold Txt.rstripChars
  rw [PyProof.Rows.stripBy_eq]
  have : stripHi sl.cps.contains true (S (l ++ [47])) (stripLo sl.cps.contains false (S (l ++ [47]))) = l.length := by
    simp only [stripHi, stripLo, if_true, S_len, S_toList]
    rcases List.eq_nil_or_concat l with rfl | ⟨r, c, rfl⟩
    · simp [sl, S]
    · have hc : c ≠ 47 := by intro e; subst e; simp at h
      simp [sl, S, hc]
  rw [this, S_sub]
  simp [stripLo]

/- joining by the slash -/
noncomputable def joinL : List (List Nat) → List Nat
  | [] => []
  | [x] => x
  | x :: y :: r => x ++ 47 :: joinL (y :: r)
theorem joinS : ∀ qs : List (List Nat), Str.join sl (qs.map S) = S (joinL qs)
  | [] => rfl
  | [x] => rfl
  | x :: y :: r => by
    have ih := joinS (y :: r)
    show S x ++ sl ++ Str.join sl ((y :: r).map S) = _
    rw [ih, sl, S_app, S_app]
    simp [joinL]
theorem joinT (qs : List (List Nat)) : Txt.join sl (qs.map S) = S (joinL qs) := by
  unfold Txt.join
  rw [StrLaws.glued_eq_join, joinS]
theorem joinL_cons (x : List Nat) {r : List (List Nat)} (h : r ≠ []) : joinL (x :: r) = x ++ 47 :: joinL r := by
  cases r with
  | nil => exact absurd rfl h
  | cons y r => rfl
theorem cut_unique {a b c d : List Nat} (ha : 47 ∉ a) (hc : 47 ∉ c) (h : a ++ 47 :: b = c ++ 47 :: d) : a = c ∧ b = d := by
  induction a generalizing c with
  | nil =>
    cases c with
    | nil => simpa using h
    | cons y c =>
      simp at h
      exact absurd (List.mem_cons.mpr (.inl h.1)) hc
  | cons x a ih =>
    cases c with
    | nil =>
      simp at h
      exact absurd (List.mem_cons.mpr (.inl h.1.symm)) ha
    | cons y c =>
      simp only [List.cons_append, List.cons.injEq] at h
      obtain ⟨h1, h2⟩ := ih (fun q => ha (.tail _ q)) (fun q => hc (.tail _ q)) h.2
      exact ⟨by rw [h.1, h1], h2⟩
theorem joinL_inj : ∀ {ps qs : List (List Nat)}, ps ≠ [] → qs ≠ [] → (∀ p ∈ ps, 47 ∉ p) → (∀ q ∈ qs, 47 ∉ q) → joinL ps = joinL qs → ps = qs
  | [], _, h, _, _, _, _ => absurd rfl h
  | _, [], _, h, _, _, _ => absurd rfl h
  | [p], [q], _, _, _, _, h => by simpa [joinL] using h
  | [p], q :: q' :: r, _, _, h1, _, h => by
    have : 47 ∈ p := by
      have e : p = q ++ 47 :: joinL (q' :: r) := h
      rw [e]; simp
    exact absurd this (h1 p (.head _))
  | p :: p' :: r, [q], _, _, _, h2, h => by
    have : 47 ∈ q := by
      have e : p ++ 47 :: joinL (p' :: r) = q := h
      rw [← e]; simp
    exact absurd this (h2 q (.head _))
  | p :: p' :: r, q :: q' :: r', _, _, h1, h2, h => by
    obtain ⟨e1, e2⟩ := cut_unique (h1 p (.head _)) (h2 q (.head _)) h
    rw [e1, joinL_inj (List.cons_ne_nil _ _) (List.cons_ne_nil _ _) (fun x hx => h1 x (.tail _ hx)) (fun x hx => h2 x (.tail _ hx)) e2]
theorem split_sl {qs : List (List Nat)} (h : qs ≠ []) (hf : ∀ q ∈ qs, 47 ∉ q) : Txt.split (S (joinL qs)) sl = qs.map S := by
  have e1 := StrLaws.join_split (S (joinL qs)) sl
  have e2 := StrLaws.split_free (S (joinL qs)) 47
  have e3 : 1 ≤ (Txt.split (S (joinL qs)) sl).length := split_pos _ _
  have e4 : Txt.split (S (joinL qs)) sl = ((Txt.split (S (joinL qs)) sl).map (·.cps.toList)).map S := by
    rw [List.map_map]
    conv => lhs; rw [← List.map_id (Txt.split (S (joinL qs)) sl)]
    exact List.map_congr_left fun x _ => (S_of x).symm
  rw [e4] at e1
  rw [joinS] at e1
  rw [e4]
  congr 1
  refine joinL_inj (fun q => ?_) h (fun p hp => ?_) hf (S_inj e1)
  · have := congrArg List.length q
    rw [List.length_map] at this
    rw [this] at e3; exact absurd e3 (by decide)
  · obtain ⟨x, hx, rfl⟩ := List.mem_map.mp hp
    exact e2 x hx
end Mine
end

noncomputable section
open PySem PySem.W PyProof.Rows
open Builtin Builtin.Str
set_option maxRecDepth 100000
namespace Mine

section
variable {σ : Sig} {i j k : Nat}
@[simp] theorem ap_nil : sNil σ = some (.next, σ) := id rfl
@[simp] theorem ap_seq {f h} : sSeq f h σ = (f σ).bind fun p => match p with | (.next, σ') => h σ' | p => some p := id rfl
@[simp] theorem ap_asg {f} : sAsg i f σ = (f σ).map fun d => (.next, σ.set i (some d)) := id rfl
@[simp] theorem ap_asgC {f} : sAsgC i f σ = (f σ).map fun d => (.next, σ.set i (some d)) := id rfl
@[simp] theorem ap_name : eName i σ = σ.getD i none := id rfl
@[simp] theorem ap_nameL : eNameL i σ = match σ.getD i none with | some (.lst l) => some (.lst l) | _ => none := id rfl
@[simp] theorem ap_int {x} : eInt x σ = some (.int x) := id rfl
@[simp] theorem ap_none : eNone σ = some .none := id rfl
@[simp] theorem ap_bool {b} : eBool b σ = some (.bool b) := id rfl
@[simp] theorem ap_str {x} : eStr x σ = if x.length ≤ 1000 then some (.str x) else none := id rfl
@[simp] theorem ap_bin {op f h} : eBin op f h σ = (f σ).bind fun a => (h σ).bind fun b => vBin op a b := id rfl
@[simp] theorem ap_cmp {op f h} : eCmp op f h σ = (f σ).bind fun a => (h σ).bind fun b => (vCmp op a b).map .bool := id rfl
@[simp] theorem ap_tcmp {op f h} : tCmp op f h σ = (f σ).bind fun a => (h σ).bind fun b => vCmp op a b := id rfl
@[simp] theorem ap_tval {f} : tVal f σ = (f σ).bind vTruthy := id rfl
@[simp] theorem ap_tnot {f} : tNot f σ = (f σ).map (!·) := id rfl
@[simp] theorem ap_tand {f h} : tAnd f h σ = (f σ).bind fun b => match b with | true => h σ | false => some false := id rfl
@[simp] theorem ap_tor {f h} : tOr f h σ = (f σ).bind fun b => match b with | true => some true | false => h σ := id rfl
@[simp] theorem ap_tconst {b} : tConst b σ = some b := id rfl
@[simp] theorem ap_eor {f h} : eOr f h σ = (f σ).bind fun a => (vTruthy a).bind fun b => match b with | true => some a | false => h σ := id rfl
@[simp] theorem ap_eif {t f h} : eIf t f h σ = (t σ).bind fun b => match b with | true => f σ | false => h σ := id rfl
@[simp] theorem ap_neg {f} : eNeg f σ = (f σ).bind vNeg := id rfl
@[simp] theorem ap_enil : esNil σ = some [] := id rfl
@[simp] theorem ap_econs {f h} : esCons f h σ = (f σ).bind fun a => (h σ).bind fun b => some (a :: b) := id rfl
@[simp] theorem ap_tup {f} : eTup f σ = (f σ).bind fun l => if l.length ≤ 1000 then some (.tup l) else none := id rfl
@[simp] theorem ap_lst {f} : eLst f σ = (f σ).bind fun l => if l.length ≤ 1000 then some (.lst l) else none := id rfl
@[simp] theorem ap_idx {f h} : eIdx f h σ = (f σ).bind fun a => (h σ).bind fun b => vIdx a b := id rfl
@[simp] theorem ap_slice {f l u st} : eSlice f l u st σ = (f σ).bind fun a => (l σ).bind fun b => (u σ).bind fun c => (st σ).bind fun e => (vPart b).bind fun b => (vPart c).bind fun c => (vPart e).bind fun e => vSlice a b c e := id rfl
@[simp] theorem ap_callV {f h} : eCallV f h σ = (h σ).bind f := id rfl
@[simp] theorem ap_len {f} : eLen f σ = (f σ).bind vLen := id rfl
@[simp] theorem ap_meth {f h q} : eMeth f h q σ = (h σ).bind fun a => match a with | .str x => (q σ).bind fun l => f (.str x :: l) | _ => none := id rfl
@[simp] theorem ap_isstr {b f} : eIsStr b f σ = (f σ).bind fun a => match a with | .str _ => some (.bool b) | _ => none := id rfl
@[simp] theorem ap_sif {t f h} : sIf t f h σ = (t σ).bind fun b => match b with | true => f σ | false => h σ := id rfl
@[simp] theorem ap_ret {f} : sRet f σ = (f σ).map fun d => (.ret d, σ) := id rfl
@[simp] theorem ap_aug {f} : sAug i f σ = (eName i σ).bind fun a => (f σ).bind fun b => (vBin .Add a b).bind fun d => match a with | .lst _ => none | _ => some (.next, σ.set i (some d)) := id rfl
@[simp] theorem ap_app {f} : sApp i f σ = (eNameL i σ).bind fun a => (f σ).bind fun d => match a with | .lst l => if l.length ≤ 1000 then some (.next, σ.set i (some (.lst (l ++ [d])))) else none | _ => none := id rfl
@[simp] theorem ap_pop : sPop i σ = (eNameL i σ).bind fun a => match a with | .lst l => (match l.getLast? with | some (.str _) => some (.next, σ.set i (some (.lst l.dropLast))) | _ => none) | _ => none := id rfl
@[simp] theorem ap_for {it upd body} : sFor it upd body σ = (it σ).bind fun l => forL upd body l σ := id rfl
@[simp] theorem ap_while {n t body} : sWhile n t body σ = whileL t body n σ := id rfl
@[simp] theorem ap_iseq {f} : iSeq f σ = (f σ).bind vSeq := id rfl
@[simp] theorem ap_irange {h} : iRange h σ = (h σ).bind fun l => (vRange l).map fun ns => ns.map .int := id rfl
@[simp] theorem ap_aname {d} : aName i d σ = some (σ.set i (some d)) := id rfl
@[simp] theorem ap_atup {f d} : aTup k f d σ = match d with | .tup l => if l.length = k then f l σ else none | _ => none := id rfl
@[simp] theorem ap_asnil : asNil [] σ = some σ := id rfl
@[simp] theorem ap_ascons {f h d l} : asCons f h (d :: l) σ = (f d σ).bind fun σ => h l σ := id rfl
@[simp] theorem ap_asgT {f h} : sAsgT f h σ = (f σ).bind fun d => (h d σ).map fun σ' => (.next, σ') := id rfl
@[simp] theorem ap_asgW {is f} : sAsgW is f σ = (f σ).bind fun d => match d with | .tup l => if l.length = is.length then (stAll is.reverse l.reverse σ).map fun σ' => (.next, σ') else none | _ => none := id rfl
@[simp] theorem ap_star {f} : esStar f σ = (f σ).bind fun a => match a with | .lst l => some l | _ => none := id rfl
@[simp] theorem ap_listrange {q} : eListRange q σ = (q σ).bind fun l => (vRange l).bind fun ns => if ns.length ≤ 1000 then some (.lst (ns.map .int)) else none := id rfl
@[simp] theorem ap_comp {is it upd t e} : eComp is k it upd t e σ = (it σ).bind fun l => if l.length ≤ 1000 then (compL upd t e l (sigC is k σ)).map .lst else none := id rfl
@[simp] theorem ap_gnil : gNil σ = some true := id rfl
@[simp] theorem ap_stnil : stAll [] [] σ = some σ := id rfl
@[simp] theorem ap_stcons {is d ds} : stAll (i :: is) (d :: ds) σ = stAll is ds (σ.set i (some d)) := id rfl
end
@[simp] theorem ap_own {ft : FT} {i : Nat} {σ : Sig} : sOwn ft i σ = if noBm ft i σ then some (.next, σ.set i (some (.lst []))) else none := id rfl
@[simp] theorem ap_own2 {ft : FT} {i j : Nat} {σ : Sig} : sOwn2 ft i j σ = if noBm ft j σ = true ∧ noBm ft i (σ.set j (some (.lst []))) = true then some (.next, (σ.set j (some (.lst []))).set i (some (.lst []))) else none := id rfl
@[simp] theorem ap_mv {ft : FT} {i j : Nat} {σ : Sig} : sMv ft j i σ = (eNameL i σ).bind fun d => if ownLists ft i σ then some (.next, (σ.set i none).set j (some d)) else none := id rfl
@[simp] theorem ap_rel {ft : FT} {i : Nat} {f : Sig → Option (Fl × Sig)} {σ : Sig} : sRel ft i f σ = match σ.getD i none with | some (.lst _) => (if ownLists ft i σ then (match f σ with | some (.ret d, σ') => some (.ret d, σ') | _ => none) else none) | _ => none := id rfl
@[simp] theorem vt_bool (b : Bool) : vTruthy (.bool b) = some b := rfl
@[simp] theorem vt_lst (l : List V) : vTruthy (.lst l) = some (!l.isEmpty) := rfl
@[simp] theorem vt_str (l : List Nat) : vTruthy (.str (S l)) = some (!l.isEmpty) := by
  cases l <;> simp [vTruthy, S_len]
@[simp] theorem vseq_lst (l : List V) : vSeq (.lst l) = some l := rfl
@[simp] theorem vseq_tup (l : List V) : vSeq (.tup l) = some l := rfl
@[simp] theorem vneg_int (i : Int) : vNeg (.int i) = some (.int (-i)) := rfl
@[simp] theorem vadd_int (a b : Int) : vBin .Add (.int a) (.int b) = some (.int (a + b)) := rfl
@[simp] theorem vsub_int (a b : Int) : vBin .Sub (.int a) (.int b) = some (.int (a - b)) := rfl
@[simp] theorem vpart_none : vPart .none = some none := rfl
@[simp] theorem vpart_int (i : Int) : vPart (.int i) = some (some i) := rfl
@[simp] theorem vlen_lst (l : List V) : vLen (.lst l) = some (.int l.length) := rfl
@[simp] theorem vlen_str (x : Str) : vLen (.str x) = some (.int x.length) := rfl
theorem ap_fn {n : Nat} {bd : List V → Option (List V)} {f : Sig → Option (Fl × Sig)} {args d : List V} {v : V} {σ' : Sig} (h1 : bd args = some d) (h2 : f (d.map some ++ List.replicate n none) = some (.ret v, σ')) : fnOf n bd f args = some v := by
  unfold fnOf
  rw [h1]
  simp only [Option.bind_some]
  rw [h2]
theorem sl_len : sl.length = 1 := rfl
theorem mul_sl (k : Nat) : Txt.mul sl (k : Int) = S (List.replicate k 47) := by
  unfold Txt.mul
  split
  · have : k = 0 := by omega
    subst this; rfl
  split
  · rename_i h1 h2
    simp [sl_len] at h2
    have : k = 1 := by omega
    subst this; rfl
  · have : ∀ (m : Nat) (acc : Array Nat), ((List.replicate m sl.cps).foldl (· ++ ·) acc) = acc ++ (List.replicate m 47).toArray := by
      intro m
      induction m with
      | zero => intro acc; simp
      | succ m ih => intro acc; rw [List.replicate_succ, List.foldl_cons, ih]; apply Array.toList_inj.mp; simp [sl, S, List.replicate_succ]
    rw [this]
    simp [S]

theorem f_fspath_is (x : Str) : f_fspath [.str x] = some (.str x) := rfl
theorem f_get_sep_is (x : Str) : f_get_sep [.str x] = some (.str sl) := by
  have e := sl_is
  show fnOf 0 (bdN 1) m_get_sep [.str x] = _
  refine ap_fn (d := [.str x]) rfl (σ' := [some (.str x)]) ?_
  simp [m_get_sep, vTruthy, e, sl_len]
end Mine
end

noncomputable section
open PySem PySem.W PyProof.Rows
open Builtin Builtin.Str
set_option maxRecDepth 100000
namespace Mine

theorem leK {n : Nat} (h : Nat.ble n 1000 = true) : n ≤ 1000 := Nat.le_of_ble_eq_true h
/- how a model's value is found, construct by construct: small terms -/
section
variable {σ τ : Sig} {i j k : Nat} {a b c d : V} {l ds : List V} {r : Option (Fl × Sig)}
theorem ev_seq {f h : Sig → Option (Fl × Sig)} (x : f σ = some (.next, τ)) (y : h τ = r) : sSeq f h σ = r := by unfold sSeq; rw [x]; exact y
theorem ev_seqR {f h : Sig → Option (Fl × Sig)} (x : f σ = some (.ret d, τ)) : sSeq f h σ = some (.ret d, τ) := by unfold sSeq; rw [x]; rfl
theorem ev_seqC {f h : Sig → Option (Fl × Sig)} (x : f σ = some (.cont, τ)) : sSeq f h σ = some (.cont, τ) := by unfold sSeq; rw [x]; rfl
theorem ev_seqB {f h : Sig → Option (Fl × Sig)} (x : f σ = some (.brk, τ)) : sSeq f h σ = some (.brk, τ) := by unfold sSeq; rw [x]; rfl
theorem ev_one {f : Sig → Option (Fl × Sig)} {fl : Fl} (x : f σ = some (fl, τ)) : sSeq f sNil σ = some (fl, τ) := by unfold sSeq; rw [x]; cases fl <;> rfl
theorem ev_asg {f : Sig → Option V} (x : f σ = some d) : sAsg i f σ = some (.next, σ.set i (some d)) := by unfold sAsg; rw [x]; rfl
theorem ev_asgC {f : Sig → Option V} (x : f σ = some d) : sAsgC i f σ = some (.next, σ.set i (some d)) := by unfold sAsgC; rw [x]; rfl
theorem ev_asgT {f : Sig → Option V} {h : V → Sig → Option Sig} (x : f σ = some d) (y : h d σ = some τ) : sAsgT f h σ = some (.next, τ) := by unfold sAsgT; rw [x]; show (h d σ).map _ = _; rw [y]; rfl
theorem ev_asgW {is : List Nat} {f : Sig → Option V} (x : f σ = some (.tup l)) (n : l.length = is.length) (y : stAll is.reverse l.reverse σ = some τ) : sAsgW is f σ = some (.next, τ) := by
  unfold sAsgW; rw [x]; show (if l.length = is.length then _ else _) = _; rw [if_pos n, y]; rfl
theorem ev_ifT {t : Sig → Option Bool} {f h : Sig → Option (Fl × Sig)} (x : t σ = some true) (y : f σ = r) : sIf t f h σ = r := by unfold sIf; rw [x]; exact y
theorem ev_ifF {t : Sig → Option Bool} {f h : Sig → Option (Fl × Sig)} (x : t σ = some false) (y : h σ = r) : sIf t f h σ = r := by unfold sIf; rw [x]; exact y
theorem ev_ret {f : Sig → Option V} (x : f σ = some d) : sRet f σ = some (.ret d, σ) := by unfold sRet; rw [x]; rfl
theorem ev_app {f : Sig → Option V} (x : σ.getD i none = some (.lst l)) (y : f σ = some d) (n : l.length ≤ 1000) : sApp i f σ = some (.next, σ.set i (some (.lst (l ++ [d])))) := by
  unfold sApp eNameL; rw [x, y]; show (if l.length ≤ 1000 then _ else _) = _; rw [if_pos n]
theorem ev_pop {z : Str} (x : σ.getD i none = some (.lst l)) (y : l.getLast? = some (.str z)) : sPop i σ = some (.next, σ.set i (some (.lst l.dropLast))) := by
  unfold sPop eNameL; rw [x]; show (match l.getLast? with | some (.str _) => _ | _ => _) = _; rw [y]
theorem ev_aug {f : Sig → Option V} (x : σ.getD i none = some a) (y : f σ = some b) (z : vBin .Add a b = some d) (n : (match a with | .lst _ => false | _ => true) = true) : sAug i f σ = some (.next, σ.set i (some d)) := by
  unfold sAug eName; rw [x, y]; show (vBin .Add a b).bind _ = _; rw [z]; cases a <;> first | rfl | exact absurd n Bool.false_ne_true
theorem ev_for {it : Sig → Option (List V)} {upd : V → Sig → Option Sig} {body : Sig → Option (Fl × Sig)} (x : it σ = some l) (y : forL upd body l σ = r) : sFor it upd body σ = r := by unfold sFor; rw [x]; exact y
theorem ev_forN {upd : V → Sig → Option Sig} {body : Sig → Option (Fl × Sig)} {υ : Sig} (x : upd a σ = some τ) (y : body τ = some (.next, υ)) (z : forL upd body l υ = r) : forL upd body (a :: l) σ = r := by
  rw [forL, x]; show (body τ).bind _ = _; rw [y]; exact z
theorem ev_forC {upd : V → Sig → Option Sig} {body : Sig → Option (Fl × Sig)} {υ : Sig} (x : upd a σ = some τ) (y : body τ = some (.cont, υ)) (z : forL upd body l υ = r) : forL upd body (a :: l) σ = r := by
  rw [forL, x]; show (body τ).bind _ = _; rw [y]; exact z
theorem ev_forR {upd : V → Sig → Option Sig} {body : Sig → Option (Fl × Sig)} {υ : Sig} (x : upd a σ = some τ) (y : body τ = some (.ret d, υ)) : forL upd body (a :: l) σ = some (.ret d, υ) := by
  rw [forL, x]; show (body τ).bind _ = _; rw [y]; rfl
theorem ev_whT {t : Sig → Option Bool} {body : Sig → Option (Fl × Sig)} (x : t σ = some true) (y : body σ = some (.next, τ)) (z : whileL t body k τ = r) : whileL t body (k + 1) σ = r := by
  rw [whileL, x]; show (body σ).bind _ = _; rw [y]; exact z
theorem ev_whF {t : Sig → Option Bool} {body : Sig → Option (Fl × Sig)} (x : t σ = some false) : whileL t body (k + 1) σ = some (.next, σ) := by rw [whileL, x]; rfl
theorem ev_whB {t : Sig → Option Bool} {body : Sig → Option (Fl × Sig)} (x : t σ = some true) (y : body σ = some (.brk, τ)) : whileL t body (k + 1) σ = some (.next, τ) := by
  rw [whileL, x]; show (body σ).bind _ = _; rw [y]; rfl

theorem ev_bin {op : Operator} {f h : Sig → Option V} (x : f σ = some a) (y : h σ = some b) (z : vBin op a b = some d) : eBin op f h σ = some d := by unfold eBin; rw [x, y]; exact z
theorem ev_ecmp {op : CmpOp} {f h : Sig → Option V} {q : Bool} (x : f σ = some a) (y : h σ = some b) (z : vCmp op a b = some q) : eCmp op f h σ = some (.bool q) := by unfold eCmp; rw [x, y]; show (vCmp op a b).map _ = _; rw [z]; rfl
theorem ev_cmp {op : CmpOp} {f h : Sig → Option V} {q : Bool} (x : f σ = some a) (y : h σ = some b) (z : vCmp op a b = some q) : tCmp op f h σ = some q := by unfold tCmp; rw [x, y]; exact z
theorem ev_tval {f : Sig → Option V} {q : Bool} (x : f σ = some a) (y : vTruthy a = some q) : tVal f σ = some q := by unfold tVal; rw [x]; exact y
theorem ev_not {f : Sig → Option Bool} {q : Bool} (x : f σ = some q) : tNot f σ = some (!q) := by unfold tNot; rw [x]; rfl
theorem ev_andT {f h : Sig → Option Bool} {q : Option Bool} (x : f σ = some true) (y : h σ = q) : tAnd f h σ = q := by unfold tAnd; rw [x]; exact y
theorem ev_andF {f h : Sig → Option Bool} (x : f σ = some false) : tAnd f h σ = some false := by unfold tAnd; rw [x]; rfl
theorem ev_orT {f h : Sig → Option Bool} (x : f σ = some true) : tOr f h σ = some true := by unfold tOr; rw [x]; rfl
theorem ev_orF {f h : Sig → Option Bool} {q : Option Bool} (x : f σ = some false) (y : h σ = q) : tOr f h σ = q := by unfold tOr; rw [x]; exact y
theorem ev_and1 {f : Sig → Option Bool} {q : Bool} (x : f σ = some q) : tAnd f (tConst true) σ = some q := by unfold tAnd; rw [x]; cases q <;> rfl
theorem ev_or1 {f : Sig → Option Bool} {q : Bool} (x : f σ = some q) : tOr f (tConst false) σ = some q := by unfold tOr; rw [x]; cases q <;> rfl
theorem ev_eorT {f h : Sig → Option V} (x : f σ = some a) (y : vTruthy a = some true) : eOr f h σ = some a := by unfold eOr; rw [x]; show (vTruthy a).bind _ = _; rw [y]; rfl
theorem ev_eorF {f h : Sig → Option V} {q : Option V} (x : f σ = some a) (y : vTruthy a = some false) (z : h σ = q) : eOr f h σ = q := by unfold eOr; rw [x]; show (vTruthy a).bind _ = _; rw [y]; exact z
theorem ev_eifT {t : Sig → Option Bool} {f h : Sig → Option V} {q : Option V} (x : t σ = some true) (y : f σ = q) : eIf t f h σ = q := by unfold eIf; rw [x]; exact y
theorem ev_eifF {t : Sig → Option Bool} {f h : Sig → Option V} {q : Option V} (x : t σ = some false) (y : h σ = q) : eIf t f h σ = q := by unfold eIf; rw [x]; exact y
theorem ev_cons {f : Sig → Option V} {h : Sig → Option (List V)} (x : f σ = some a) (y : h σ = some l) : esCons f h σ = some (a :: l) := by unfold esCons; rw [x, y]; rfl
theorem ev_sing {f : Sig → Option V} (x : f σ = some a) : esCons f esNil σ = some [a] := by unfold esCons; rw [x]; rfl
theorem ev_tup {f : Sig → Option (List V)} (x : f σ = some l) (n : l.length ≤ 1000) : eTup f σ = some (.tup l) := by unfold eTup; rw [x]; exact if_pos n
theorem ev_lst {f : Sig → Option (List V)} (x : f σ = some l) (n : l.length ≤ 1000) : eLst f σ = some (.lst l) := by unfold eLst; rw [x]; exact if_pos n
theorem ev_idx {f h : Sig → Option V} (x : f σ = some a) (y : h σ = some b) (z : vIdx a b = some d) : eIdx f h σ = some d := by unfold eIdx; rw [x, y]; exact z
theorem ev_slice {f p q s : Sig → Option V} {u v w : Option Int} (x : f σ = some a) (y : (p σ).bind vPart = some u) (z : (q σ).bind vPart = some v) (y' : (s σ).bind vPart = some w) (e : vSlice a u v w = some d) : eSlice f p q s σ = some d := by
  unfold eSlice
  obtain ⟨p', hp, y⟩ := bind_some y
  obtain ⟨q', hq, z⟩ := bind_some z
  obtain ⟨s', hs, y'⟩ := bind_some y'
  rw [x, hp, hq, hs]
  show (vPart p').bind _ = _
  rw [y]
  show (vPart q').bind _ = _
  rw [z]
  show (vPart s').bind _ = _
  rw [y']
  exact e
theorem ev_call {f : List V → Option V} {h : Sig → Option (List V)} (x : h σ = some l) (y : f l = some d) : eCallV f h σ = some d := by unfold eCallV; rw [x]; exact y
theorem ev_len {f : Sig → Option V} (x : f σ = some a) (y : vLen a = some d) : eLen f σ = some d := by unfold eLen; rw [x]; exact y
theorem ev_neg {f : Sig → Option V} (x : f σ = some a) (y : vNeg a = some d) : eNeg f σ = some d := by unfold eNeg; rw [x]; exact y
theorem ev_meth {f : List V → Option V} {h : Sig → Option V} {q : Sig → Option (List V)} {z : Str} (x : h σ = some (.str z)) (y : q σ = some l) (e : f (.str z :: l) = some d) : eMeth f h q σ = some d := by unfold eMeth; rw [x]; show (q σ).bind _ = _; rw [y]; exact e
theorem ev_iseq {f : Sig → Option V} {q : Option (List V)} (x : f σ = some a) (y : vSeq a = q) : iSeq f σ = q := by unfold iSeq; rw [x]; exact y
theorem ev_irange {h : Sig → Option (List V)} {ns : List Int} (x : h σ = some l) (y : vRange l = some ns) : iRange h σ = some (ns.map .int) := by unfold iRange; rw [x]; show (vRange l).map _ = _; rw [y]; rfl
theorem ev_lrange {h : Sig → Option (List V)} {ns : List Int} (x : h σ = some l) (y : vRange l = some ns) (n : ns.length ≤ 1000) : eListRange h σ = some (.lst (ns.map .int)) := by
  unfold eListRange; rw [x]; show (vRange l).bind _ = _; rw [y]; exact if_pos n
theorem ev_star {f : Sig → Option V} (x : f σ = some (.lst l)) : esStar f σ = some l := by unfold esStar; rw [x]; rfl
theorem ev_comp {is : List Nat} {it : Sig → Option (List V)} {upd : V → Sig → Option Sig} {t : Sig → Option Bool} {e : Sig → Option V} (x : it σ = some l) (n : l.length ≤ 1000) (y : compL upd t e l (sigC is k σ) = some ds) : eComp is k it upd t e σ = some (.lst ds) := by
  unfold eComp; rw [x]; show (if l.length ≤ 1000 then _ else _) = _; rw [if_pos n, y]; rfl
theorem ev_coT {upd : V → Sig → Option Sig} {t : Sig → Option Bool} {e : Sig → Option V} (x : upd a σ = some τ) (y : t τ = some true) (z : e τ = some d) (w : compL upd t e l τ = some ds) : compL upd t e (a :: l) σ = some (d :: ds) := by
  rw [compL, x]; show (t τ).bind _ = _; rw [y]; show (e τ).bind _ = _; rw [z]; show (compL upd t e l τ).map _ = _; rw [w]; rfl
theorem ev_coF {upd : V → Sig → Option Sig} {t : Sig → Option Bool} {e : Sig → Option V} {q : Option (List V)} (x : upd a σ = some τ) (y : t τ = some false) (w : compL upd t e l τ = q) : compL upd t e (a :: l) σ = q := by
  rw [compL, x]; show (t τ).bind _ = _; rw [y]; exact w
theorem ev_own {ft : FT} (x : noBm ft i σ = true) : sOwn ft i σ = some (.next, σ.set i (some (.lst []))) := by unfold sOwn; exact if_pos x
theorem ev_own2 {ft : FT} (x : noBm ft j σ = true) (y : noBm ft i (σ.set j (some (.lst []))) = true) : sOwn2 ft i j σ = some (.next, (σ.set j (some (.lst []))).set i (some (.lst []))) := by unfold sOwn2; exact if_pos ⟨x, y⟩
theorem ev_mv {ft : FT} (x : σ.getD i none = some (.lst l)) (y : ownLists ft i σ = true) : sMv ft j i σ = some (.next, (σ.set i none).set j (some (.lst l))) := by unfold sMv eNameL; rw [x]; exact if_pos y
theorem ev_rel {ft : FT} {f : Sig → Option (Fl × Sig)} (x : σ.getD i none = some (.lst l)) (y : ownLists ft i σ = true) (z : f σ = some (.ret d, τ)) : sRel ft i f σ = some (.ret d, τ) := by
  unfold sRel; rw [x]; show (if ownLists ft i σ = true then _ else _) = _; rw [if_pos y, z]
theorem ev_str {x : Str} (y : Str) (e : x = y) (n : y.length ≤ 1000) : eStr x σ = some (.str y) := by subst e; exact if_pos n
end
theorem vtT {l : List Nat} (h : l ≠ []) : vTruthy (.str (S l)) = some true := by rw [vt_str]; cases l <;> first | exact absurd rfl h | rfl
theorem vtF {l : List Nat} (h : l = []) : vTruthy (.str (S l)) = some false := by rw [vt_str, h]; rfl
theorem veq_str (a b : List Nat) : veq (.str (S a)) (.str (S b)) = some (decide (a = b)) := by rw [veq, S_beq]
theorem eq_low {a b : V} {q : Option Bool} (h : vdep a ≤ 5) (e : veq a b = q) : vCmp .Eq a b = q := by subst e; exact if_pos h
theorem ne_low {a b : V} {q : Bool} (h : vdep a ≤ 5) (e : veq a b = some q) : vCmp .NotEq a b = some (!q) := by
  show (if vdep a ≤ 5 then (veq a b).map _ else _) = _
  rw [if_pos h, e]; rfl
theorem cEq (a b : List Nat) : vCmp .Eq (.str (S a)) (.str (S b)) = some (decide (a = b)) := eq_low (Nat.zero_le 5) (veq_str a b)
theorem cNe (a b : List Nat) : vCmp .NotEq (.str (S a)) (.str (S b)) = some (!decide (a = b)) := ne_low (Nat.zero_le 5) (veq_str a b)
theorem cEqT {a b : List Nat} (h : a = b) : vCmp .Eq (.str (S a)) (.str (S b)) = some true := (cEq a b).trans (by rw [decide_eq_true h])
theorem cEqF {a b : List Nat} (h : a ≠ b) : vCmp .Eq (.str (S a)) (.str (S b)) = some false := (cEq a b).trans (by rw [decide_eq_false h])
theorem cNeT {a b : List Nat} (h : a ≠ b) : vCmp .NotEq (.str (S a)) (.str (S b)) = some true := (cNe a b).trans (by rw [decide_eq_false h]; rfl)
theorem cNeF {a b : List Nat} (h : a = b) : vCmp .NotEq (.str (S a)) (.str (S b)) = some false := (cNe a b).trans (by rw [decide_eq_true h]; rfl)
theorem iEq (a b : Int) : vCmp .Eq (.int a) (.int b) = some (decide (a = b)) := eq_low (Nat.zero_le 5) rfl
theorem iEqT {a b : Int} (h : a = b) : vCmp .Eq (.int a) (.int b) = some true := (iEq a b).trans (by rw [decide_eq_true h])
theorem iEqF {a b : Int} (h : a ≠ b) : vCmp .Eq (.int a) (.int b) = some false := (iEq a b).trans (by rw [decide_eq_false h])
theorem iLtT {a b : Int} (h : a < b) : vCmp .Lt (.int a) (.int b) = some true := congrArg some (decide_eq_true h)
theorem iLtF {a b : Int} (h : ¬ a < b) : vCmp .Lt (.int a) (.int b) = some false := congrArg some (decide_eq_false h)
theorem iGtT {a b : Int} (h : a > b) : vCmp .Gt (.int a) (.int b) = some true := congrArg some (decide_eq_true h)
theorem iGtF {a b : Int} (h : ¬ a > b) : vCmp .Gt (.int a) (.int b) = some false := congrArg some (decide_eq_false h)
theorem iGeT {a b : Int} (h : a ≥ b) : vCmp .GtE (.int a) (.int b) = some true := congrArg some (decide_eq_true h)
theorem iGeF {a b : Int} (h : ¬ a ≥ b) : vCmp .GtE (.int a) (.int b) = some false := congrArg some (decide_eq_false h)
theorem s_nil {σ : Sig} : eStr "" σ = some (.str (S [])) := ev_str _ (by decide +kernel) (by decide)
theorem s_dot {σ : Sig} : eStr "." σ = some (.str (S [46])) := ev_str _ (by decide +kernel) (by decide)
theorem s_dd {σ : Sig} : eStr ".." σ = some (.str (S [46, 46])) := ev_str _ (by decide +kernel) (by decide)
theorem s_sl {σ : Sig} : eStr "/" σ = some (.str sl) := ev_str _ (by decide +kernel) (by decide)
theorem s_st {σ : Sig} : eStr "*" σ = some (.str (S [42])) := ev_str _ (by decide +kernel) (by decide)
end Mine
end

noncomputable section
open PySem PySem.W PyProof.Rows
set_option maxRecDepth 100000
namespace Mine
noncomputable def b_law_digits_1 : Sig → Option (Fl × Sig) := (sSeq (sApp 3 (eBin .Mod (eBin .Sub (eName 0) (eInt 1)) (eName 1))) (sSeq (sAsg 0 (eBin .FloorDiv (eBin .Sub (eName 0) (eInt 1)) (eName 1))) sNil))
theorem m_law_digits_eq : m_law_digits = (sSeq (sOwn ft_law_digits 3) (sSeq (sWhile 60 (tAnd (tCmp .Gt (eName 0) (eInt 0)) (tAnd (tCmp .Lt (eLen (eNameL 3)) (eName 2)) (tConst true))) b_law_digits_1) (sSeq (sRet (eNameL 3)) sNil))) := rfl
noncomputable def e_law_means_1 : Sig → Option V := (eBin .Sub (eName 2) (eInt 1))
noncomputable def t_law_means_1 : Sig → Option Bool := (tAnd (tCmp .Gt (eName 2) (eInt 0)) (tAnd (tCmp .In (eIdx (eName 0) (eBin .Sub (eName 2) (eInt 1))) (eName 1)) (tConst true)))
noncomputable def b_law_means_2 : Sig → Option (Fl × Sig) := (sSeq (sIf (tCmp .Eq (eName 3) (eStr "*")) (sSeq (sAsg 2 (eListRange (esCons (eBin .Add (eCallV fMax (esCons (eBin .Add (eLst (esCons (eNeg (eInt 1)) esNil)) (eName 2)) esNil)) (eInt 1)) esNil))) sNil) (sSeq (sAsgC 2 (eComp [1, 3] 1 (iSeq (eName 2)) (aName 2) t_law_means_1 e_law_means_1)) sNil)) sNil)
theorem m_law_means_eq : m_law_means = (sSeq (sAsg 2 (eLst (esCons (eLen (eName 1)) esNil))) (sSeq (sFor (iSeq (eSlice (eName 0) eNone eNone (eNeg (eInt 1)))) (aName 3) b_law_means_2) (sSeq (sRet (eCmp .In (eInt 0) (eName 2))) sNil))) := rfl
noncomputable def b_join_1 : Sig → Option (Fl × Sig) := (sSeq (sAsg 4 (eCallV f_fspath (esCons (eName 4) esNil))) (sSeq (sIf (tOr (tVal (eMeth fStarts (eName 4) (esCons (eName 2) esNil))) (tOr (tNot (tVal (eName 3))) (tConst false))) (sSeq (sAsg 3 (eName 4)) sNil) (sSeq (sIf (tVal (eMeth fEnds (eName 3) (esCons (eName 2) esNil))) (sSeq (sAug 3 (eName 4)) sNil) (sSeq (sAug 3 (eBin .Add (eName 2) (eName 4))) sNil)) sNil)) sNil))
theorem m_join_eq : m_join = (sSeq (sAsg 0 (eCallV f_fspath (esCons (eName 0) esNil))) (sSeq (sAsg 2 (eCallV f_get_sep (esCons (eName 0) esNil))) (sSeq (sAsg 3 (eName 0)) (sSeq (sSeq (sFor (iSeq (eName 1)) (aName 4) b_join_1) sNil) (sSeq (sRet (eName 3)) sNil))))) := rfl
noncomputable def b_normpath_1 : Sig → Option (Fl × Sig) := (sSeq (sIf (tOr (tNot (tVal (eName 8))) (tOr (tCmp .Eq (eName 8) (eName 2)) (tConst false))) (sSeq (fun σ => some (.cont, σ)) sNil) sNil) (sSeq (sIf (tOr (tCmp .NotEq (eName 8) (eName 3)) (tOr (tAnd (tNot (tVal (eName 5))) (tAnd (tNot (tVal (eNameL 7))) (tConst true))) (tOr (tAnd (tVal (eNameL 7)) (tAnd (tCmp .Eq (eIdx (eNameL 7) (eNeg (eInt 1))) (eName 3)) (tConst true))) (tConst false)))) (sSeq (sApp 7 (eName 8)) sNil) (sSeq (sIf (tVal (eNameL 7)) (sSeq (sPop 7) sNil) sNil) sNil)) sNil))
theorem m_normpath_eq : m_normpath = (sSeq (sAsg 0 (eCallV f_fspath (esCons (eName 0) esNil))) (sSeq (sIf (tVal (eIsStr false (eName 0))) (fun _ => none) (sSeq (sAsg 1 (eStr "/")) (sSeq (sAsg 2 (eStr ".")) (sSeq (sAsg 3 (eStr "..")) sNil)))) (sSeq (sIf (tNot (tVal (eName 0))) (sSeq (sRet (eName 2)) sNil) sNil) (sSeq (sAsgT (eCallV f_splitroot (esCons (eName 0) esNil)) (aTup 3 (asCons (aName 4) (asCons (aName 5) (asCons (aName 0) asNil))))) (sSeq (sAsg 6 (eMeth fSplit (eName 0) (esCons (eName 1) esNil))) (sSeq (sOwn ft_normpath 7) (sSeq (sFor (iSeq (eName 6)) (aName 8) b_normpath_1) (sSeq (sMv ft_normpath 6 7) (sSeq (sAsg 0 (eBin .Add (eName 5) (eMeth fJoin (eName 1) (esCons (eName 6) esNil)))) (sSeq (sRet (eOr (eName 0) (eName 2))) sNil)))))))))) := rfl
noncomputable def b_law_reads_1 : Sig → Option (Fl × Sig) := (sSeq (sIf (tCmp .Eq (eIdx (eName 0) (eName 4)) (eStr "\\")) (sSeq (sAug 4 (eInt 1)) (sSeq (sApp 3 (eTup (esCons (eIdx (eName 0) (eName 4)) (esCons (eBool false) esNil)))) sNil)) (sSeq (sApp 3 (eTup (esCons (eIdx (eName 0) (eName 4)) (esCons (eBool true) esNil)))) sNil)) (sSeq (sAug 4 (eInt 1)) sNil))
noncomputable def b_law_reads_2 : Sig → Option (Fl × Sig) := (sSeq (sAsg 6 (eIf (tAnd (tCmp .Eq (eSlice (eNameL 3) (eBin .Add (eName 4) (eInt 1)) (eBin .Add (eName 4) (eInt 2)) eNone) (eLst (esCons (eTup (esCons (eStr "-") (esCons (eBool true) esNil))) esNil))) (tAnd (tCmp .Lt (eBin .Add (eName 4) (eInt 2)) (eLen (eNameL 3))) (tConst true))) (eInt 3) (eInt 1))) (sSeq (sAsg 5 (eOr (eName 5) (eCmp2 .LtE .LtE (eIdx (eIdx (eNameL 3) (eName 4)) (eInt 0)) (eName 1) (eIdx (eIdx (eNameL 3) (eBin .Sub (eBin .Add (eName 4) (eName 6)) (eInt 1))) (eInt 0))))) (sSeq (sAug 4 (eName 6)) sNil)))
theorem m_law_reads_eq : m_law_reads = (sSeq (sIf (tCmp .Eq (eName 0) (eStr ".")) (sSeq (sRet (eBool true)) sNil) sNil) (sSeq (sIf (tCmp .Eq (eName 0) (eStr "(?!)")) (sSeq (sRet (eBool false)) sNil) sNil) (sSeq (sIf (tCmp .NotEq (eIdx (eName 0) (eInt 0)) (eStr "[")) (sSeq (sRet (eCmp .Eq (eIdx (eName 0) (eNeg (eInt 1))) (eName 1))) sNil) sNil) (sSeq (sAsg 2 (eCmp .Eq (eIdx (eName 0) (eInt 1)) (eStr "^"))) (sSeq (sOwn ft_law_reads 3) (sSeq (sAsg 4 (eIf (tVal (eName 2)) (eInt 2) (eInt 1))) (sSeq (sWhile 60 (tCmp .Lt (eName 4) (eBin .Sub (eLen (eName 0)) (eInt 1))) b_law_reads_1) (sSeq (sAsgT (eTup (esCons (eBool false) (esCons (eInt 0) esNil))) (aTup 2 (asCons (aName 5) (asCons (aName 4) asNil)))) (sSeq (sWhile 60 (tCmp .Lt (eName 4) (eLen (eNameL 3))) b_law_reads_2) (sSeq (sRet (eCmp .NotEq (eName 5) (eName 2))) sNil)))))))))) := rfl
noncomputable def e_law_fits_1 : Sig → Option V := (eBin .Add (eName 2) (eInt 1))
noncomputable def t_law_fits_1 : Sig → Option Bool := (tAnd (tCmp .Lt (eName 2) (eLen (eName 0))) (tAnd (tVal (eCallV f_law_reads (esCons (eName 1) (esCons (eIdx (eName 0) (eName 2)) esNil)))) (tConst true)))
noncomputable def b_law_fits_2 : Sig → Option (Fl × Sig) := (sSeq (sIf (tCmp .Is (eName 3) eNone) (sSeq (sAsg 2 (eListRange (esCons (eCallV fMin (esCons (eBin .Add (eName 2) (eLst (esCons (eBin .Add (eLen (eName 1)) (eInt 1)) esNil))) esNil)) (esCons (eBin .Add (eLen (eName 1)) (eInt 1)) esNil)))) sNil) (sSeq (sAsgC 2 (eComp [1, 3] 1 (iSeq (eName 2)) (aName 2) t_law_fits_1 e_law_fits_1)) sNil)) sNil)
theorem m_law_fits_eq : m_law_fits = (sSeq (sAsg 2 (eLst (esCons (eInt 0) esNil))) (sSeq (sFor (iSeq (eName 0)) (aName 3) b_law_fits_2) (sSeq (sRet (eCmp .In (eLen (eName 1)) (eName 2))) sNil))) := rfl
noncomputable def b_law_climb_1 : Sig → Option (Fl × Sig) := (sSeq (sApp 1 (eName 3)) (sSeq (sApp 2 (eName 4)) (sSeq (sAsgT (eCallV f_split (esCons (eName 3) esNil)) (aTup 2 (asCons (aName 3) (asCons (aName 4) asNil)))) sNil)))
theorem m_law_climb_eq : m_law_climb = (sSeq (sOwn2 ft_law_climb 1 2) (sSeq (sAsgT (eCallV f_split (esCons (eName 0) esNil)) (aTup 2 (asCons (aName 3) (asCons (aName 4) asNil)))) (sSeq (sWhile 60 (tCmp .NotEq (eName 4) (eStr "")) b_law_climb_1) (sRel ft_law_climb 1 (sRel (ft_law_climb.rel 1 "heads") 2 (sSeq (sRet (eTup (esCons (eName 3) (esCons (eName 1) (esCons (eName 2) esNil))))) sNil)))))) := rfl
noncomputable def b_law_stay_1 : Sig → Option (Fl × Sig) := (sSeq (sIf (tCmp .Eq (eIdx (eName 3) (eInt 0)) (eStr "..")) (sSeq (sAug 2 (eInt 1)) sNil) (sSeq (sIf (tCmp .NotIn (eIdx (eName 3) (eInt 0)) (eLst (esCons (eStr "") (esCons (eStr ".") esNil)))) (sSeq (sAsg 1 (eIf (tCmp .Eq (eName 2) (eInt 0)) (eBin .Add (eLst (esCons (eName 3) esNil)) (eName 1)) (eName 1))) (sSeq (sAsg 2 (eCallV fMax (esCons (eBin .Sub (eName 2) (eInt 1)) (esCons (eInt 0) esNil)))) sNil)) sNil) sNil)) sNil)
theorem m_law_stay_eq : m_law_stay = (sSeq (sAsgW [1, 2] (eTup (esCons (eLst esNil) (esCons (eInt 0) esNil)))) (sSeq (sFor (iSeq (eSlice (eName 0) eNone eNone (eNeg (eInt 1)))) (aName 3) b_law_stay_1) (sSeq (sRet (eName 1)) sNil))) := rfl
noncomputable def e_law_moved_1 : Sig → Option V := (eName 3)
noncomputable def t_law_moved_1 : Sig → Option Bool := (tNot (tVal (eCallV f_law_fits (esCons (eIdx (eName 1) (eName 3)) (esCons (eIdx (eName 2) (eBin .Add (eName 0) (eName 3))) esNil)))))
noncomputable def b_law_moved_2 : Sig → Option (Fl × Sig) := (sSeq (sIf (tAnd (tCmp .Eq (eName 6) (eName 2)) (tAnd (tCmp .Eq (eLen (eName 7)) (eBin .Sub (eLen (eName 4)) (eName 5))) (tAnd (tCmp .Eq (eComp [5, 7, 4] 1 (iRange (esCons (eLen (eName 7)) esNil)) (aName 3) t_law_moved_1 e_law_moved_1) (eLst esNil)) (tConst true)))) (sSeq (sRet (eCallV f_normpath (esCons (eCallV f_join (esCons (eIdx (eName 3) (eName 5)) (esCons (eName 8) (esStar (eSlice (eSlice (eName 4) eNone (eName 5) eNone) eNone eNone (eNeg (eInt 1))))))) esNil))) sNil) sNil) sNil)
noncomputable def b_law_moved_3 : Sig → Option (Fl × Sig) := (sSeq (sFor (iSeq (eName 1)) (aTup 3 (asCons (aName 6) (asCons (aName 7) (asCons (aName 8) asNil)))) b_law_moved_2) sNil)
theorem m_law_moved_eq : m_law_moved = (sSeq (sAsgT (eCallV f_law_climb (esCons (eName 0) esNil)) (aTup 3 (asCons (aName 2) (asCons (aName 3) (asCons (aName 4) asNil))))) (sSeq (sFor (iRange (esCons (eLen (eName 4)) esNil)) (aName 5) b_law_moved_3) (sSeq (sRet (eStr "")) sNil))) := rfl
noncomputable def e_law_next_1 : Sig → Option V := (eName 2)
noncomputable def t_law_next_1 : Sig → Option Bool := (tNot (tVal (eCallV f_law_means (esCons (eIdx (eIdx (eName 1) (eName 2)) (eInt 1)) (esCons (eIdx (eIdx (eName 0) (eName 2)) (eInt 0)) esNil)))))
noncomputable def b_law_next_2 : Sig → Option (Fl × Sig) := (sSeq (sIf (tAnd (tCmp .Eq (eName 0) (eStr "/")) (tAnd (tCmp .Eq (eLen (eName 4)) (eName 3)) (tAnd (tCmp .Eq (eComp [1, 4] 1 (iRange (esCons (eName 3) esNil)) (aName 2) t_law_next_1 e_law_next_1) (eLst esNil)) (tConst true)))) (sSeq (sIf (tCmp .Gt (eName 5) (eInt 0)) (sSeq (sRet (eTup (esCons (eBin .Mult (eStr "/") (eName 5)) (esCons (eCallV f_law_stay (esCons (eBin .Add (eName 6) (eSlice (eName 1) (eName 3) eNone eNone)) esNil)) esNil)))) sNil) sNil) (sSeq (sRet (eTup (esCons (eName 0) (esCons (eCallV f_law_stay (esCons (eBin .Add (eBin .Add (eSlice (eName 1) eNone (eBin .Sub (eName 3) (eInt 1)) eNone) (eName 6)) (eSlice (eName 1) (eName 3) eNone eNone)) esNil)) esNil)))) sNil)) sNil) sNil)
noncomputable def b_law_next_3 : Sig → Option (Fl × Sig) := (sSeq (sFor (iSeq (eName 2)) (aTup 3 (asCons (aName 4) (asCons (aName 5) (asCons (aName 6) asNil)))) b_law_next_2) sNil)
theorem m_law_next_eq : m_law_next = (sSeq (sFor (iRange (esCons (eLen (eName 1)) (esCons (eInt 0) (esCons (eNeg (eInt 1)) esNil)))) (aName 3) b_law_next_3) (sSeq (sRet (eTup (esCons (eStr "") (esCons (eLst esNil) esNil)))) sNil)) := rfl
noncomputable def b_translate_1 : Sig → Option (Fl × Sig) := (sSeq (sAsg 8 (eBin .Add (eName 8) (eInt 1))) sNil)
noncomputable def b_translate_2 : Sig → Option (Fl × Sig) := (sSeq (sAsg 11 (eMeth fFind (eName 0) (esCons (eStr "-") (esCons (eName 11) (esCons (eName 8) esNil))))) (sSeq (sIf (tCmp .Lt (eName 11) (eInt 0)) (sSeq (fun σ => some (.brk, σ)) sNil) sNil) (sSeq (sApp 10 (eSlice (eName 0) (eName 5) (eName 11) eNone)) (sSeq (sAsg 5 (eBin .Add (eName 11) (eInt 1))) (sSeq (sAsg 11 (eBin .Add (eName 11) (eInt 3))) sNil)))))
noncomputable def b_translate_3 : Sig → Option (Fl × Sig) := (sSeq (sIf (tCmp .Gt (eIdx (eIdx (eNameL 10) (eBin .Sub (eName 11) (eInt 1))) (eNeg (eInt 1))) (eIdx (eIdx (eNameL 10) (eName 11)) (eInt 0))) (sSeq (sSetIx 10 (eBin .Sub (eName 11) (eInt 1)) (eBin .Add (eSlice (eIdx (eNameL 10) (eBin .Sub (eName 11) (eInt 1))) eNone (eNeg (eInt 1)) eNone) (eSlice (eIdx (eNameL 10) (eName 11)) (eInt 1) eNone eNone))) (sSeq (sDelIx 10 (eName 11)) sNil)) sNil) sNil)
noncomputable def b_translate_4 : Sig → Option (Fl × Sig) := (sSeq (sAsg 7 (eIdx (eName 0) (eName 5))) (sSeq (sAsg 5 (eBin .Add (eName 5) (eInt 1))) (sSeq (sIf (tCmp .Eq (eName 7) (eStr "*")) (sSeq (sIf (tOr (tNot (tVal (eNameL 3))) (tOr (tCmp .IsNot (eIdx (eNameL 3) (eNeg (eInt 1))) (eName 1)) (tConst false))) (sSeq (sAdd ft0_translate 4 (eName 1)) sNil) sNil) sNil) (sSeq (sIf (tCmp .Eq (eName 7) (eStr "?")) (sSeq (sAdd ft0_translate 4 (eName 2)) sNil) (sSeq (sIf (tCmp .Eq (eName 7) (eStr "[")) (sSeq (sAsg 8 (eName 5)) (sSeq (sIf (tAnd (tCmp .Lt (eName 8) (eName 6)) (tAnd (tCmp .Eq (eIdx (eName 0) (eName 8)) (eStr "!")) (tConst true))) (sSeq (sAsg 8 (eBin .Add (eName 8) (eInt 1))) sNil) sNil) (sSeq (sIf (tAnd (tCmp .Lt (eName 8) (eName 6)) (tAnd (tCmp .Eq (eIdx (eName 0) (eName 8)) (eStr "]")) (tConst true))) (sSeq (sAsg 8 (eBin .Add (eName 8) (eInt 1))) sNil) sNil) (sSeq (sWhile 60 (tAnd (tCmp .Lt (eName 8) (eName 6)) (tAnd (tCmp .NotEq (eIdx (eName 0) (eName 8)) (eStr "]")) (tConst true))) b_translate_1) (sSeq (sIf (tCmp .GtE (eName 8) (eName 6)) (sSeq (sAdd ft0_translate 4 (eStr "\\[")) sNil) (sSeq (sAsg 9 (eSlice (eName 0) (eName 5) (eName 8) eNone)) (sSeq (sIf (tCmp .NotIn (eStr "-") (eName 9)) (sSeq (sAsg 9 (eReplace (eName 9) "\\" "\\\\")) sNil) (sSeq (sOwn ft0_translate 10) (sSeq (sAsg 11 (eIf (tCmp .Eq (eIdx (eName 0) (eName 5)) (eStr "!")) (eBin .Add (eName 5) (eInt 2)) (eBin .Add (eName 5) (eInt 1)))) (sSeq (sWhile 60 (tVal (eBool true)) b_translate_2) (sSeq (sAsg 12 (eSlice (eName 0) (eName 5) (eName 8) eNone)) (sSeq (sIf (tVal (eName 12)) (sSeq (sApp 10 (eName 12)) sNil) (sSeq (sAugIx 10 (eNeg (eInt 1)) (eStr "-")) sNil)) (sSeq (sFor (iRange (esCons (eBin .Sub (eLen (eNameL 10)) (eInt 1)) (esCons (eInt 0) (esCons (eNeg (eInt 1)) esNil)))) (aName 11) b_translate_3) (sSeq (sAsg 9 (eJoinG "-" 10 "\\" "-" "\\-")) sNil)))))))) (sSeq (sAsg 9 (eSub (eName 9))) (sSeq (sAsg 5 (eBin .Add (eName 8) (eInt 1))) (sSeq (sIf (tNot (tVal (eName 9))) (sSeq (sAdd ft0_translate 4 (eStr "(?!)")) sNil) (sSeq (sIf (tCmp .Eq (eName 9) (eStr "!")) (sSeq (sAdd ft0_translate 4 (eStr ".")) sNil) (sSeq (sIf (tCmp .Eq (eIdx (eName 9) (eInt 0)) (eStr "!")) (sSeq (sAsg 9 (eBin .Add (eStr "^") (eSlice (eName 9) (eInt 1) eNone eNone))) sNil) (sSeq (sIf (tCmp .In (eIdx (eName 9) (eInt 0)) (eTup (esCons (eStr "^") (esCons (eStr "[") esNil)))) (sSeq (sAsg 9 (eBin .Add (eStr "\\") (eName 9))) sNil) sNil) sNil)) (sSeq (sAdd ft0_translate 4 (eFmt "[" "]" (eName 9))) sNil))) sNil)) sNil)))))) sNil))))) (sSeq (sAdd ft0_translate 4 (eCallV f_escape (esCons (eName 7) esNil))) sNil)) sNil)) sNil)) sNil)))
theorem m_translate_eq : m_translate = (sSeq (sOwn ft0_translate 3) (sSeq (sBind ft0_translate 3 4) (sSeq (sAsgW [5, 6] (eTup (esCons (eInt 0) (esCons (eLen (eName 0)) esNil)))) (sSeq (sWhile 60 (tCmp .Lt (eName 5) (eName 6)) b_translate_4) (sSeq (sAssert (tCmp .Eq (eName 5) (eName 6))) (sSeq (sRet (eNameL 3)) sNil)))))) := rfl
noncomputable def e_law_1 : Sig → Option V := (eCallV fAbs (esCons (eBin .Add (eCallV fSum (esCons (eSlice (eName 0) (eName 2) (eInt 63) (eInt 10)) esNil)) (eIdx (eName 1) (eName 2))) esNil))
noncomputable def e_law_2 : Sig → Option V := (eIf (tCmp .GtE (eName 1) (eInt 324)) (eTup (esCons (eStr "..") (esCons (eLst esNil) esNil))) (eTup (esCons (eBin .Add (eIdx (eIdx (eName 0) (eBin .Mod (eName 1) (eInt 18))) (eInt 0)) (eIdx (eIdx (eName 0) (eBin .FloorDiv (eName 1) (eInt 18))) (eInt 0))) (esCons (eBin .Add (eIdx (eIdx (eName 0) (eBin .Mod (eName 1) (eInt 18))) (eInt 1)) (eIdx (eIdx (eName 0) (eBin .FloorDiv (eName 1) (eInt 18))) (eInt 1))) esNil))))
noncomputable def e_law_3 : Sig → Option V := (eIdx (eName 0) (eName 1))
noncomputable def e_law_4 : Sig → Option V := (eIdx (eName 0) (eInt 0))
noncomputable def e_law_5 : Sig → Option V := (eCallV f_translate (esCons (eName 0) (esCons eNone (esCons (eStr ".") esNil))))
noncomputable def e_law_6 : Sig → Option V := (eTup (esCons (eName 0) (esCons (eLst esNil) esNil)))
noncomputable def e_law_7 : Sig → Option V := (eName 1)
noncomputable def t_law_7 : Sig → Option Bool := (tCmp .Eq (eSlice (eName 0) (eBin .Sub (eName 1) (eInt 1)) (eBin .Add (eName 1) (eInt 1)) eNone) (eLst (esCons eNone (esCons eNone esNil))))
noncomputable def e_law_8 : Sig → Option V := (eName 0)
noncomputable def t_law_8 : Sig → Option Bool := (tCmp .NotEq (eComp [0] 1 (iRange (esCons (eInt 1) (esCons (eLen (eName 0)) esNil))) (aName 1) t_law_7 e_law_7) (eLst esNil))
noncomputable def s9_1 : Sig → Option (Fl × Sig) := (sAsg 8 (eIf (tCmp .Lt (eName 4) (eInt 3)) (eCallV f_law_digits (esCons (eIdx (eName 5) (eName 4)) (esCons (eInt 360) (esCons (eInt 2) esNil)))) (eLst (esCons (eInt 1) esNil))))
noncomputable def s9_2 : Sig → Option (Fl × Sig) := (sAsgC 9 (eComp [1] 1 (iSeq (eName 8)) (aName 1) gNil e_law_2))
noncomputable def s9_3 : Sig → Option (Fl × Sig) := (sAsg 9 (eIf (tCmp .NotEq (eCallV f_law_stay (esCons (eName 9) esNil)) (eLst esNil)) (eName 9) (eBin .Add (eName 9) (eLst (esCons (eIdx (eName 1) (eInt 1)) esNil)))))
noncomputable def s9_4 : Sig → Option (Fl × Sig) := (sAsg 10 (eIdx (eLst (esCons (eInt 0) (esCons (eInt 0) (esCons (eInt 0) (esCons (eInt 0) (esCons (eInt 1) (esCons (eInt 1) (esCons (eInt 1) (esCons (eInt 2) esNil))))))))) (eBin .Mod (eIdx (eName 5) (eBin .Add (eName 4) (eInt 3))) (eInt 8))))
noncomputable def s9_5 : Sig → Option (Fl × Sig) := (sAsgC 11 (eComp [2] 1 (iSeq (eCallV f_law_digits (esCons (eBin .FloorDiv (eIdx (eName 5) (eBin .Add (eName 4) (eInt 3))) (eInt 8)) (esCons (eInt 10) (esCons (eInt 2) esNil))))) (aName 1) gNil e_law_3))
noncomputable def s9_6 : Sig → Option (Fl × Sig) := (sAsgT (eCallV f_law_climb (esCons (eCallV f_normpath (esCons (eCallV f_join (esCons (eStr "/.") (esStar (eComp [] 1 (iSeq (eName 9)) (aName 0) gNil e_law_4)))) esNil)) esNil)) (aTup 3 (asCons (aName 12) (asCons (aName 13) (asCons (aName 14) asNil)))))
noncomputable def s9_7 : Sig → Option (Fl × Sig) := (sApp 6 (eTup (esCons (eName 12) (esCons (eComp [] 1 (iSeq (eName 14)) (aName 0) gNil e_law_5) (esCons (eCallV f_join (esCons (eBin .Add (eBin .Mult (eStr "/") (eName 10)) (eStr ".")) (esStar (eName 11)))) esNil)))))
noncomputable def s9_8 : Sig → Option (Fl × Sig) := (sApp 7 (eTup (esCons (eCallV f_law_stay (esCons (eName 9) esNil)) (esCons (eName 10) (esCons (eComp [] 1 (iSeq (eName 11)) (aName 0) gNil e_law_6) esNil)))))
noncomputable def s9_9 : Sig → Option (Fl × Sig) := (sIf (tCmp .NotEq (eComp [] 1 (iSeq (eIdx (eIdx (eNameL 6) (eName 4)) (eInt 1))) (aName 0) t_law_8 e_law_8) (eLst esNil)) (sSeq (sRet (eBool false)) sNil) sNil)
noncomputable def b_law_9 : Sig → Option (Fl × Sig) := (sSeq s9_1 (sSeq s9_2 (sSeq s9_3 (sSeq s9_4 (sSeq s9_5 (sSeq s9_6 (sSeq s9_7 (sSeq s9_8 (sSeq s9_9 sNil)))))))))
noncomputable def e_law_10 : Sig → Option V := (eIdx (eName 0) (eName 1))
noncomputable def e_law_11 : Sig → Option V := (eTup (esCons (eName 0) (esCons (eLst esNil) esNil)))
noncomputable def e_law_12 : Sig → Option V := (eName 0)
noncomputable def s13_1 : Sig → Option (Fl × Sig) := (sIf (tCmp .NotEq (eName 17) (eIf (tCmp .Eq (eName 18) (eStr "")) (eStr "") (eBin .Add (eName 18) (eMeth fJoin (eStr "/") (esCons (eComp [] 2 (iSeq (eName 19)) (aTup 2 (asCons (aName 0) (asCons (aName 1) asNil))) gNil e_law_12) esNil))))) (sSeq (sRet (eBool false)) sNil) sNil)
noncomputable def s13_2 : Sig → Option (Fl × Sig) := (sIf (tAnd (tCmp .NotEq (eName 17) (eStr "")) (tAnd (tCmp .Lt (eName 20) (eInt 4)) (tConst true))) (sSeq (sAsg 17 (eCallV f_law_moved (esCons (eName 17) (esCons (eName 6) esNil)))) (sSeq (sAsgT (eCallV f_law_next (esCons (eName 18) (esCons (eName 19) (esCons (eName 7) esNil)))) (aTup 2 (asCons (aName 18) (asCons (aName 19) asNil)))) sNil)) sNil)
noncomputable def b_law_13 : Sig → Option (Fl × Sig) := (sSeq s13_1 (sSeq s13_2 sNil))
noncomputable def s14_1 : Sig → Option (Fl × Sig) := (sAsgC 16 (eComp [2] 1 (iSeq (eCallV f_law_digits (esCons (eName 15) (esCons (eInt 10) (esCons (eInt 3) esNil))))) (aName 1) gNil e_law_10))
noncomputable def s14_2 : Sig → Option (Fl × Sig) := (sAsgW [17, 18, 19] (eTup (esCons (eCallV f_normpath (esCons (eCallV f_join (esCons (eStr "/.") (esStar (eName 16)))) esNil)) (esCons (eStr "/") (esCons (eCallV f_law_stay (esCons (eComp [] 1 (iSeq (eName 16)) (aName 0) gNil e_law_11) esNil)) esNil)))))
noncomputable def s14_3 : Sig → Option (Fl × Sig) := (sFor (iRange (esCons (eInt 5) esNil)) (aName 20) b_law_13)
noncomputable def b_law_14 : Sig → Option (Fl × Sig) := (sSeq s14_1 (sSeq s14_2 (sSeq s14_3 sNil)))
noncomputable def a_law_3 : Sig → Option V := (eLst (esCons (eInt 724) (esCons (eInt 11) (esCons (eInt 33556) (esCons (eInt 192) (esCons (eInt 428) (esCons (eInt 8) (esCons (eInt 72) (esCons (eInt 161) (esCons (eInt 423) (esCons (eInt 105) esNil)))))))))))
noncomputable def a_law_2 : Sig → Option V := (eLst (esCons (eStr "a") (esCons (eStr "b") (esCons (eStr "ab") (esCons (eStr "..") (esCons (eStr "a.") (esCons (eStr "-b") (esCons (eStr "") (esCons (eStr ".") (esCons (eStr "^") (esCons (eStr "a\\") esNil)))))))))))
noncomputable def a_law_1 : Sig → Option V := (eLst (esCons (eTup (esCons (eStr "") (esCons (eLst esNil) esNil))) (esCons (eTup (esCons (eStr "*") (esCons (eLst (esCons (eStr "*") esNil)) esNil))) (esCons (eTup (esCons (eStr "?") (esCons (eLst (esCons (eStr "ab.-^\\") esNil)) esNil))) (esCons (eTup (esCons (eStr "a") (esCons (eLst (esCons (eStr "a") esNil)) esNil))) (esCons (eTup (esCons (eStr "b") (esCons (eLst (esCons (eStr "b") esNil)) esNil))) (esCons (eTup (esCons (eStr ".") (esCons (eLst (esCons (eStr ".") esNil)) esNil))) (esCons (eTup (esCons (eStr "-") (esCons (eLst (esCons (eStr "-") esNil)) esNil))) (esCons (eTup (esCons (eStr "[!a]") (esCons (eLst (esCons (eStr "b.-^\\") esNil)) esNil))) (esCons (eTup (esCons (eStr "[a-b]") (esCons (eLst (esCons (eStr "ab") esNil)) esNil))) (esCons (eTup (esCons (eStr "[b-a]") (esCons (eLst (esCons (eStr "") esNil)) esNil))) (esCons (eTup (esCons (eStr "[b-a!a]") (esCons (eLst (esCons (eStr "b.-^\\") esNil)) esNil))) (esCons (eTup (esCons (eStr "[!b-a]") (esCons (eLst (esCons (eStr "ab.-^\\") esNil)) esNil))) (esCons (eTup (esCons (eStr "[--.]") (esCons (eLst (esCons (eStr "-.") esNil)) esNil))) (esCons (eTup (esCons (eStr "[a-]") (esCons (eLst (esCons (eStr "a-") esNil)) esNil))) (esCons (eTup (esCons (eStr "[!.-]") (esCons (eLst (esCons (eStr "ab^\\") esNil)) esNil))) (esCons (eTup (esCons (eStr "[]-a]") (esCons (eLst (esCons (eStr "^a") esNil)) esNil))) (esCons (eTup (esCons (eStr "[!-b-a]") (esCons (eLst (esCons (eStr "ab.^\\") esNil)) esNil))) (esCons (eTup (esCons (eStr "[^\\]") (esCons (eLst (esCons (eStr "^\\") esNil)) esNil))) esNil)))))))))))))))))))
theorem m_law_eq : m_law = (sSeq (sAsg 1 a_law_1) (sSeq (sAsg 2 a_law_2) (sSeq (sAsg 3 a_law_3) (sSeq (sAsgC 5 (eComp [0, 3] 1 (iRange (esCons (eInt 10) esNil)) (aName 2) gNil e_law_1)) (sSeq (sOwn2 ft_law 6 7) (sSeq (sFor (iRange (esCons (eInt 4) esNil)) (aName 4) b_law_9) (sRel ft_law 6 (sRel (ft_law.rel 6 "drawn") 7 (sSeq (sFor (iSeq (eSlice (eName 5) (eInt 7) eNone eNone)) (aName 15) b_law_14) (sSeq (sRet (eBool true)) sNil)))))))))) := rfl
end Mine
end

noncomputable section
open PySem PySem.W PyProof.Rows
open Builtin Builtin.Str
set_option maxRecDepth 100000
namespace Mine

theorem vs_none (x : Str) (b : Option Int) (h : (vSliceS x none b none).length ≤ 1000) : vSlice (.str x) none b none = some (.str (vSliceS x none b none)) := by
  show (if _ then _ else _) = _
  rw [if_pos ⟨rfl, h⟩]
theorem vs_to (l : List Nat) (b : Nat) (h : l.length ≤ 1000) : vSlice (.str (S l)) none (some (b : Int)) none = some (.str (S (l.take b))) := by
  show (if _ then _ else _) = _
  rw [slice_to, if_pos ⟨rfl, by rw [S_len]; exact Nat.le_trans (List.length_take_le' _ _) h⟩]
theorem vs_from (l : List Nat) (a : Nat) (h : l.length ≤ 1000) : vSlice (.str (S l)) (some (a : Int)) none none = some (.str (S (l.drop a))) := by
  show (if _ then _ else _) = _
  rw [slice_from, if_pos ⟨rfl, by rw [S_len]; exact Nat.le_trans (List.length_drop ▸ Nat.sub_le _ _) h⟩]
theorem vs_mid (l : List Nat) {a b : Nat} (hab : a ≤ b) (h : l.length ≤ 1000) : vSlice (.str (S l)) (some (a : Int)) (some (b : Int)) none = some (.str (S ((l.drop a).take (b - a)))) := by
  show (if _ then _ else _) = _
  rw [slice_mid l hab, if_pos ⟨rfl, by rw [S_len]; exact Nat.le_trans (List.length_take_le' _ _) (Nat.le_trans (List.length_drop ▸ Nat.sub_le _ _) h)⟩]

theorem mult_sl (k : Nat) (hk : k ≤ 1000) : vBin .Mult (.str sl) (.int (k : Int)) = some (.str (S (List.replicate k 47))) := by
  show (if _ then _ else _) = _
  rw [if_pos ⟨Nat.le_refl 1, Int.natCast_nonneg k, Int.ofNat_le.mpr hk⟩, mul_sl]
theorem f_split_gen (h c : List Nat) (hc : 47 ∉ c) (hz : h.length + c.length < 1000) :
    f_split [.str (S (h ++ 47 :: c))] = some (.tup [.str (if h ++ [47] = List.replicate (h.length + 1) 47 then S (h ++ [47]) else Txt.rstripChars (S (h ++ [47])) sl), .str (S c)]) := by
  have e1 : ((h ++ 47 :: c).take (h.length + 1)) = h ++ [47] := by rw [List.take_append, List.take_of_length_le (by omega)]; simp
  have e2 : ((h ++ 47 :: c).drop (h.length + 1)) = c := by simp [List.drop_append]
  have hl : (h ++ 47 :: c).length ≤ 1000 := by simp; omega
  have r := rfind_sl h c hc
  have s1 := vs_to (h ++ 47 :: c) (h.length + 1) hl
  have s2 := vs_from (h ++ 47 :: c) (h.length + 1) hl
  rw [e1] at s1
  rw [e2] at s2
  have m := mult_sl (h.length + 1) (by omega)
  push_cast at s1 s2 m
  have tt : vTruthy (.str (S (h ++ [47]))) = some true := vtT (by simp)
  have ml : vBin .Mult (.str sl) (.int ((S (h ++ [47])).length : Int)) = some (.str (S (List.replicate (h.length + 1) 47))) := by rw [S_len, List.length_append]; exact m
  split
  · rename_i hh
    exact ap_fn rfl (ev_seq (ev_asg (ev_call (ev_sing rfl) (f_fspath_is _))) (ev_seq (ev_asg (ev_call (ev_sing rfl) (f_get_sep_is _))) (ev_seq (ev_asg (ev_bin (ev_meth rfl (ev_sing rfl) (congrArg (fun z => some (V.int z)) r)) rfl rfl))
      (ev_seq (ev_asgW (ev_tup (ev_cons (ev_slice rfl rfl rfl rfl s1) (ev_sing (ev_slice rfl rfl rfl rfl s2))) (leK rfl)) rfl rfl) (ev_seq (ev_ifF (ev_andT (ev_tval rfl tt) (ev_and1 (ev_cmp rfl (ev_bin rfl (ev_len rfl rfl) ml) (cNeF hh)))) rfl) (ev_one (ev_ret (ev_tup (ev_cons rfl (ev_sing rfl)) (leK rfl))))))))) 
  · rename_i hh
    exact ap_fn rfl (ev_seq (ev_asg (ev_call (ev_sing rfl) (f_fspath_is _))) (ev_seq (ev_asg (ev_call (ev_sing rfl) (f_get_sep_is _))) (ev_seq (ev_asg (ev_bin (ev_meth rfl (ev_sing rfl) (congrArg (fun z => some (V.int z)) r)) rfl rfl))
      (ev_seq (ev_asgW (ev_tup (ev_cons (ev_slice rfl rfl rfl rfl s1) (ev_sing (ev_slice rfl rfl rfl rfl s2))) (leK rfl)) rfl rfl) (ev_seq (ev_ifT (ev_andT (ev_tval rfl tt) (ev_and1 (ev_cmp rfl (ev_bin rfl (ev_len rfl rfl) ml) (cNeT hh)))) (ev_one (ev_asg (ev_meth rfl (ev_sing rfl) rfl)))) (ev_one (ev_ret (ev_tup (ev_cons rfl (ev_sing rfl)) (leK rfl)))))))))
end Mine
end

noncomputable section
open PySem PySem.W PyProof.Rows
open Builtin Builtin.Str
set_option maxRecDepth 100000
namespace Mine

/-- a root of the paths here -/
noncomputable def Root (t : List Nat) : Prop := t = [47] ∨ t = [47, 47]

theorem f_split_root {t c : List Nat} (ht : Root t) (hc : 47 ∉ c) (hz : c.length < 900) : f_split [.str (S (t ++ c))] = some (.tup [.str (S t), .str (S c)]) := by
  rcases ht with rfl | rfl
  · have := f_split_gen [] c hc (by simp; omega)
    simpa using this
  · have := f_split_gen [47] c hc (by simp; omega)
    simpa using this
theorem f_split_deep {h c : List Nat} (h1 : h ≠ []) (h2 : h.getLast? ≠ some 47) (hc : 47 ∉ c) (hz : h.length + c.length < 1000) : f_split [.str (S (h ++ 47 :: c))] = some (.tup [.str (S h), .str (S c)]) := by
  rw [f_split_gen h c hc hz, if_neg, rstrip_sl h h2]
  intro e
  apply h2
  rcases List.eq_nil_or_concat h with rfl | ⟨r, x, rfl⟩
  · exact absurd rfl h1
  · simp only [List.concat_eq_append] at e ⊢
    have hx : x ∈ List.replicate ((r ++ [x]).length + 1) 47 := by rw [← e]; simp
    rw [List.eq_of_mem_replicate hx]; simp

theorem nil_is : ("" : Str) = S [] := by decide +kernel
theorem dot_is : ("." : Str) = S [46] := by decide +kernel
theorem dd_is : (".." : Str) = S [46, 46] := by decide +kernel
theorem vadd_str (a b : List Nat) (h : a.length + b.length ≤ 1000) : vBin .Add (.str (S a)) (.str (S b)) = some (.str (S (a ++ b))) := by
  show (if (S a).length + (S b).length ≤ 1000 then some (V.str (S a ++ S b)) else none) = _
  rw [S_len, S_len, if_pos h, S_app]

theorem take1 {r : List Nat} (h : r.head? ≠ some 47) : List.take 1 r ≠ [47] := by
  intro q
  cases r with
  | nil => cases q
  | cons x r => cases q; exact h rfl
theorem f_splitroot_one (r : List Nat) (h : r.head? ≠ some 47) (hz : r.length < 900) : f_splitroot [.str (S (47 :: r))] = some (.tup [.str (S []), .str sl, .str (S r)]) := by
  have hl : (47 :: r).length ≤ 1000 := Nat.le_trans hz (by decide)
  exact ap_fn rfl (ev_seq (ev_asg (ev_call (ev_sing rfl) (f_fspath_is _))) (ev_seq (ev_ifF (ev_tval rfl rfl) (ev_seq (ev_asg s_sl) (ev_one (ev_asg s_nil))))
    (ev_one (ev_ifF (ev_cmp (ev_slice rfl rfl rfl rfl (vs_to (47 :: r) 1 hl)) rfl (cNeF rfl))
      (ev_one (ev_ifT (ev_orT (ev_cmp (ev_slice rfl rfl rfl rfl (vs_mid (47 :: r) (a := 1) (b := 2) (by decide) hl)) rfl (cNeT (take1 h))))
        (ev_one (ev_ret (ev_tup (ev_cons rfl (ev_cons rfl (ev_sing (ev_slice rfl rfl rfl rfl (vs_from (47 :: r) 1 hl))))) (leK rfl))))))))))
theorem f_splitroot_two (r : List Nat) (h : r.head? ≠ some 47) (hz : r.length < 900) : f_splitroot [.str (S (47 :: 47 :: r))] = some (.tup [.str (S []), .str (S [47, 47]), .str (S r)]) := by
  have hl : (47 :: 47 :: r).length ≤ 1000 := Nat.le_trans (Nat.succ_le_succ hz) (by decide)
  exact ap_fn rfl (ev_seq (ev_asg (ev_call (ev_sing rfl) (f_fspath_is _))) (ev_seq (ev_ifF (ev_tval rfl rfl) (ev_seq (ev_asg s_sl) (ev_one (ev_asg s_nil))))
    (ev_one (ev_ifF (ev_cmp (ev_slice rfl rfl rfl rfl (vs_to (47 :: 47 :: r) 1 hl)) rfl (cNeF rfl))
      (ev_one (ev_ifF (ev_orF (ev_cmp (ev_slice rfl rfl rfl rfl (vs_mid (47 :: 47 :: r) (a := 1) (b := 2) (by decide) hl)) rfl (cNeF rfl)) (ev_or1 (ev_cmp (ev_slice rfl rfl rfl rfl (vs_mid (47 :: 47 :: r) (a := 2) (b := 3) (by decide) hl)) rfl (cEqF (take1 h)))))
        (ev_one (ev_ret (ev_tup (ev_cons rfl (ev_cons (ev_slice rfl rfl rfl rfl (vs_to (47 :: 47 :: r) 2 hl)) (ev_sing (ev_slice rfl rfl rfl rfl (vs_from (47 :: 47 :: r) 2 hl))))) (leK rfl))))))))))
end Mine
end

noncomputable section
open PySem PySem.W PyProof.Rows
open Builtin Builtin.Str
set_option maxRecDepth 100000
namespace Mine

noncomputable abbrev strS (l : List Nat) : V := .str (S l)
noncomputable def rs (st : List (List Nat)) (c : List Nat) : List (List Nat) := if c = [] ∨ c = [46] then st else if c = [46, 46] then st.dropLast else st ++ [c]
noncomputable def NoDD (st : List (List Nat)) : Prop := ∀ c ∈ st, c ≠ [46, 46]
theorem rs_nodd {st : List (List Nat)} {c : List Nat} (h : NoDD st) : NoDD (rs st c) := by
  unfold rs
  split
  · exact h
  split
  · exact fun x hx => h x (List.dropLast_subset _ hx)
  · rename_i h1 h2
    intro x hx
    rcases List.mem_append.mp hx with hx | hx
    · exact h x hx
    · rw [List.mem_singleton.mp hx]; exact h2
theorem rs_len (st : List (List Nat)) (c : List Nat) : (rs st c).length ≤ st.length + 1 := by
  unfold rs
  split
  · omega
  split
  · rw [List.length_dropLast]; omega
  · simp
theorem last_idx (l : List V) (z : V) : vIdx (.lst (l ++ [z])) (.int (-1)) = some z := by
  show (if -((l ++ [z]).length : Int) ≤ -1 then (l ++ [z])[(-1 + ((l ++ [z]).length : Int)).toNat]? else none) = _
  have e : (l ++ [z]).length = l.length + 1 := List.length_append
  have e2 : (-1 + ((l ++ [z]).length : Int)).toNat = l.length := by rw [e]; exact congrArg Int.toNat (Int.neg_add_cancel_left (-1) (l.length : Int) ▸ by omega : (-1 + ((l.length + 1 : Nat) : Int)) = (l.length : Int))
  rw [if_pos (by omega), e2, List.getElem?_concat_length]
theorem last_map (st : List (List Nat)) : (st.map strS).getLast? = st.getLast?.map strS := by
  rw [List.getLast?_map]

noncomputable def nσ (p0 u cs : Option V) (t : List Nat) (st : List (List Nat)) (x : Option V) : Sig := [p0, some (.str sl), some (strS [46]), some (strS [46, 46]), u, some (strS t), cs, some (.lst (st.map strS)), x]
section
variable {p0 u cs : Option V} {t c : List Nat} {st : List (List Nat)}
theorem norm_skip (h : c = [] ∨ c = [46]) : b_normpath_1 (nσ p0 u cs t st (some (strS c))) = some (.cont, nσ p0 u cs t st (some (strS c))) := by
  have q : tOr (tNot (tVal (eName 8))) (tOr (tCmp .Eq (eName 8) (eName 2)) (tConst false)) (nσ p0 u cs t st (some (strS c))) = some true := by
    by_cases e : c = []
    · exact ev_orT (ev_not (ev_tval rfl (vtF e)))
    · exact ev_orF (ev_not (ev_tval rfl (vtT e))) (ev_or1 (ev_cmp rfl rfl (cEqT (h.resolve_left e))))
  exact ev_seqC (ev_ifT q (ev_seqC rfl))
theorem norm_go {r : Option (Fl × Sig)} {f : Sig → Option (Fl × Sig)} (h : ¬ (c = [] ∨ c = [46])) (e : sSeq f sNil (nσ p0 u cs t st (some (strS c))) = r) : sSeq (sIf (tOr (tNot (tVal (eName 8))) (tOr (tCmp .Eq (eName 8) (eName 2)) (tConst false))) (sSeq (fun σ => some (.cont, σ)) sNil) sNil) (sSeq f sNil) (nσ p0 u cs t st (some (strS c))) = r :=
  ev_seq (ev_ifF (ev_orF (ev_not (ev_tval rfl (vtT fun e => h (.inl e)))) (ev_or1 (ev_cmp rfl rfl (cEqF fun e => h (.inr e))))) rfl) e
theorem norm_dd (ht : t ≠ []) (hn : NoDD st) : b_normpath_1 (nσ p0 u cs t st (some (strS [46, 46]))) = some (.next, nσ p0 u cs t st.dropLast (some (strS [46, 46]))) := by
  rcases List.eq_nil_or_concat st with rfl | ⟨l, x, rfl⟩
  · exact norm_go (by decide) (ev_one (ev_ifF (ev_orF (ev_cmp rfl rfl (cNeF rfl)) (ev_orF (ev_andF (ev_not (ev_tval rfl (vtT ht)))) (ev_or1 (ev_andF rfl)))) (ev_one (ev_ifF rfl rfl))))
  · rw [List.concat_eq_append] at hn ⊢
    have e : (l ++ [x]).map strS = l.map strS ++ [strS x] := List.map_append
    have v : vTruthy (.lst ((l ++ [x]).map strS)) = some true := by rw [e]; cases l.map strS <;> rfl
    refine (norm_go (by decide) (ev_one (ev_ifF (ev_orF (ev_cmp rfl rfl (cNeF rfl)) (ev_orF (ev_andF (ev_not (ev_tval rfl (vtT ht)))) (ev_or1 (ev_andT (ev_tval rfl v) (ev_and1 (ev_cmp (ev_idx rfl rfl (by rw [e]; exact last_idx _ _)) rfl (cEqF (hn x (by simp)))))))))
      (ev_one (ev_ifT (ev_tval rfl v) (ev_one (ev_pop rfl (z := S x) (by rw [e]; exact List.getLast?_concat)))))))).trans ?_
    rw [e, List.dropLast_concat, List.dropLast_concat]
    rfl
theorem norm_push (h1 : ¬ (c = [] ∨ c = [46])) (h2 : c ≠ [46, 46]) (hz : st.length ≤ 1000) : b_normpath_1 (nσ p0 u cs t st (some (strS c))) = some (.next, nσ p0 u cs t (st ++ [c]) (some (strS c))) := by
  refine (norm_go h1 (ev_one (ev_ifT (ev_orT (ev_cmp rfl rfl (cNeT h2))) (ev_one (ev_app rfl rfl ((List.length_map strS).symm ▸ hz)))))).trans ?_
  unfold nσ
  rw [List.map_append]; rfl
end
theorem norm_loop {p0 u cs : Option V} {t : List Nat} (ht : t ≠ []) : ∀ (qs : List (List Nat)) (st : List (List Nat)) (x : Option V), NoDD st → st.length + qs.length ≤ 900 →
    ∃ y, forL (aName 8) b_normpath_1 (qs.map strS) (nσ p0 u cs t st x) = some (.next, nσ p0 u cs t (qs.foldl rs st) y)
  | [], st, x, _, _ => ⟨x, rfl⟩
  | q :: qs, st, x, hn, hz => by
    have hz' : (st.length + qs.length) + 1 ≤ 900 := hz
    have l := rs_len st q
    obtain ⟨y, ih⟩ := norm_loop ht qs (rs st q) (some (strS q)) (rs_nodd hn) (by omega)
    refine ⟨y, ?_⟩
    rw [List.foldl_cons]
    by_cases h1 : q = [] ∨ q = [46]
    · have e : rs st q = st := if_pos h1
      rw [e] at ih ⊢
      exact ev_forC rfl (norm_skip h1) ih
    · by_cases h2 : q = [46, 46]
      · subst h2
        exact ev_forN rfl (norm_dd ht hn) ih
      · have e : rs st q = st ++ [q] := (if_neg h1).trans (if_neg h2)
        rw [e] at ih ⊢
        exact ev_forN rfl (norm_push h1 h2 (by omega)) ih
end Mine
end

noncomputable section
open PySem PySem.W PyProof.Rows
open Builtin Builtin.Str
set_option maxRecDepth 100000
namespace Mine

/- the lengths of joined texts -/
noncomputable def jl : List (List Nat) → Nat
  | [] => 0
  | x :: r => x.length + 1 + jl r
theorem joinL_len : ∀ {l : List (List Nat)}, l ≠ [] → (joinL l).length + 1 = jl l
  | [], h => absurd rfl h
  | [x], _ => rfl
  | x :: y :: r, _ => by
    show (x ++ 47 :: joinL (y :: r)).length + 1 = x.length + 1 + jl (y :: r)
    rw [← joinL_len (l := y :: r) (List.cons_ne_nil _ _), List.length_append]
    exact Nat.add_right_comm _ _ _
theorem joinL_le (l : List (List Nat)) : (joinL l).length ≤ jl l := by
  cases l with
  | nil => exact Nat.le_refl _
  | cons x r => exact Nat.le_of_succ_le (Nat.le_of_eq (joinL_len (l := x :: r) (List.cons_ne_nil _ _)))
theorem jl_sub {a b : List (List Nat)} (h : a.Sublist b) : jl a ≤ jl b := by
  induction h with
  | slnil => exact Nat.le_refl _
  | cons x _ ih => exact Nat.le_trans ih (Nat.le_add_left _ _)
  | cons_cons x _ ih => exact Nat.add_le_add_left ih _
theorem jl_count : ∀ l : List (List Nat), l.length ≤ jl l
  | [] => Nat.le_refl _
  | x :: r => Nat.le_trans (Nat.succ_le_succ (jl_count r)) (Nat.le_trans (Nat.le_of_eq (Nat.add_comm (jl r) 1)) (Nat.add_le_add_right (Nat.le_add_left 1 x.length) (jl r)))
theorem jl_mem : ∀ {l : List (List Nat)} {x : List Nat}, x ∈ l → x.length ≤ jl l
  | y :: r, x, h => by
    rcases List.mem_cons.mp h with rfl | h
    · exact Nat.le_trans (Nat.le_succ _) (Nat.le_add_right _ _)
    · exact Nat.le_trans (jl_mem h) (Nat.le_add_left _ _)
theorem jl_app (a b : List (List Nat)) : jl (a ++ b) = jl a + jl b := by
  induction a with
  | nil => exact (Nat.zero_add _).symm
  | cons x r ih => show x.length + 1 + jl (r ++ b) = x.length + 1 + jl r + jl b; rw [ih]; exact (Nat.add_assoc _ _ _).symm
theorem rs_sub (st : List (List Nat)) (c : List Nat) : (rs st c).Sublist (st ++ [c]) := by
  unfold rs
  split
  · exact List.sublist_append_left _ _
  split
  · exact (List.dropLast_sublist st).trans (List.sublist_append_left _ _)
  · exact List.Sublist.refl _
theorem res_sub : ∀ (qs st : List (List Nat)), (qs.foldl rs st).Sublist (st ++ qs)
  | [], st => (List.append_nil st).symm ▸ List.Sublist.refl _
  | q :: qs, st => by
    rw [List.foldl_cons]
    refine (res_sub qs (rs st q)).trans ?_
    rw [List.append_cons st q qs]
    exact (rs_sub st q).append (List.Sublist.refl _)
noncomputable def res (qs : List (List Nat)) : List (List Nat) := qs.foldl rs []
theorem res_jl (qs : List (List Nat)) : jl (res qs) ≤ jl qs := jl_sub (res_sub qs [])

theorem vStrs_map (l : List (List Nat)) : vStrs (l.map strS) = some (l.map S) := by
  induction l with
  | nil => rfl
  | cons x r ih => show (vStrs (r.map strS)).map _ = _; rw [ih]; rfl
theorem join_ok (l : List (List Nat)) (h : jl l ≤ 1000) : JoinOk sl (l.map S) = true := by
  unfold JoinOk
  rw [StrLaws.joinFits (B := 1000)]
  · rfl
  · intro y hy
    obtain ⟨x, hx, rfl⟩ := List.mem_map.mp hy
    rw [S_len]
    exact Nat.le_trans (jl_mem hx) h
  · have := jl_count l
    rw [List.length_map, sl_len]
    omega
theorem fJoin_is (l : List (List Nat)) (h : jl l ≤ 1000) : fJoin [.str sl, .lst (l.map strS)] = some (.str (S (joinL l))) := by
  show (vStrs _).bind _ = _
  rw [vStrs_map]
  exact (if_pos (join_ok l h)).trans (by rw [joinT])
theorem fSplit_is {qs : List (List Nat)} (h : qs ≠ []) (hf : ∀ q ∈ qs, 47 ∉ q) (hz : jl qs ≤ 1000) : fSplit [.str (S (joinL qs)), .str sl] = some (.lst (qs.map strS)) := by
  refine (if_pos ⟨by decide, by rw [S_len]; exact Nat.le_trans (joinL_le qs) hz⟩).trans ?_
  rw [split_sl h hf, List.map_map]
  rfl

theorem f_splitroot_is {t r : List Nat} (ht : Root t) (h : r.head? ≠ some 47) (hz : r.length < 900) : f_splitroot [.str (S (t ++ r))] = some (.tup [.str (S []), .str (S t), .str (S r)]) := by
  rcases ht with rfl | rfl
  · exact f_splitroot_one r h hz
  · exact f_splitroot_two r h hz
theorem f_normpath_is {t : List Nat} {qs : List (List Nat)} (ht : Root t) (h : qs ≠ []) (hf : ∀ q ∈ qs, 47 ∉ q) (hh : (joinL qs).head? ≠ some 47) (hz : jl qs ≤ 800) :
    f_normpath [.str (S (t ++ joinL qs))] = some (.str (S (t ++ joinL (res qs)))) := by
  have tz : t.length ≤ 2 := by rcases ht with rfl | rfl <;> decide
  have tn : t ≠ [] := by rcases ht with rfl | rfl <;> exact List.cons_ne_nil _ _
  have hj : (joinL qs).length < 900 := Nat.lt_of_le_of_lt (Nat.le_trans (joinL_le qs) hz) (by decide)
  have hr : jl (res qs) ≤ 800 := Nat.le_trans (res_jl qs) hz
  obtain ⟨y, lp⟩ := norm_loop (p0 := some (.str (S (joinL qs)))) (u := some (.str (S []))) (cs := some (.lst (qs.map strS))) tn qs [] none (fun _ h => nomatch h) (Nat.le_trans (Nat.le_of_eq (Nat.zero_add _)) (Nat.le_trans (jl_count qs) (Nat.le_trans hz (by decide))))
  unfold f_normpath
  rw [m_normpath_eq]
  exact ap_fn rfl (ev_seq (ev_asg (ev_call (ev_sing rfl) (f_fspath_is _))) (ev_seq (ev_ifF (ev_tval rfl rfl) (ev_seq (ev_asg s_sl) (ev_seq (ev_asg s_dot) (ev_one (ev_asg s_dd)))))
    (ev_seq (ev_ifF (ev_not (ev_tval rfl (vtT (List.append_ne_nil_of_left_ne_nil tn _)))) rfl) (ev_seq (ev_asgT (ev_call (ev_sing rfl) (f_splitroot_is ht hh hj)) rfl)
      (ev_seq (ev_asg (ev_meth rfl (ev_sing rfl) (fSplit_is h hf (Nat.le_trans hz (by decide))))) (ev_seq (ev_own rfl) (ev_seq (ev_for (ev_iseq rfl rfl) lp) (ev_seq (ev_mv rfl rfl)
        (ev_seq (ev_asg (ev_bin rfl (ev_meth rfl (ev_sing rfl) (fJoin_is (res qs) (Nat.le_trans hr (by decide)))) (vadd_str t (joinL (res qs)) (Nat.le_trans (Nat.add_le_add tz (Nat.le_trans (joinL_le _) hr)) (by decide)))))
          (ev_one (ev_ret (ev_eorT rfl (vtT (List.append_ne_nil_of_left_ne_nil tn _)))))))))))))) 
end Mine
end

noncomputable section
open PySem PySem.W PyProof.Rows
open Builtin Builtin.Str
set_option maxRecDepth 100000
namespace Mine

noncomputable def jstep (p b : List Nat) : List Nat := if b.head? = some 47 ∨ p = [] then b else if p.getLast? = some 47 then p ++ b else p ++ 47 :: b
theorem jstep_len (p b : List Nat) : (jstep p b).length ≤ p.length + 1 + b.length := by
  unfold jstep
  split
  · exact Nat.le_add_left _ _
  split
  · rw [List.length_append]; exact Nat.add_le_add_right (Nat.le_succ _) _
  · rw [List.length_append, List.length_cons]; exact Nat.le_of_eq (Nat.add_right_comm p.length 1 b.length).symm
theorem sl_add (b : List Nat) (h : b.length ≤ 900) : vBin .Add (.str sl) (.str (S b)) = some (.str (S (47 :: b))) := vadd_str [47] b (Nat.le_trans (Nat.add_le_add_left h 1) (by decide))
theorem stT {b : List Nat} (h : b.head? = some 47) : vTruthy (.bool (Txt.startswith (S b) sl)) = some true := by rw [starts_sl, h]; rfl
theorem stF {b : List Nat} (h : b.head? ≠ some 47) : vTruthy (.bool (Txt.startswith (S b) sl)) = some false := by rw [starts_sl, beq_eq_false_iff_ne.mpr h]; rfl
theorem enT {b : List Nat} (h : b.getLast? = some 47) : vTruthy (.bool (Txt.endswith (S b) sl)) = some true := by rw [ends_sl, h]; rfl
theorem enF {b : List Nat} (h : b.getLast? ≠ some 47) : vTruthy (.bool (Txt.endswith (S b) sl)) = some false := by rw [ends_sl, beq_eq_false_iff_ne.mpr h]; rfl
noncomputable def jσ (a0 ps : Option V) (p : List Nat) (x : Option V) : Sig := [a0, ps, some (.str sl), some (strS p), x]
theorem join_body {a0 ps : Option V} {p b : List Nat} (hz : p.length + b.length ≤ 900) :
    b_join_1 (jσ a0 ps p (some (strS b))) = some (.next, jσ a0 ps (jstep p b) (some (strS b))) := by
  refine ev_seq (ev_asg (ev_call (ev_sing rfl) (f_fspath_is _))) ?_
  unfold jstep
  by_cases h1 : b.head? = some 47
  · rw [if_pos (.inl h1)]
    exact ev_one (ev_ifT (ev_orT (ev_tval (ev_meth rfl (ev_sing rfl) rfl) (stT h1))) (ev_one (ev_asg rfl)))
  by_cases h2 : p = []
  · rw [if_pos (.inr h2)]
    exact ev_one (ev_ifT (ev_orF (ev_tval (ev_meth rfl (ev_sing rfl) rfl) (stF h1)) (ev_or1 (ev_not (ev_tval rfl (vtF h2))))) (ev_one (ev_asg rfl)))
  rw [if_neg fun e => e.elim h1 h2]
  by_cases h3 : p.getLast? = some 47
  · rw [if_pos h3]
    exact ev_one (ev_ifF (ev_orF (ev_tval (ev_meth rfl (ev_sing rfl) rfl) (stF h1)) (ev_or1 (ev_not (ev_tval rfl (vtT h2)))))
      (ev_one (ev_ifT (ev_tval (ev_meth rfl (ev_sing rfl) rfl) (enT h3)) (ev_one (ev_aug rfl rfl (vadd_str p b (Nat.le_trans hz (by decide))) rfl)))))
  · rw [if_neg h3]
    exact ev_one (ev_ifF (ev_orF (ev_tval (ev_meth rfl (ev_sing rfl) rfl) (stF h1)) (ev_or1 (ev_not (ev_tval rfl (vtT h2)))))
      (ev_one (ev_ifF (ev_tval (ev_meth rfl (ev_sing rfl) rfl) (enF h3)) (ev_one (ev_aug rfl (ev_bin rfl rfl (sl_add b (Nat.le_trans (Nat.le_add_left _ _) hz))) (vadd_str p (47 :: b) (Nat.le_trans (Nat.succ_le_succ hz) (by decide))) rfl)))))
theorem join_loop {a0 ps : Option V} : ∀ (bs : List (List Nat)) (p : List Nat) (x : Option V), p.length + jl bs ≤ 900 →
    ∃ y, forL (aName 4) b_join_1 (bs.map strS) (jσ a0 ps p x) = some (.next, jσ a0 ps (bs.foldl jstep p) y)
  | [], p, x, _ => ⟨x, rfl⟩
  | b :: bs, p, x, hz => by
    have hz' : p.length + (b.length + 1 + jl bs) ≤ 900 := hz
    have := jstep_len p b
    obtain ⟨y, ih⟩ := join_loop bs (jstep p b) (some (strS b)) (by omega)
    exact ⟨y, ev_forN rfl (join_body (by omega)) ih⟩
theorem f_join_is {a : List Nat} {bs : List (List Nat)} (hz : a.length + jl bs ≤ 900) : f_join (strS a :: bs.map strS) = some (strS (bs.foldl jstep a)) := by
  unfold f_join
  rw [m_join_eq]
  obtain ⟨y, lp⟩ := join_loop (a0 := some (strS a)) (ps := some (.tup (bs.map strS))) bs a none hz
  exact ap_fn (if_pos (by rw [List.length_map]; exact Nat.le_trans (jl_count bs) (Nat.le_trans (Nat.le_add_left _ _) (Nat.le_trans hz (by decide)))))
    (ev_seq (ev_asg (ev_call (ev_sing rfl) (f_fspath_is _))) (ev_seq (ev_asg (ev_call (ev_sing rfl) (f_get_sep_is _))) (ev_seq (ev_asg rfl) (ev_seq (ev_one (ev_for (ev_iseq rfl rfl) lp)) (ev_one (ev_ret rfl))))))

/- what is joined, part by part -/
noncomputable def addq (qs bs : List (List Nat)) : List (List Nat) := if qs.getLast? = some [] then qs.dropLast ++ bs else qs ++ bs
theorem joinL_app : ∀ {a b : List (List Nat)}, a ≠ [] → b ≠ [] → joinL (a ++ b) = joinL a ++ 47 :: joinL b
  | [], _, h, _ => absurd rfl h
  | [x], b, _, h => by rw [List.singleton_append, joinL_cons x h]; rfl
  | x :: y :: r, b, _, h => by
    have ih := joinL_app (a := y :: r) (b := b) (List.cons_ne_nil _ _) h
    rw [List.cons_append, joinL_cons x (by simp), ih, joinL_cons x (List.cons_ne_nil _ _), List.append_assoc]
    rfl
theorem joinL_last {qs : List (List Nat)} (hf : ∀ q ∈ qs, 47 ∉ q) {r : List (List Nat)} {x : List Nat} (e : qs = r ++ [x]) (hx : x ≠ []) : (joinL qs).getLast? ≠ some 47 := by
  obtain ⟨y, c, rfl⟩ : ∃ y c, x = y ++ [c] := by
    rcases List.eq_nil_or_concat x with q | ⟨y, c, q⟩
    · exact absurd q hx
    · exact ⟨y, c, by rw [q, List.concat_eq_append]⟩
  have hc : c ≠ 47 := by
    rintro rfl
    exact hf (y ++ [47]) (by rw [e]; simp) (by simp)
  subst e
  by_cases hr : r = []
  · subst hr
    simpa [joinL] using hc
  · rw [joinL_app hr (List.cons_ne_nil _ _)]
    simp only [joinL]
    rw [show joinL r ++ 47 :: (y ++ [c]) = (joinL r ++ 47 :: y) ++ [c] by simp, List.getLast?_concat]
    simpa using hc
/-- the prefix of a text of parts -/
noncomputable def Pre (t : List Nat) (qs : List (List Nat)) : Prop := Root t ∨ (t = [] ∧ joinL qs ≠ [])
theorem root_last {t : List Nat} (h : Root t) : t.getLast? = some 47 := by rcases h with rfl | rfl <;> rfl
theorem root_ne {t : List Nat} (h : Root t) : t ≠ [] := by rcases h with rfl | rfl <;> simp
theorem root_head {t : List Nat} (h : Root t) (r : List Nat) : (t ++ r).head? = some 47 := by rcases h with rfl | rfl <;> rfl
theorem jstep_add {t : List Nat} {qs bs : List (List Nat)} (ht : Pre t qs) (hf : ∀ q ∈ qs, 47 ∉ q) (hb : bs ≠ []) (hh : (joinL bs).head? ≠ some 47) : jstep (t ++ joinL qs) (joinL bs) = t ++ joinL (addq qs bs) := by
  have pn : t ++ joinL qs ≠ [] := by
    rcases ht with h | ⟨rfl, h⟩
    · have := root_ne h; simp [this]
    · simpa using h
  unfold jstep
  rw [if_neg (by simp only [not_or]; exact ⟨hh, pn⟩)]
  rcases List.eq_nil_or_concat qs with rfl | ⟨r, x, e⟩
  · have : Root t := by
      rcases ht with h | ⟨_, h⟩
      · exact h
      · exact absurd rfl h
    simp only [joinL, List.append_nil, addq]
    rw [if_pos (root_last this)]
    simp
  · rw [List.concat_eq_append] at e
    by_cases hx : x = []
    · subst hx
      have e1 : addq qs bs = r ++ bs := by
        unfold addq
        rw [e, List.getLast?_concat, if_pos rfl]
        simp
      rw [e1]
      by_cases hr : r = []
      · subst hr
        subst e
        have : Root t := by
          rcases ht with h | ⟨_, h⟩
          · exact h
          · exact absurd rfl h
        simp only [List.nil_append, joinL, List.append_nil]
        rw [if_pos (root_last this)]
      · have e2 : joinL qs = joinL r ++ [47] := by rw [e, joinL_app hr (List.cons_ne_nil _ _)]; rfl
        rw [e2, joinL_app hr hb, if_pos (by rw [← List.append_assoc, List.getLast?_concat])]
        simp
    · have e1 : addq qs bs = qs ++ bs := by
        unfold addq
        rw [if_neg]
        rw [e, List.getLast?_concat]
        simpa using hx
      have e2 := joinL_last hf e hx
      have qn : qs ≠ [] := by rw [e]; simp
      have jn : joinL qs ≠ [] := by
        intro q
        rw [e] at q
        by_cases hr : r = []
        · subst hr; exact hx q
        · rw [joinL_app hr (List.cons_ne_nil _ _)] at q; simp at q
      have e3 : ¬ (t ++ joinL qs).getLast? = some 47 := by
        rw [List.getLast?_append]
        cases hq : (joinL qs).getLast? with
        | none => exact absurd (List.getLast?_eq_none_iff.mp hq) jn
        | some c => rw [hq] at e2; simpa using e2
      rw [e1, joinL_app qn hb, if_neg e3]
      simp
theorem addq_free {qs bs : List (List Nat)} (h1 : ∀ q ∈ qs, 47 ∉ q) (h2 : ∀ q ∈ bs, 47 ∉ q) : ∀ q ∈ addq qs bs, 47 ∉ q := by
  unfold addq
  intro q hq
  split at hq
  · rcases List.mem_append.mp hq with h | h
    · exact h1 q (List.dropLast_subset _ h)
    · exact h2 q h
  · rcases List.mem_append.mp hq with h | h
    · exact h1 q h
    · exact h2 q h
theorem addq_ne {qs bs : List (List Nat)} (h : bs ≠ []) : addq qs bs ≠ [] := by
  unfold addq
  split <;> simp [h]
theorem addq_sub (qs bs : List (List Nat)) : (addq qs bs).Sublist (qs ++ bs) := by
  unfold addq
  split
  · exact (List.dropLast_sublist qs).append (List.Sublist.refl _)
  · exact List.Sublist.refl _
theorem addq_rs (qs bs st : List (List Nat)) : (addq qs bs).foldl rs st = (qs ++ bs).foldl rs st := by
  unfold addq
  split
  · rename_i h
    obtain ⟨r, e⟩ : ∃ r, qs = r ++ [[]] := by
      rcases List.eq_nil_or_concat qs with q | ⟨r, x, q⟩
      · rw [q] at h; cases h
      · rw [List.concat_eq_append] at q
        rw [q, List.getLast?_concat] at h
        cases h; exact ⟨r, q⟩
    rw [e]
    simp [rs]
  · rfl
/-- the first part holds a sign -/
noncomputable def Hd (qs : List (List Nat)) : Prop := ∃ q r, qs = q :: r ∧ q ≠ [] ∧ 47 ∉ q
theorem Hd.head {qs : List (List Nat)} (h : Hd qs) : (joinL qs).head? ≠ some 47 := by
  obtain ⟨q, r, rfl, h1, h2⟩ := h
  obtain ⟨c, q, rfl⟩ := List.exists_cons_of_ne_nil h1
  have : c ≠ 47 := by rintro rfl; exact h2 (by simp)
  cases r <;> simpa [joinL] using this
theorem Hd.ne {qs : List (List Nat)} (h : Hd qs) : joinL qs ≠ [] := by
  obtain ⟨q, r, rfl, h1, h2⟩ := h
  cases r <;> simp [joinL, h1]
theorem Hd.ne' {qs : List (List Nat)} (h : Hd qs) : qs ≠ [] := by obtain ⟨q, r, rfl, _⟩ := h; simp
theorem Hd.add {qs : List (List Nat)} (h : Hd qs) (bs : List (List Nat)) : Hd (addq qs bs) := by
  obtain ⟨q, r, rfl, h1, h2⟩ := h
  unfold addq
  split
  · rename_i e
    cases r with
    | nil => simp at e; exact absurd e h1
    | cons y r => exact ⟨q, (y :: r).dropLast ++ bs, by simp [List.dropLast], h1, h2⟩
  · exact ⟨q, r ++ bs, rfl, h1, h2⟩
noncomputable def addN (qs ns : List (List Nat)) : List (List Nat) := ns.foldl (fun q n => addq q [n]) qs
theorem addN_rs : ∀ (ns qs st : List (List Nat)), (addN qs ns).foldl rs st = (qs ++ ns).foldl rs st
  | [], qs, st => by simp [addN]
  | n :: ns, qs, st => by
    have ih := addN_rs ns (addq qs [n]) st
    show (addN (addq qs [n]) ns).foldl rs st = _
    rw [ih, List.foldl_append, addq_rs, ← List.foldl_append]
    simp
theorem addN_sub : ∀ (ns qs : List (List Nat)), (addN qs ns).Sublist (qs ++ ns)
  | [], qs => by simp [addN]
  | n :: ns, qs => by
    have ih := addN_sub ns (addq qs [n])
    show (addN (addq qs [n]) ns).Sublist _
    refine ih.trans ?_
    have := (addq_sub qs [n]).append (List.Sublist.refl ns)
    simpa using this
theorem addN_free : ∀ {ns qs : List (List Nat)}, (∀ q ∈ qs, 47 ∉ q) → (∀ q ∈ ns, 47 ∉ q) → ∀ q ∈ addN qs ns, 47 ∉ q
  | [], _, h, _ => h
  | n :: ns, qs, h1, h2 => by
    show ∀ q ∈ addN (addq qs [n]) ns, 47 ∉ q
    exact addN_free (addq_free h1 fun q hq => by rw [List.mem_singleton.mp hq]; exact h2 n (.head _)) fun q hq => h2 q (.tail _ hq)
theorem addN_hd : ∀ {ns qs : List (List Nat)}, Hd qs → Hd (addN qs ns)
  | [], _, h => h
  | n :: ns, qs, h => by
    show Hd (addN (addq qs [n]) ns)
    exact addN_hd (h.add _)
theorem head_free {n : List Nat} (h : 47 ∉ n) : n.head? ≠ some 47 := by
  cases n with
  | nil => simp
  | cons c r => simp at h ⊢; exact fun q => h.1 q.symm
theorem joinN : ∀ {ns qs : List (List Nat)} {t : List Nat}, (Root t ∨ t = []) → Hd qs → (∀ q ∈ qs, 47 ∉ q) → (∀ q ∈ ns, 47 ∉ q) → ns.foldl jstep (t ++ joinL qs) = t ++ joinL (addN qs ns)
  | [], _, _, _, _, _, _ => rfl
  | n :: ns, qs, t, ht, hh, h1, h2 => by
    have hp : Pre t qs := ht.imp id fun e => ⟨e, hh.ne⟩
    have e := jstep_add (bs := [n]) hp h1 (List.cons_ne_nil _ _) (by show n.head? ≠ _; exact head_free (h2 n (.head _)))
    rw [List.foldl_cons]
    have e' : jstep (t ++ joinL qs) n = t ++ joinL (addq qs [n]) := e
    rw [e']
    exact joinN ht (hh.add _) (addq_free h1 fun q hq => by rw [List.mem_singleton.mp hq]; exact h2 n (.head _)) fun q hq => h2 q (.tail _ hq)
end Mine
end

noncomputable section
open PySem PySem.W PyProof.Rows
open Builtin Builtin.Str
set_option maxRecDepth 100000
namespace Mine

/-- parts as a straightened path has them -/
noncomputable def Nm (cs : List (List Nat)) : Prop := ∀ c ∈ cs, c ≠ [] ∧ 47 ∉ c
noncomputable def hds (t : List Nat) : List (List Nat) → List V
  | [] => []
  | _ :: r => strS (t ++ joinL r.reverse) :: hds t r
noncomputable def spH (t : List Nat) : List (List Nat) → List Nat
  | [] => t
  | _ :: r => t ++ joinL r.reverse
noncomputable def spT : List (List Nat) → List Nat
  | [] => []
  | x :: _ => x
theorem jl_rev (l : List (List Nat)) : jl l.reverse = jl l := by
  induction l with
  | nil => rfl
  | cons x r ih => rw [List.reverse_cons, jl_app, ih]; exact Nat.add_comm _ _
theorem split_at {t : List Nat} (ht : Root t) : ∀ {rev : List (List Nat)}, Nm rev → jl rev ≤ 800 → f_split [strS (t ++ joinL rev.reverse)] = some (.tup [strS (spH t rev), strS (spT rev)])
  | [], _, _ => by
    have := f_split_root (c := []) ht (by simp) (by simp)
    simpa [joinL, spH, spT] using this
  | x :: r, hn, hz => by
    have hx := hn x (.head _)
    simp only [jl] at hz
    rw [List.reverse_cons]
    by_cases hr : r = []
    · subst hr
      have := f_split_root ht hx.2 (by omega)
      simpa [joinL, spH, spT] using this
    · have hr' : r.reverse ≠ [] := by simpa using hr
      have hj := joinL_le r.reverse
      rw [jl_rev] at hj
      have tz : t.length ≤ 2 := by rcases ht with rfl | rfl <;> decide
      rw [joinL_app hr' (List.cons_ne_nil _ _), ← List.append_assoc]
      have h1 : t ++ joinL r.reverse ≠ [] := by have := root_ne ht; simp [this]
      have h2 : (t ++ joinL r.reverse).getLast? ≠ some 47 := by
        obtain ⟨y, r', rfl⟩ := List.exists_cons_of_ne_nil hr
        have hf : ∀ q ∈ (y :: r').reverse, 47 ∉ q := fun q hq => (hn q (.tail _ (List.mem_reverse.mp hq))).2
        have e := joinL_last hf (r := r'.reverse) (x := y) (by simp) (hn y (by simp)).1
        have jn : joinL (y :: r').reverse ≠ [] := by
          intro q
          rw [List.reverse_cons] at q
          by_cases hq : r'.reverse = []
          · rw [hq] at q; exact (hn y (by simp)).1 q
          · rw [joinL_app hq (List.cons_ne_nil _ _)] at q; simp at q
        rw [List.getLast?_append]
        cases hq : (joinL (y :: r').reverse).getLast? with
        | none => exact absurd (List.getLast?_eq_none_iff.mp hq) jn
        | some c => rw [hq] at e; simpa using e
      exact f_split_deep h1 h2 hx.2 (by rw [List.length_append]; simp only [joinL]; omega)
noncomputable def cσ (p0 : Option V) (H T : List V) (a b : List Nat) : Sig := [p0, some (.lst H), some (.lst T), some (strS a), some (strS b)]
theorem climb_loop {t : List Nat} (ht : Root t) {p0 : Option V} : ∀ (rev : List (List Nat)) (H T : List V) (n : Nat), Nm rev → jl rev ≤ 800 → rev.length < n → H.length + rev.length ≤ 900 → T.length + rev.length ≤ 900 →
    whileL (tCmp .NotEq (eName 4) (eStr "")) b_law_climb_1 n (cσ p0 H T (spH t rev) (spT rev)) = some (.next, cσ p0 (H ++ hds t rev) (T ++ rev.map strS) t [])
  | [], H, T, n + 1, _, _, _, _, _ => by
    show _ = some (Fl.next, cσ p0 (H ++ []) (T ++ []) t [])
    rw [List.append_nil, List.append_nil]
    exact ev_whF (ev_cmp rfl s_nil (cNeF rfl))
  | x :: r, H, T, n + 1, hn, hz, hl, hh, htl => by
    have hz' : jl r ≤ 800 := Nat.le_trans (Nat.le_add_left _ _) hz
    have hh' : H.length + 1 + r.length ≤ 900 := Nat.add_right_comm H.length 1 r.length ▸ hh
    have ht' : T.length + 1 + r.length ≤ 900 := Nat.add_right_comm T.length 1 r.length ▸ htl
    have sp := split_at ht (rev := r) (fun c hc => hn c (.tail _ hc)) hz'
    have ih := climb_loop ht (p0 := p0) r (H ++ [strS (spH t (x :: r))]) (T ++ [strS x]) n (fun c hc => hn c (.tail _ hc)) hz' (Nat.lt_of_succ_lt_succ hl) (by rw [List.length_append]; exact hh') (by rw [List.length_append]; exact ht')
    have e : cσ p0 (H ++ [strS (spH t (x :: r))] ++ hds t r) (T ++ [strS x] ++ r.map strS) t [] = cσ p0 (H ++ hds t (x :: r)) (T ++ (x :: r).map strS) t [] := by rw [List.append_assoc, List.append_assoc]; rfl
    rw [e] at ih
    exact ev_whT (ev_cmp rfl s_nil (cNeT (hn x (.head _)).1))
      (ev_seq (ev_app rfl rfl (Nat.le_trans (Nat.le_trans (Nat.le_add_right _ _) hh) (by decide))) (ev_seq (ev_app rfl rfl (Nat.le_trans (Nat.le_trans (Nat.le_add_right _ _) htl) (by decide))) (ev_one (ev_asgT (ev_call (ev_sing rfl) sp) rfl)))) ih
theorem f_climb_is {t : List Nat} {cs : List (List Nat)} (ht : Root t) (hn : Nm cs) (hz : jl cs ≤ 800) (hl : cs.length ≤ 50) :
    f_law_climb [strS (t ++ joinL cs)] = some (.tup [strS t, .lst (hds t cs.reverse), .lst (cs.reverse.map strS)]) := by
  have hn' : Nm cs.reverse := fun c hc => hn c (List.mem_reverse.mp hc)
  have hz' : jl cs.reverse ≤ 800 := by rw [jl_rev]; exact hz
  have hl' : cs.reverse.length ≤ 50 := by rw [List.length_reverse]; exact hl
  have sp := split_at ht hn' hz'
  rw [List.reverse_reverse] at sp
  have lp := climb_loop ht (p0 := some (strS (t ++ joinL cs))) cs.reverse [] [] 60 hn' hz' (Nat.lt_of_le_of_lt hl' (by decide)) (Nat.le_trans (Nat.le_of_eq (Nat.zero_add _)) (Nat.le_trans hl' (by decide))) (Nat.le_trans (Nat.le_of_eq (Nat.zero_add _)) (Nat.le_trans hl' (by decide)))
  unfold f_law_climb
  rw [m_law_climb_eq]
  exact ap_fn rfl (ev_seq (ev_own2 rfl rfl) (ev_seq (ev_asgT (ev_call (ev_sing rfl) sp) rfl) (ev_seq lp (ev_rel rfl rfl (ev_rel rfl rfl (ev_one (ev_ret (ev_tup (ev_cons rfl (ev_cons rfl (ev_sing rfl))) (leK rfl)))))))))
end Mine
end

noncomputable section
open PySem PySem.W PyProof.Rows
open Builtin Builtin.Str
set_option maxRecDepth 100000
namespace Mine

/- digits -/
noncomputable def InR (b : Int) (ds : List Int) : Prop := ∀ d ∈ ds, 0 ≤ d ∧ d < b
noncomputable def dσ (x b : Int) (size : Nat) (acc : List Int) : Sig := [some (.int x), some (.int b), some (.int size), some (.lst (acc.map .int))]
theorem dig_step {b : Int} (hb : 0 < b) (hb' : b < 1000) {size : Nat} {x : Int} {acc : List Int} (hx : 0 < x) (hl : acc.length < size) (hs : size ≤ 3) :
    tAnd (tCmp .Gt (eName 0) (eInt 0)) (tAnd (tCmp .Lt (eLen (eNameL 3)) (eName 2)) (tConst true)) (dσ x b size acc) = some true ∧
      b_law_digits_1 (dσ x b size acc) = some (.next, dσ ((x - 1).fdiv b) b size (acc ++ [(x - 1).fmod b])) := by
  have e : (acc.map V.int).length = acc.length := List.length_map V.int
  refine ⟨ev_andT (ev_cmp rfl rfl (iGtT hx)) (ev_and1 (ev_cmp (ev_len rfl rfl) rfl (iLtT (Int.ofNat_lt.mpr (e ▸ hl))))), ?_⟩
  have m1 : vBin .Mod (.int (x - 1)) (.int b) = some (.int ((x - 1).fmod b)) := if_pos ⟨hb, hb'⟩
  have m2 : vBin .FloorDiv (.int (x - 1)) (.int b) = some (.int ((x - 1).fdiv b)) := if_pos ⟨hb, hb'⟩
  refine (ev_seq (ev_app rfl (ev_bin (ev_bin rfl rfl rfl) rfl m1) (e ▸ Nat.le_trans (Nat.le_of_lt hl) (Nat.le_trans hs (by decide)))) (ev_one (ev_asg (ev_bin (ev_bin rfl rfl rfl) rfl m2)))).trans ?_
  unfold dσ
  rw [List.map_append]; rfl
theorem dig_loop {b : Int} (hb : 0 < b) (hb' : b < 1000) {size : Nat} (hs : size ≤ 3) : ∀ (rem : Nat) (acc : List Int) (x : Int) (fuel : Nat), acc.length + rem = size → rem < fuel →
    ∃ (x' : Int) (ds : List Int), whileL (tAnd (tCmp .Gt (eName 0) (eInt 0)) (tAnd (tCmp .Lt (eLen (eNameL 3)) (eName 2)) (tConst true))) b_law_digits_1 fuel (dσ x b size acc) =
      some (.next, dσ x' b size (acc ++ ds)) ∧ ds.length ≤ rem ∧ InR b ds
  | rem, acc, x, fuel + 1, h1, h2 => by
    have e : (acc.map V.int).length = acc.length := List.length_map V.int
    by_cases hx : 0 < x
    · cases rem with
      | zero =>
        refine ⟨x, [], ?_, Nat.zero_le _, fun _ h => nomatch h⟩
        rw [List.append_nil]
        exact ev_whF (ev_andT (ev_cmp rfl rfl (iGtT hx)) (ev_and1 (ev_cmp (ev_len rfl rfl) rfl (iLtF fun q => absurd (e ▸ Int.ofNat_lt.mp q) (h1 ▸ Nat.lt_irrefl _)))))
      | succ rem =>
        obtain ⟨x', ds, e, e1, e2⟩ := dig_loop hb hb' hs rem (acc ++ [(x - 1).fmod b]) ((x - 1).fdiv b) fuel (by rw [List.length_append]; exact (Nat.add_right_comm acc.length 1 rem).trans h1) (Nat.lt_of_succ_lt_succ h2)
        have s := dig_step hb hb' hx (acc := acc) (h1 ▸ Nat.lt_add_of_pos_right (Nat.succ_pos rem)) hs
        refine ⟨x', (x - 1).fmod b :: ds, ?_, Nat.succ_le_succ e1, fun d hd => ?_⟩
        · rw [List.append_cons]
          exact ev_whT s.1 s.2 e
        · rcases List.mem_cons.mp hd with rfl | hd
          · exact ⟨Int.fmod_nonneg_of_pos _ hb, Int.fmod_lt_of_pos _ hb⟩
          · exact e2 d hd
    · refine ⟨x, [], ?_, Nat.zero_le _, fun _ h => nomatch h⟩
      rw [List.append_nil]
      exact ev_whF (ev_andF (ev_cmp rfl rfl (iGtF hx)))
theorem f_digits_is (x : Int) {b : Int} (hb : 0 < b) (hb' : b < 1000) {size : Nat} (hs : size ≤ 3) : ∃ ds : List Int, f_law_digits [.int x, .int b, .int size] = some (.lst (ds.map .int)) ∧ ds.length ≤ size ∧ InR b ds := by
  obtain ⟨x', ds, e, e1, e2⟩ := dig_loop hb hb' hs size [] x 60 (Nat.zero_add _) (Nat.lt_of_le_of_lt hs (by decide))
  refine ⟨ds, ?_, e1, e2⟩
  unfold f_law_digits
  rw [m_law_digits_eq]
  exact ap_fn rfl (ev_seq (ev_own rfl) (ev_seq e (ev_one (ev_ret rfl))))

/- a path's stay, by debts -/
structure Piece where
  text : List Nat
  signs : List (List Nat)
noncomputable def Piece.v (p : Piece) : V := .tup [strS p.text, .lst (p.signs.map strS)]
noncomputable def stayD : List Piece → List Piece × Nat
  | [] => ([], 0)
  | p :: r => if p.text = [46, 46] then ((stayD r).1, (stayD r).2 + 1) else if p.text = [] ∨ p.text = [46] then stayD r else (if (stayD r).2 = 0 then p :: (stayD r).1 else (stayD r).1, (stayD r).2 - 1)
theorem stayD_cons (p : Piece) (r : List Piece) : stayD (p :: r) = if p.text = [46, 46] then ((stayD r).1, (stayD r).2 + 1) else if p.text = [] ∨ p.text = [46] then stayD r else (if (stayD r).2 = 0 then p :: (stayD r).1 else (stayD r).1, (stayD r).2 - 1) := rfl
noncomputable def stay (l : List Piece) : List Piece := (stayD l).1
theorem dropR_snoc {α : Type} (l : List α) (x : α) (n : Nat) : (l ++ [x]).take ((l ++ [x]).length - (n + 1)) = l.take (l.length - n) := by
  rw [List.length_append]
  exact List.take_append_of_le_length (Nat.le_trans (Nat.le_of_eq (Nat.add_sub_add_right _ _ _)) (Nat.sub_le _ _)) |>.trans (congrArg (List.take · l) (Nat.add_sub_add_right l.length 1 n))
theorem dropR_last {α : Type} (l : List α) (n : Nat) : l.dropLast.take (l.dropLast.length - n) = l.take (l.length - (n + 1)) := by
  rw [List.dropLast_eq_take, List.take_take, List.length_take_of_le (Nat.sub_le _ _), Nat.sub_sub, Nat.add_comm 1 n]
  exact congrArg (List.take · l) (Nat.min_eq_left (Nat.sub_le_sub_left (Nat.le_add_left 1 n) _))
theorem stay_rs : ∀ (l : List Piece) (st : List (List Nat)), (l.map (·.text)).foldl rs st = st.take (st.length - (stayD l).2) ++ (stayD l).1.map (·.text)
  | [], st => by simp [stayD]
  | p :: r, st => by
    rw [List.map_cons, List.foldl_cons, stay_rs r, stayD_cons]
    generalize stayD r = z
    unfold rs
    by_cases h1 : p.text = [46, 46]
    · rw [if_neg (by rw [h1]; decide), if_pos h1, if_pos h1]
      show st.dropLast.take (st.dropLast.length - z.2) ++ _ = _
      rw [dropR_last]
    · by_cases h2 : p.text = [] ∨ p.text = [46]
      · rw [if_pos h2, if_neg h1, if_pos h2]
      · rw [if_neg h2, if_neg h1, if_neg h1, if_neg h2]
        obtain ⟨z1, z2⟩ := z
        cases z2 with
        | zero => show (st ++ [p.text]).take _ ++ _ = st.take st.length ++ (p.text :: z1.map (·.text)); rw [List.take_length]; exact (congrArg (· ++ _) List.take_length).trans (List.append_assoc _ _ _)
        | succ k => show (st ++ [p.text]).take ((st ++ [p.text]).length - (k + 1)) ++ _ = st.take (st.length - k) ++ _; rw [dropR_snoc]; rfl
theorem stay_res (l : List Piece) : res (l.map (·.text)) = (stay l).map (·.text) := by
  have := stay_rs l []
  rw [List.take_nil] at this
  exact this
theorem stay_sub : ∀ l : List Piece, (stayD l).1.Sublist l ∧ (stayD l).2 ≤ l.length
  | [] => ⟨List.Sublist.refl _, Nat.le_refl _⟩
  | p :: r => by
    obtain ⟨h1, h2⟩ := stay_sub r
    rw [stayD_cons]
    split
    · exact ⟨h1.cons _, Nat.succ_le_succ h2⟩
    split
    · exact ⟨h1.cons _, Nat.le_succ_of_le h2⟩
    · refine ⟨?_, Nat.le_succ_of_le (Nat.le_trans (Nat.sub_le _ _) h2)⟩
      show (if (stayD r).2 = 0 then _ else _ : List Piece).Sublist _
      split
      · exact h1.cons_cons _
      · exact h1.cons _
theorem stay_name {l : List Piece} {p : Piece} (h : p ∈ stay l) : p ∈ l ∧ p.text ≠ [] ∧ p.text ≠ [46] ∧ p.text ≠ [46, 46] := by
  induction l with
  | nil => exact absurd h (List.not_mem_nil)
  | cons q r ih =>
    have ih' : p ∈ (stayD r).1 → p ∈ q :: r ∧ p.text ≠ [] ∧ p.text ≠ [46] ∧ p.text ≠ [46, 46] := fun h => ⟨.tail _ (ih h).1, (ih h).2⟩
    unfold stay at h
    rw [stayD_cons] at h
    split at h
    · exact ih' h
    rename_i h1
    split at h
    · exact ih' h
    rename_i h2
    simp only at h
    split at h
    · rcases List.mem_cons.mp h with rfl | h
      · exact ⟨.head _, fun e => h2 (.inl e), fun e => h2 (.inr e), h1⟩
      · exact ih' h
    · exact ih' h
end Mine
end

noncomputable section
open PySem PySem.W PyProof.Rows
open Builtin Builtin.Str
set_option maxRecDepth 100000
namespace Mine

/- slices of lists -/
theorem sliceL_is (l : List V) (lo hi : Option Int) {a b : Nat} (ha : lo.elim 0 (clipAt l.length) = a) (hb : hi.elim l.length (clipAt l.length) = b) : vSlice (.lst l) lo hi none = some (.lst ((l.drop a).take (b - a))) := by
  have e : vPicks lo hi none l.length = (List.range (b - a)).map (a + ·) := by
    unfold vPicks
    rw [sliceBounds_plain, ha, hb]
    exact sliceRange_one a b
  show some (V.lst ((vPicks lo hi none l.length).filterMap (l[·]?))) = _
  rw [e, pickL]
theorem sliceL_from (l : List V) (a : Nat) : vSlice (.lst l) (some (a : Int)) none none = some (.lst (l.drop a)) := by
  rw [sliceL_is l (some (a : Int)) none (b := l.length) (clipAt_nat _ a) rfl, tk2]
theorem sliceL_to (l : List V) (b : Nat) : vSlice (.lst l) none (some (b : Int)) none = some (.lst (l.take b)) := by
  rw [sliceL_is l none (some (b : Int)) (a := 0) rfl (clipAt_nat _ b), tk1]
theorem picks_rev {α : Type} (l : List α) : ((List.range l.length).map (fun k => l.length - 1 - k)).filterMap (l[·]?) = l.reverse := by
  have e : (List.range l.length).map (fun k => l.length - 1 - k) = (List.range l.length).reverse := by
    rw [List.range_eq_range', List.reverse_range', Nat.zero_add, List.range_eq_range']
  have p := pickL l 0 l.length
  rw [List.drop_zero, List.take_length, List.map_congr_left (g := fun k => k) (fun k _ => Nat.zero_add k), List.map_id'] at p
  rw [e, List.filterMap_reverse, p]
theorem vPicks_rev (n : Nat) : vPicks none none (some (-1)) n = (List.range n).map fun k => n - 1 - k := by
  cases n with
  | zero => rfl
  | succ n =>
    show sliceRange (((n + 1 : Nat) : Int) - 1) (-1) (-1) = _
    rw [Int.natCast_succ, Int.add_sub_cancel]
    show (List.range (if (n : Int) > -1 then ((n : Int) - -1 - -1 - 1) / (- -1) else 0).toNat).map (fun k : Nat => ((n : Int) + -1 * (k : Int)).toNat) = _
    rw [if_pos (Int.lt_of_lt_of_le (by decide) (Int.natCast_nonneg n)), show ((n : Int) - -1 - -1 - 1) / (- -1) = ((n + 1 : Nat) : Int) from (Int.ediv_one _).trans (by omega)]
    refine List.map_congr_left fun k _ => ?_
    show ((n : Int) + -1 * (k : Int)).toNat = n - k
    rw [Int.neg_one_mul]
    exact Int.toNat_sub n k
theorem sliceL_rev (l : List V) : vSlice (.lst l) none none (some (-1)) = some (.lst l.reverse) := by
  show some (V.lst ((vPicks none none (some (-1)) l.length).filterMap (l[·]?))) = _
  rw [vPicks_rev, picks_rev]
theorem slice_ints (ns : List Int) (lo hi : Option Int) {st : Int} (h : st ≠ 0) : ∃ ms : List Int, vSlice (.lst (ns.map .int)) lo hi (some st) = some (.lst (ms.map .int)) := by
  refine ⟨(vPicks lo hi (some st) (ns.map V.int).length).filterMap (ns[·]?), ?_⟩
  simp only [vSlice]
  rw [if_pos (by simpa using h)]
  congr 2
  rw [List.map_filterMap]
  congr 1
  funext i
  simp
theorem vInts_map (ns : List Int) : vInts (ns.map .int) = some ns := by
  induction ns with
  | nil => rfl
  | cons n r ih => simp [vInts, ih]

@[simp] theorem veq_int (a b : Int) : veq (.int a) (.int b) = some (decide (a = b)) := rfl
@[simp] theorem vidx_tup0 (a : V) (r : List V) : vIdx (.tup (a :: r)) (.int 0) = some a := rfl
@[simp] theorem vidx_tup1 (a b : V) (r : List V) : vIdx (.tup (a :: b :: r)) (.int 1) = some b := rfl
theorem vidx_lst (l : List V) {k : Nat} (h : k < 900) : vIdx (.lst l) (.int (k : Int)) = l[k]? := by
  simp only [vIdx]
  rw [if_pos (by omega), if_pos (by omega)]
  simp

/- _law_stay -/
noncomputable def stepD (z : List Piece × Nat) (p : Piece) : List Piece × Nat := if p.text = [46, 46] then (z.1, z.2 + 1) else if p.text = [] ∨ p.text = [46] then z else (if z.2 = 0 then p :: z.1 else z.1, z.2 - 1)
theorem stayD_fold (l : List Piece) : l.reverse.foldl stepD ([], 0) = stayD l := by
  rw [List.foldl_reverse]
  induction l with
  | nil => rfl
  | cons p r ih => rw [List.foldr_cons, ih, stayD_cons]; rfl
theorem stepD_len (z : List Piece × Nat) (p : Piece) : (stepD z p).1.length ≤ z.1.length + 1 := by
  unfold stepD
  split
  · simp
  split
  · simp
  · simp only; split <;> simp
theorem nin2 (x : List Nat) : vCmp .NotIn (strS x) (.lst [strS [], strS [46]]) = some (!(decide ([] = x) || (decide ([46] = x) || false))) := by
  rw [← S_beq, ← S_beq]
  show some (!((some (S [] == S x) == some true) || ((some (S [46] == S x) == some true) || false))) = _
  cases S [] == S x <;> cases S [46] == S x <;> rfl
theorem stay_body {p0 : Option V} {z : List Piece × Nat} {p : Piece} (hz : z.1.length ≤ 900) :
    b_law_stay_1 [p0, some (.lst (z.1.map Piece.v)), some (.int (z.2 : Int)), some p.v] = some (.next, [p0, some (.lst ((stepD z p).1.map Piece.v)), some (.int ((stepD z p).2 : Int)), some p.v]) := by
  unfold stepD
  by_cases h1 : p.text = [46, 46]
  · rw [if_pos h1]
    exact ev_one (ev_ifT (ev_cmp (ev_idx rfl rfl rfl) s_dd (cEqT h1)) (ev_one (ev_aug rfl rfl rfl rfl)))
  rw [if_neg h1]
  have c : ∀ {q : Bool} {r : Option (Fl × Sig)}, (!(decide ([] = p.text) || (decide ([46] = p.text) || false))) = q → (q = true → sSeq (sAsg 1 (eIf (tCmp .Eq (eName 2) (eInt 0)) (eBin .Add (eLst (esCons (eName 3) esNil)) (eName 1)) (eName 1))) (sSeq (sAsg 2 (eCallV fMax (esCons (eBin .Sub (eName 2) (eInt 1)) (esCons (eInt 0) esNil)))) sNil) [p0, some (.lst (z.1.map Piece.v)), some (.int (z.2 : Int)), some p.v] = r) →
      (q = false → some (.next, [p0, some (.lst (z.1.map Piece.v)), some (.int (z.2 : Int)), some p.v]) = r) → (∃ σ, r = some (.next, σ)) → b_law_stay_1 [p0, some (.lst (z.1.map Piece.v)), some (.int (z.2 : Int)), some p.v] = r := by
    intro q r e h2 h3 ⟨σ, hr⟩
    subst hr
    have t := ev_cmp (op := .NotIn) (σ := [p0, some (.lst (z.1.map Piece.v)), some (.int (z.2 : Int)), some p.v]) (f := eIdx (eName 3) (eInt 0)) (h := eLst (esCons (eStr "") (esCons (eStr ".") esNil))) (ev_idx rfl rfl rfl) (ev_lst (ev_cons s_nil (ev_sing s_dot)) (leK rfl)) (nin2 p.text)
    rw [e] at t
    refine ev_one (ev_ifF (ev_cmp (ev_idx rfl rfl rfl) s_dd (cEqF h1)) (ev_one ?_))
    cases q with
    | true => exact ev_ifT t (h2 rfl)
    | false => exact ev_ifF t (h3 rfl)
  by_cases h2 : p.text = [] ∨ p.text = [46]
  · rw [if_pos h2]
    refine c (q := false) ?_ (fun h => nomatch h) (fun _ => rfl) ⟨_, rfl⟩
    rcases h2 with h | h <;> rw [h] <;> rfl
  rw [if_neg h2]
  refine c (q := true) ?_ (fun _ => ?_) (fun h => nomatch h) ⟨_, rfl⟩
  · rw [decide_eq_false fun e => h2 (.inl e.symm), decide_eq_false fun e => h2 (.inr e.symm)]; rfl
  have hm : fMax [.int ((z.2 : Int) - 1), .int 0] = some (.int ((z.2 - 1 : Nat) : Int)) := by
    show some (V.int (max ((z.2 : Int) - 1) 0)) = _
    cases z.2 with
    | zero => rfl
    | succ n => rw [Int.max_eq_left (by rw [Int.natCast_succ, Int.add_sub_cancel]; exact Int.natCast_nonneg n), Int.natCast_succ, Int.add_sub_cancel]; rfl
  by_cases h4 : z.2 = 0
  · rw [if_pos h4]
    have ha : vBin .Add (.lst [p.v]) (.lst (z.1.map Piece.v)) = some (.lst (p.v :: z.1.map Piece.v)) := if_pos (by rw [List.length_map, List.length_singleton]; exact Nat.le_trans (Nat.add_le_add_left hz 1) (by decide))
    exact ev_seq (ev_asg (ev_eifT (ev_cmp rfl rfl (iEqT (congrArg Int.ofNat h4))) (ev_bin (ev_lst (ev_sing rfl) (leK rfl)) rfl ha))) (ev_one (ev_asg (ev_call (ev_cons (ev_bin rfl rfl rfl) (ev_sing rfl)) hm)))
  · rw [if_neg h4]
    exact ev_seq (ev_asg (ev_eifF (ev_cmp rfl rfl (iEqF fun e => h4 (Int.ofNat.inj e))) rfl)) (ev_one (ev_asg (ev_call (ev_cons (ev_bin rfl rfl rfl) (ev_sing rfl)) hm)))
theorem stay_loop {p0 : Option V} : ∀ (l : List Piece) (z : List Piece × Nat) (x : Option V), z.1.length + l.length ≤ 900 →
    ∃ y, forL (aName 3) b_law_stay_1 (l.map Piece.v) [p0, some (.lst (z.1.map Piece.v)), some (.int (z.2 : Int)), x] = some (.next, [p0, some (.lst ((l.foldl stepD z).1.map Piece.v)), some (.int ((l.foldl stepD z).2 : Int)), y])
  | [], z, x, _ => ⟨x, rfl⟩
  | p :: l, z, x, h => by
    rw [List.length_cons] at h
    have := stepD_len z p
    obtain ⟨y, ih⟩ := stay_loop l (stepD z p) (some p.v) (by omega)
    refine ⟨y, ?_⟩
    rw [List.map_cons, forL, ap_aname]
    simp only [Option.bind_some, List.set_cons_succ, List.set_cons_zero]
    rw [stay_body (by omega)]
    exact ih
theorem f_stay_is {l : List Piece} (h : l.length ≤ 900) : f_law_stay [.lst (l.map Piece.v)] = some (.lst ((stay l).map Piece.v)) := by
  obtain ⟨y, lp⟩ := stay_loop (p0 := some (.lst (l.map Piece.v))) l.reverse ([], 0) none (by simp; omega)
  rw [stayD_fold] at lp
  have sr := sliceL_rev (l.map Piece.v)
  rw [← List.map_reverse] at sr
  unfold f_law_stay
  rw [m_law_stay_eq]
  refine ap_fn (d := [.lst (l.map Piece.v)]) rfl (σ' := [some (.lst (l.map Piece.v)), some (.lst ((stayD l).1.map Piece.v)), some (.int ((stayD l).2 : Int)), y]) ?_
  simp only [List.map_nil] at lp
  simp [sr]
  simp at lp
  simp [lp, stay]
end Mine
end

noncomputable section
open PySem PySem.W PyProof.Rows
open Builtin Builtin.Str
set_option maxRecDepth 100000
namespace Mine
/-- the items: the text, the signs, what is read of it -/
noncomputable def tx : Nat → List Nat
  | 0 => []
  | 1 => [42]
  | 2 => [63]
  | 3 => [97]
  | 4 => [98]
  | 5 => [46]
  | 6 => [45]
  | 7 => [91, 33, 97, 93]
  | 8 => [91, 97, 45, 98, 93]
  | 9 => [91, 98, 45, 97, 93]
  | 10 => [91, 98, 45, 97, 33, 97, 93]
  | 11 => [91, 33, 98, 45, 97, 93]
  | 12 => [91, 45, 45, 46, 93]
  | 13 => [91, 97, 45, 93]
  | 14 => [91, 33, 46, 45, 93]
  | 15 => [91, 93, 45, 97, 93]
  | 16 => [91, 33, 45, 98, 45, 97, 93]
  | 17 => [91, 94, 92, 93]
  | _ => []
noncomputable def sgc : Nat → List Nat
  | 1 => [42]
  | 2 => [97, 98, 46, 45, 94, 92]
  | 3 => [97]
  | 4 => [98]
  | 5 => [46]
  | 6 => [45]
  | 7 => [98, 46, 45, 94, 92]
  | 8 => [97, 98]
  | 9 => []
  | 10 => [98, 46, 45, 94, 92]
  | 11 => [97, 98, 46, 45, 94, 92]
  | 12 => [45, 46]
  | 13 => [97, 45]
  | 14 => [97, 98, 94, 92]
  | 15 => [94, 97]
  | 16 => [97, 98, 46, 94, 92]
  | 17 => [94, 92]
  | _ => []
noncomputable def pu : Nat → List Nat
  | 2 => [46]
  | 3 => [97]
  | 4 => [98]
  | 5 => [92, 46]
  | 6 => [92, 45]
  | 7 => [91, 94, 97, 93]
  | 8 => [91, 97, 45, 98, 93]
  | 9 => [40, 63, 33, 41]
  | 10 => [91, 94, 97, 93]
  | 11 => [46]
  | 12 => [91, 92, 45, 45, 46, 93]
  | 13 => [91, 97, 92, 45, 93]
  | 14 => [91, 94, 46, 92, 45, 93]
  | 15 => [91, 93, 45, 97, 93]
  | 16 => [91, 94, 92, 45, 93]
  | 17 => [91, 92, 94, 92, 92, 93]
  | _ => []
noncomputable def part (k : Nat) : V := if k = 1 then .none else strS (pu k)
noncomputable def nz (k : Nat) : List Nat := if k = 0 then [] else [k]
noncomputable def sg (k : Nat) : List (List Nat) := (nz k).map sgc
/-- what is read of two items -/
noncomputable def kinds (a b : Nat) : List Nat := if a = 1 ∧ b = 1 then [1] else nz a ++ nz b
noncomputable def cat (a b : Nat) : List V := (kinds a b).map part
noncomputable def ks : List Nat := [1, 2, 3, 4, 5, 6, 7, 8, 9, 10, 11, 12, 13, 14, 15, 16, 17]
noncomputable def ks2 : List Nat := [2, 3, 4, 5, 6, 7, 8, 9, 10, 11, 12, 13, 14, 15, 16, 17]
theorem ks_mem {k : Nat} (h0 : k ≠ 0) (h : k < 18) : k ∈ ks := (show ∀ k ∈ List.range 18, k ≠ 0 → k ∈ ks by decide) k (List.mem_range.mpr h) h0
theorem ks2_mem {k : Nat} (h0 : k ≠ 0) (h1 : k ≠ 1) (h : k < 18) : k ∈ ks2 := (show ∀ k ∈ List.range 18, k ≠ 0 → k ≠ 1 → k ∈ ks2 by decide) k (List.mem_range.mpr h) h0 h1
theorem nz_pos {k : Nat} (h : k ≠ 0) : nz k = [k] := if_neg h

/-- the state of _translate between its turns -/
noncomputable def trS (x : List Nat) (R : List V) (i : Nat) (os : List (Option V)) : Sig := some (strS x) :: some .none :: some (strS [46]) :: some (.lst R) :: some (.int 3) :: some (.int i) :: some (.int x.length) :: os
noncomputable def okz : Option V → Bool
  | none => true
  | some (.lst _) => true
  | _ => false
noncomputable def trP (r : Option (Fl × Sig)) : Option (Sig × Bool × Bool) := r.bind fun p => match p.1 with
  | .next => some (p.2.take 7, okz (p.2.getD 10 none), Nat.beq p.2.length 13)
  | _ => none
noncomputable def trE (x : List Nat) (R : List V) (i : Nat) : Option (Sig × Bool × Bool) := some (trS x R i [], true, true)
theorem trP_some {r : Option (Fl × Sig)} {x : List Nat} {R : List V} {i : Nat} (h : trP r = trE x R i) : ∃ os, os.length = 6 ∧ okz (os.getD 3 none) = true ∧ r = some (.next, trS x R i os) := by
  obtain ⟨⟨fl, σ⟩, rfl, h⟩ := bnd h
  cases fl with
  | next =>
    have h := sos h
    refine ⟨σ.drop 7, ?_, ?_, ?_⟩
    · rw [List.length_drop, Nat.eq_of_beq_eq_true (congrArg (·.2.2) h)]
    · rw [List.getD_eq_getElem?_getD, List.getElem?_drop, ← List.getD_eq_getElem?_getD]
      exact congrArg (·.2.1) h
    · rw [show trS x R i (σ.drop 7) = trS x R i [] ++ σ.drop 7 from rfl, show trS x R i [] = σ.take 7 from (congrArg Prod.fst h).symm, List.take_append_drop]
  | _ => exact nos h
/-- of all lists of a length -/
noncomputable def forN {α : Type} : Nat → (List α → Prop) → Prop
  | 0, P => P []
  | n + 1, P => ∀ a, forN n fun l => P (a :: l)
theorem forN_of {α : Type} : ∀ {n : Nat} {P : List α → Prop}, forN n P → ∀ l, l.length = n → P l
  | 0, _, h, [], _ => h
  | _ + 1, _, h, a :: l, e => forN_of (h a) l (Nat.succ.inj e)
noncomputable def lens : List Nat := [0, 1, 4, 5, 6, 7]
noncomputable def lens1 : List Nat := [1, 4, 5, 6, 7]
theorem tx_lens {k : Nat} (h : k < 18) : (tx k).length ∈ lens := (show ∀ k ∈ List.range 18, (tx k).length ∈ lens by decide) k (List.mem_range.mpr h)
theorem tx_lens1 {k : Nat} (h0 : k ≠ 0) (h : k < 18) : (tx k).length ∈ lens1 := (show ∀ k ∈ List.range 18, k ≠ 0 → (tx k).length ∈ lens1 by decide) k (List.mem_range.mpr h) h0
/-- all items, ahead of these signs -/
noncomputable def itF (l : List Nat) : Prop := (ks.map fun k => trP (b_translate_4 (trS (tx k ++ l) [] 0 [none, none, none, none, none, none]))) = ks.map fun k => trE (tx k ++ l) [part k] (tx k).length
/-- all items but the star, behind these signs -/
noncomputable def itS (os : List (Option V)) (r : V) (l : List Nat) : Prop := (ks2.map fun k => trP (b_translate_4 (trS (l ++ tx k) [r] l.length os))) = ks2.map fun k => trE (l ++ tx k) [r, part k] (l ++ tx k).length
/-- the star, behind these signs -/
noncomputable def it1 (os : List (Option V)) (r : V) (R : List V) (l : List Nat) : Prop := trP (b_translate_4 (trS (l ++ tx 1) [r] l.length os)) = trE (l ++ tx 1) R (l ++ tx 1).length
theorem itF0 : itF [] := by delta itF; kernel_rfl
theorem itF1 (a : Nat) : itF [a] := by delta itF; kernel_rfl
theorem itF4 (a b c d : Nat) : itF [a, b, c, d] := by delta itF; kernel_rfl
theorem itF5 (a b c d e : Nat) : itF [a, b, c, d, e] := by delta itF; kernel_rfl
theorem itF6 (a b c d e f : Nat) : itF [a, b, c, d, e, f] := by delta itF; kernel_rfl
theorem itF7 (a b c d e f g : Nat) : itF [a, b, c, d, e, f, g] := by delta itF; kernel_rfl
theorem itFs : ∀ n ∈ lens, forN n itF := List.forall_mem_cons.mpr ⟨itF0, List.forall_mem_cons.mpr ⟨itF1, List.forall_mem_cons.mpr ⟨itF4, List.forall_mem_cons.mpr ⟨itF5, List.forall_mem_cons.mpr ⟨itF6, List.forall_mem_cons.mpr ⟨itF7, fun _ h => nomatch h⟩⟩⟩⟩⟩⟩
theorem itS1n (x1 x2 x3 x5 x6 : Option V) (r : V) (a : Nat) : itS [x1, x2, x3, none, x5, x6] r [a] := by delta itS; kernel_rfl
theorem it1a1n (x1 x2 x3 x5 x6 : Option V) (u : List Nat) (a : Nat) : it1 [x1, x2, x3, none, x5, x6] (strS u) [strS u, .none] [a] := by delta it1; kernel_rfl
theorem it1b1n (x1 x2 x3 x5 x6 : Option V) (a : Nat) : it1 [x1, x2, x3, none, x5, x6] .none [.none] [a] := by delta it1; kernel_rfl
theorem itS4n (x1 x2 x3 x5 x6 : Option V) (r : V) (a b c d : Nat) : itS [x1, x2, x3, none, x5, x6] r [a, b, c, d] := by delta itS; kernel_rfl
theorem it1a4n (x1 x2 x3 x5 x6 : Option V) (u : List Nat) (a b c d : Nat) : it1 [x1, x2, x3, none, x5, x6] (strS u) [strS u, .none] [a, b, c, d] := by delta it1; kernel_rfl
theorem it1b4n (x1 x2 x3 x5 x6 : Option V) (a b c d : Nat) : it1 [x1, x2, x3, none, x5, x6] .none [.none] [a, b, c, d] := by delta it1; kernel_rfl
theorem itS5n (x1 x2 x3 x5 x6 : Option V) (r : V) (a b c d e : Nat) : itS [x1, x2, x3, none, x5, x6] r [a, b, c, d, e] := by delta itS; kernel_rfl
theorem it1a5n (x1 x2 x3 x5 x6 : Option V) (u : List Nat) (a b c d e : Nat) : it1 [x1, x2, x3, none, x5, x6] (strS u) [strS u, .none] [a, b, c, d, e] := by delta it1; kernel_rfl
theorem it1b5n (x1 x2 x3 x5 x6 : Option V) (a b c d e : Nat) : it1 [x1, x2, x3, none, x5, x6] .none [.none] [a, b, c, d, e] := by delta it1; kernel_rfl
theorem itS6n (x1 x2 x3 x5 x6 : Option V) (r : V) (a b c d e f : Nat) : itS [x1, x2, x3, none, x5, x6] r [a, b, c, d, e, f] := by delta itS; kernel_rfl
theorem it1a6n (x1 x2 x3 x5 x6 : Option V) (u : List Nat) (a b c d e f : Nat) : it1 [x1, x2, x3, none, x5, x6] (strS u) [strS u, .none] [a, b, c, d, e, f] := by delta it1; kernel_rfl
theorem it1b6n (x1 x2 x3 x5 x6 : Option V) (a b c d e f : Nat) : it1 [x1, x2, x3, none, x5, x6] .none [.none] [a, b, c, d, e, f] := by delta it1; kernel_rfl
theorem itS7n (x1 x2 x3 x5 x6 : Option V) (r : V) (a b c d e f g : Nat) : itS [x1, x2, x3, none, x5, x6] r [a, b, c, d, e, f, g] := by delta itS; kernel_rfl
theorem it1a7n (x1 x2 x3 x5 x6 : Option V) (u : List Nat) (a b c d e f g : Nat) : it1 [x1, x2, x3, none, x5, x6] (strS u) [strS u, .none] [a, b, c, d, e, f, g] := by delta it1; kernel_rfl
theorem it1b7n (x1 x2 x3 x5 x6 : Option V) (a b c d e f g : Nat) : it1 [x1, x2, x3, none, x5, x6] .none [.none] [a, b, c, d, e, f, g] := by delta it1; kernel_rfl
theorem itSsn (x1 x2 x3 x5 x6 : Option V) (r : V) : ∀ n ∈ lens1, forN n (itS [x1, x2, x3, none, x5, x6] r) := List.forall_mem_cons.mpr ⟨itS1n x1 x2 x3 x5 x6 r, List.forall_mem_cons.mpr ⟨itS4n x1 x2 x3 x5 x6 r, List.forall_mem_cons.mpr ⟨itS5n x1 x2 x3 x5 x6 r, List.forall_mem_cons.mpr ⟨itS6n x1 x2 x3 x5 x6 r, List.forall_mem_cons.mpr ⟨itS7n x1 x2 x3 x5 x6 r, fun _ h => nomatch h⟩⟩⟩⟩⟩
theorem it1asn (x1 x2 x3 x5 x6 : Option V) (u : List Nat) : ∀ n ∈ lens1, forN n (it1 [x1, x2, x3, none, x5, x6] (strS u) [strS u, .none]) := List.forall_mem_cons.mpr ⟨it1a1n x1 x2 x3 x5 x6 u, List.forall_mem_cons.mpr ⟨it1a4n x1 x2 x3 x5 x6 u, List.forall_mem_cons.mpr ⟨it1a5n x1 x2 x3 x5 x6 u, List.forall_mem_cons.mpr ⟨it1a6n x1 x2 x3 x5 x6 u, List.forall_mem_cons.mpr ⟨it1a7n x1 x2 x3 x5 x6 u, fun _ h => nomatch h⟩⟩⟩⟩⟩
theorem it1bsn (x1 x2 x3 x5 x6 : Option V) : ∀ n ∈ lens1, forN n (it1 [x1, x2, x3, none, x5, x6] .none [.none]) := List.forall_mem_cons.mpr ⟨it1b1n x1 x2 x3 x5 x6, List.forall_mem_cons.mpr ⟨it1b4n x1 x2 x3 x5 x6, List.forall_mem_cons.mpr ⟨it1b5n x1 x2 x3 x5 x6, List.forall_mem_cons.mpr ⟨it1b6n x1 x2 x3 x5 x6, List.forall_mem_cons.mpr ⟨it1b7n x1 x2 x3 x5 x6, fun _ h => nomatch h⟩⟩⟩⟩⟩
theorem itS1s (x1 x2 x3 x5 x6 : Option V) (z : List V) (r : V) (a : Nat) : itS [x1, x2, x3, some (.lst z), x5, x6] r [a] := by delta itS; kernel_rfl
theorem it1a1s (x1 x2 x3 x5 x6 : Option V) (z : List V) (u : List Nat) (a : Nat) : it1 [x1, x2, x3, some (.lst z), x5, x6] (strS u) [strS u, .none] [a] := by delta it1; kernel_rfl
theorem it1b1s (x1 x2 x3 x5 x6 : Option V) (z : List V) (a : Nat) : it1 [x1, x2, x3, some (.lst z), x5, x6] .none [.none] [a] := by delta it1; kernel_rfl
theorem itS4s (x1 x2 x3 x5 x6 : Option V) (z : List V) (r : V) (a b c d : Nat) : itS [x1, x2, x3, some (.lst z), x5, x6] r [a, b, c, d] := by delta itS; kernel_rfl
theorem it1a4s (x1 x2 x3 x5 x6 : Option V) (z : List V) (u : List Nat) (a b c d : Nat) : it1 [x1, x2, x3, some (.lst z), x5, x6] (strS u) [strS u, .none] [a, b, c, d] := by delta it1; kernel_rfl
theorem it1b4s (x1 x2 x3 x5 x6 : Option V) (z : List V) (a b c d : Nat) : it1 [x1, x2, x3, some (.lst z), x5, x6] .none [.none] [a, b, c, d] := by delta it1; kernel_rfl
theorem itS5s (x1 x2 x3 x5 x6 : Option V) (z : List V) (r : V) (a b c d e : Nat) : itS [x1, x2, x3, some (.lst z), x5, x6] r [a, b, c, d, e] := by delta itS; kernel_rfl
theorem it1a5s (x1 x2 x3 x5 x6 : Option V) (z : List V) (u : List Nat) (a b c d e : Nat) : it1 [x1, x2, x3, some (.lst z), x5, x6] (strS u) [strS u, .none] [a, b, c, d, e] := by delta it1; kernel_rfl
theorem it1b5s (x1 x2 x3 x5 x6 : Option V) (z : List V) (a b c d e : Nat) : it1 [x1, x2, x3, some (.lst z), x5, x6] .none [.none] [a, b, c, d, e] := by delta it1; kernel_rfl
theorem itS6s (x1 x2 x3 x5 x6 : Option V) (z : List V) (r : V) (a b c d e f : Nat) : itS [x1, x2, x3, some (.lst z), x5, x6] r [a, b, c, d, e, f] := by delta itS; kernel_rfl
theorem it1a6s (x1 x2 x3 x5 x6 : Option V) (z : List V) (u : List Nat) (a b c d e f : Nat) : it1 [x1, x2, x3, some (.lst z), x5, x6] (strS u) [strS u, .none] [a, b, c, d, e, f] := by delta it1; kernel_rfl
theorem it1b6s (x1 x2 x3 x5 x6 : Option V) (z : List V) (a b c d e f : Nat) : it1 [x1, x2, x3, some (.lst z), x5, x6] .none [.none] [a, b, c, d, e, f] := by delta it1; kernel_rfl
theorem itS7s (x1 x2 x3 x5 x6 : Option V) (z : List V) (r : V) (a b c d e f g : Nat) : itS [x1, x2, x3, some (.lst z), x5, x6] r [a, b, c, d, e, f, g] := by delta itS; kernel_rfl
theorem it1a7s (x1 x2 x3 x5 x6 : Option V) (z : List V) (u : List Nat) (a b c d e f g : Nat) : it1 [x1, x2, x3, some (.lst z), x5, x6] (strS u) [strS u, .none] [a, b, c, d, e, f, g] := by delta it1; kernel_rfl
theorem it1b7s (x1 x2 x3 x5 x6 : Option V) (z : List V) (a b c d e f g : Nat) : it1 [x1, x2, x3, some (.lst z), x5, x6] .none [.none] [a, b, c, d, e, f, g] := by delta it1; kernel_rfl
theorem itSss (x1 x2 x3 x5 x6 : Option V) (z : List V) (r : V) : ∀ n ∈ lens1, forN n (itS [x1, x2, x3, some (.lst z), x5, x6] r) := List.forall_mem_cons.mpr ⟨itS1s x1 x2 x3 x5 x6 z r, List.forall_mem_cons.mpr ⟨itS4s x1 x2 x3 x5 x6 z r, List.forall_mem_cons.mpr ⟨itS5s x1 x2 x3 x5 x6 z r, List.forall_mem_cons.mpr ⟨itS6s x1 x2 x3 x5 x6 z r, List.forall_mem_cons.mpr ⟨itS7s x1 x2 x3 x5 x6 z r, fun _ h => nomatch h⟩⟩⟩⟩⟩
theorem it1ass (x1 x2 x3 x5 x6 : Option V) (z : List V) (u : List Nat) : ∀ n ∈ lens1, forN n (it1 [x1, x2, x3, some (.lst z), x5, x6] (strS u) [strS u, .none]) := List.forall_mem_cons.mpr ⟨it1a1s x1 x2 x3 x5 x6 z u, List.forall_mem_cons.mpr ⟨it1a4s x1 x2 x3 x5 x6 z u, List.forall_mem_cons.mpr ⟨it1a5s x1 x2 x3 x5 x6 z u, List.forall_mem_cons.mpr ⟨it1a6s x1 x2 x3 x5 x6 z u, List.forall_mem_cons.mpr ⟨it1a7s x1 x2 x3 x5 x6 z u, fun _ h => nomatch h⟩⟩⟩⟩⟩
theorem it1bss (x1 x2 x3 x5 x6 : Option V) (z : List V) : ∀ n ∈ lens1, forN n (it1 [x1, x2, x3, some (.lst z), x5, x6] .none [.none]) := List.forall_mem_cons.mpr ⟨it1b1s x1 x2 x3 x5 x6 z, List.forall_mem_cons.mpr ⟨it1b4s x1 x2 x3 x5 x6 z, List.forall_mem_cons.mpr ⟨it1b5s x1 x2 x3 x5 x6 z, List.forall_mem_cons.mpr ⟨it1b6s x1 x2 x3 x5 x6 z, List.forall_mem_cons.mpr ⟨it1b7s x1 x2 x3 x5 x6 z, fun _ h => nomatch h⟩⟩⟩⟩⟩
/-- the rest of the state, as it may be -/
theorem rests {P : List (Option V) → Prop} (hn : ∀ x1 x2 x3 x5 x6, P [x1, x2, x3, none, x5, x6]) (hs : ∀ x1 x2 x3 x5 x6 z, P [x1, x2, x3, some (.lst z), x5, x6]) : ∀ os, os.length = 6 → okz (os.getD 3 none) = true → P os
  | [x1, x2, x3, none, x5, x6], _, _ => hn x1 x2 x3 x5 x6
  | [x1, x2, x3, some v, x5, x6], _, h => by
    cases v with
    | lst z => exact hs x1 x2 x3 x5 x6 z
    | _ => exact nomatch h
theorem fst_is {k : Nat} (h0 : k ≠ 0) (h : k < 18) {l : List Nat} (hl : l.length ∈ lens) : trP (b_translate_4 (trS (tx k ++ l) [] 0 [none, none, none, none, none, none])) = trE (tx k ++ l) [part k] (tx k).length :=
  List.map_inj_left.mp (forN_of (itFs _ hl) l rfl : itF l) k (ks_mem h0 h)
theorem snd_is {a b : Nat} (a0 : a ≠ 0) (b0 : b ≠ 0) (hb : b < 18) {os : List (Option V)} (ho : os.length = 6) (hz : okz (os.getD 3 none) = true) {l : List Nat} (hl : l.length ∈ lens1) :
    trP (b_translate_4 (trS (l ++ tx b) [part a] l.length os)) = trE (l ++ tx b) (cat a b) (l ++ tx b).length := by
  unfold cat kinds
  by_cases b1 : b = 1
  · subst b1
    by_cases a1 : a = 1
    · subst a1
      exact rests (P := fun os => it1 os .none [.none] l) (fun x1 x2 x3 x5 x6 => forN_of (it1bsn x1 x2 x3 x5 x6 _ hl) l rfl) (fun x1 x2 x3 x5 x6 z => forN_of (it1bss x1 x2 x3 x5 x6 z _ hl) l rfl) os ho hz
    · rw [if_neg fun h => a1 h.1, nz_pos a0]
      have e : part a = strS (pu a) := if_neg a1
      show trP (b_translate_4 (trS (l ++ tx 1) [part a] l.length os)) = trE (l ++ tx 1) [part a, .none] (l ++ tx 1).length
      rw [e]
      exact rests (P := fun os => it1 os (strS (pu a)) [strS (pu a), .none] l) (fun x1 x2 x3 x5 x6 => forN_of (it1asn x1 x2 x3 x5 x6 _ _ hl) l rfl) (fun x1 x2 x3 x5 x6 z => forN_of (it1ass x1 x2 x3 x5 x6 z _ _ hl) l rfl) os ho hz
  · rw [if_neg fun h => b1 h.2, nz_pos a0, nz_pos b0]
    exact List.map_inj_left.mp (rests (P := fun os => itS os (part a) l) (fun x1 x2 x3 x5 x6 => forN_of (itSsn x1 x2 x3 x5 x6 _ _ hl) l rfl) (fun x1 x2 x3 x5 x6 z => forN_of (itSss x1 x2 x3 x5 x6 z _ _ hl) l rfl) os ho hz) b (ks2_mem b0 b1 hb)
theorem tr_end {x : List Nat} {R : List V} {os : List (Option V)} {n : Nat} : whileL (tCmp .Lt (eName 5) (eName 6)) b_translate_4 (n + 1) (trS x R x.length os) = some (.next, trS x R x.length os) :=
  ev_whF (ev_cmp rfl rfl (iLtF (Int.lt_irrefl _)))
theorem tr_turn {x : List Nat} {R : List V} {i : Nat} {os : List (Option V)} {n : Nat} {σ : Sig} {r : Option (Fl × Sig)} (h : i < x.length) (e : b_translate_4 (trS x R i os) = some (.next, σ)) (e' : whileL (tCmp .Lt (eName 5) (eName 6)) b_translate_4 n σ = r) : whileL (tCmp .Lt (eName 5) (eName 6)) b_translate_4 (n + 1) (trS x R i os) = r :=
  ev_whT (ev_cmp rfl rfl (iLtT (Int.ofNat_lt.mpr h))) e e'
theorem tx_pos {k : Nat} (h0 : k ≠ 0) (h : k < 18) : 0 < (tx k).length := (show ∀ k ∈ List.range 18, k ≠ 0 → 0 < (tx k).length by decide) k (List.mem_range.mpr h) h0
theorem tr_one {k : Nat} (h0 : k ≠ 0) (h : k < 18) : ∃ os, whileL (tCmp .Lt (eName 5) (eName 6)) b_translate_4 60 (trS (tx k) [] 0 [none, none, none, none, none, none]) = some (.next, trS (tx k) [part k] (tx k).length os) := by
  have f := fst_is h0 h (l := []) (by decide)
  rw [List.append_nil] at f
  obtain ⟨os, _, _, e⟩ := trP_some f
  exact ⟨os, tr_turn (tx_pos h0 h) e tr_end⟩
theorem tr_loop {a b : Nat} (ha : a < 18) (hb : b < 18) : ∃ os, whileL (tCmp .Lt (eName 5) (eName 6)) b_translate_4 60 (trS (tx a ++ tx b) [] 0 [none, none, none, none, none, none]) = some (.next, trS (tx a ++ tx b) (cat a b) (tx a ++ tx b).length os) := by
  by_cases a0 : a = 0
  · subst a0
    by_cases b0 : b = 0
    · subst b0; exact ⟨_, tr_end (x := [])⟩
    · have e : cat 0 b = [part b] := by
        unfold cat kinds
        rw [if_neg (show ¬ (0 = 1 ∧ b = 1) from fun h => nomatch h.1), nz_pos b0]; rfl
      rw [e]; exact tr_one b0 hb
  · by_cases b0 : b = 0
    · subst b0
      have e : cat a 0 = [part a] := by
        unfold cat kinds
        rw [if_neg (show ¬ (a = 1 ∧ 0 = 1) from fun h => nomatch h.2), nz_pos a0]; rfl
      rw [e, show tx 0 = [] from rfl, List.append_nil]; exact tr_one a0 ha
    · obtain ⟨os, o1, o2, e⟩ := trP_some (fst_is a0 ha (tx_lens hb))
      obtain ⟨os', _, _, e'⟩ := trP_some (snd_is a0 b0 hb o1 o2 (tx_lens1 a0 ha))
      have l1 : (tx a ++ tx b).length = (tx a).length + (tx b).length := List.length_append
      exact ⟨os', tr_turn (l1 ▸ Nat.add_pos_left (tx_pos a0 ha) _) e (tr_turn (l1 ▸ Nat.lt_add_of_pos_right (tx_pos b0 hb)) e' tr_end)⟩
theorem f_translate_is {a b : Nat} (ha : a < 18) (hb : b < 18) : f_translate [strS (tx a ++ tx b), .none, strS [46]] = some (.lst (cat a b)) := by
  obtain ⟨os, lp⟩ := tr_loop ha hb
  refine ap_fn (d := [strS (tx a ++ tx b), .none, strS [46]]) (σ' := trS (tx a ++ tx b) (cat a b) (tx a ++ tx b).length os) rfl ?_
  rw [m_translate_eq]
  have bn : ∀ σ : Sig, eNameL 3 σ = some (.lst []) → noBm ft0_translate 3 σ = true → sBind ft0_translate 3 4 σ = some (.next, σ.set 4 (some (.int 3))) := by
    intro σ h1 h2
    unfold sBind
    rw [h1]; exact if_pos h2
  have as : sAssert (tCmp .Eq (eName 5) (eName 6)) (trS (tx a ++ tx b) (cat a b) (tx a ++ tx b).length os) = some (.next, trS (tx a ++ tx b) (cat a b) (tx a ++ tx b).length os) := by
    unfold sAssert
    rw [ev_cmp (q := true) rfl rfl (iEqT rfl)]; rfl
  exact ev_seq (ev_own rfl) (ev_seq (bn _ rfl rfl) (ev_seq (ev_asgW (ev_tup (ev_cons rfl (ev_sing (ev_len rfl (congrArg (fun n : Nat => some (V.int n)) (S_len _))))) (leK rfl)) rfl rfl) (ev_seq lp (ev_seq as (ev_one (ev_ret rfl))))))
end Mine
end

noncomputable section
open PySem PySem.W PyProof.Rows
open Builtin Builtin.Str
set_option maxRecDepth 100000
namespace Mine
noncomputable def nats (l : List Nat) : List V := l.map fun (k : Nat) => V.int (k : Int)
noncomputable def W : List (List Nat) := [[97], [98], [97, 98], [46, 46], [97, 46], [45, 98], [], [46], [94], [97, 92]]
/-- the names that may stay -/
noncomputable def W2 : List (List Nat) := [[97], [98], [97, 98], [97, 46], [45, 98], [94], [97, 92]]
/-- the sets of places of a name -/
noncomputable def plc (n : List Nat) : List (List Nat) := if n.length = 1 then [[], [0], [1], [0, 1]] else [[], [0], [1], [2], [0, 1], [0, 2], [1, 2], [0, 1, 2]]
/-- the places behind a part, from these -/
noncomputable def nxt (n : List Nat) (pl : List Nat) (k : Nat) : List Nat :=
  if k = 1 then (List.range (n.length + 1)).filter fun j => pl.any fun i => Nat.ble i j
  else (pl.filter fun j => Nat.blt j n.length && (sgc k).contains (n.getD j 0)).map (· + 1)
/-- the places ahead of a part, up to these -/
noncomputable def prv (n : List Nat) (k : Nat) (pl : List Nat) : List Nat :=
  if k = 1 then (List.range (n.length + 1)).filter fun j => pl.any fun i => Nat.ble j i
  else (pl.filter fun j => Nat.blt 0 j && (sgc k).contains (n.getD (j - 1) 0)).map (· - 1)
noncomputable def cmb : List (Nat × List Nat × List Nat) := W2.flatMap fun n => (plc n).flatMap fun pl => ks.map fun k => (k, n, pl)
theorem cmb_mem {k : Nat} {n pl : List Nat} (hn : n ∈ W2) (hp : pl ∈ plc n) (hk : k ∈ ks) : (k, n, pl) ∈ cmb :=
  List.mem_flatMap.mpr ⟨n, hn, List.mem_flatMap.mpr ⟨pl, hp, List.mem_map.mpr ⟨k, hk, rfl⟩⟩⟩
theorem closed : (cmb.all fun c => (plc c.2.1).contains (nxt c.2.1 c.2.2 c.1) && (plc c.2.1).contains (prv c.2.1 c.1 c.2.2)) = true := by kernel_rfl
theorem fitB (p0 : Option V) : (cmb.map fun c => b_law_fits_2 [p0, some (strS c.2.1), some (.lst (nats c.2.2)), some (part c.1)]) = cmb.map fun c => some (.next, [p0, some (strS c.2.1), some (.lst (nats (nxt c.2.1 c.2.2 c.1))), some (part c.1)]) := by kernel_rfl
theorem meanB (p0 : Option V) : (cmb.map fun c => b_law_means_2 [p0, some (strS c.2.1), some (.lst (nats c.2.2)), some (strS (sgc c.1))]) = cmb.map fun c => some (.next, [p0, some (strS c.2.1), some (.lst (nats (prv c.2.1 c.1 c.2.2))), some (strS (sgc c.1))]) := by kernel_rfl
noncomputable def ends : List (List Nat × List Nat) := W2.flatMap fun n => (plc n).map fun pl => (n, pl)
theorem ends_mem {n pl : List Nat} (hn : n ∈ W2) (hp : pl ∈ plc n) : (n, pl) ∈ ends := List.mem_flatMap.mpr ⟨n, hn, List.mem_map.mpr ⟨pl, hp, rfl⟩⟩
theorem fitE (p0 x : Option V) : (ends.map fun c => eCmp .In (eLen (eName 1)) (eName 2) [p0, some (strS c.1), some (.lst (nats c.2)), x]) = ends.map fun c => some (.bool (c.2.contains c.1.length)) := by kernel_rfl
theorem meanE (p0 x : Option V) : (ends.map fun c => eCmp .In (eInt 0) (eName 2) [p0, some (strS c.1), some (.lst (nats c.2)), x]) = ends.map fun c => some (.bool (c.2.contains 0)) := by kernel_rfl
theorem agree : ((List.range 18).all fun a => (List.range 18).all fun b => W2.all fun n => ((kinds a b).foldl (nxt n) [0]).contains n.length == ((nz a ++ nz b).foldr (prv n) [n.length]).contains 0) = true := by kernel_rfl
theorem starts : (W2.all fun n => (plc n).contains [0] && (plc n).contains [n.length]) = true := by kernel_rfl
section
variable {n : List Nat} (hn : n ∈ W2)
include hn
theorem nxt_plc {pl : List Nat} {k : Nat} (hp : pl ∈ plc n) (hk : k ∈ ks) : nxt n pl k ∈ plc n :=
  List.contains_iff_mem.mp (Bool.and_eq_true_iff.mp (List.all_eq_true.mp closed _ (cmb_mem hn hp hk))).1
theorem prv_plc {pl : List Nat} {k : Nat} (hp : pl ∈ plc n) (hk : k ∈ ks) : prv n k pl ∈ plc n :=
  List.contains_iff_mem.mp (Bool.and_eq_true_iff.mp (List.all_eq_true.mp closed _ (cmb_mem hn hp hk))).2
theorem fits_loop {p0 : Option V} : ∀ (l : List Nat) (pl : List Nat) (x : Option V), (∀ k ∈ l, k ∈ ks) → pl ∈ plc n →
    ∃ y, forL (aName 3) b_law_fits_2 (l.map part) [p0, some (strS n), some (.lst (nats pl)), x] = some (.next, [p0, some (strS n), some (.lst (nats (l.foldl (nxt n) pl))), y]) ∧ l.foldl (nxt n) pl ∈ plc n
  | [], pl, x, _, hp => ⟨x, rfl, hp⟩
  | k :: l, pl, x, hk, hp => by
    have h1 := hk k (.head _)
    obtain ⟨y, e, h⟩ := fits_loop l (nxt n pl k) (some (part k)) (fun m hm => hk m (.tail _ hm)) (nxt_plc hn hp h1)
    exact ⟨y, ev_forN (l := l.map part) rfl (List.map_inj_left.mp (fitB p0) _ (cmb_mem hn hp h1)) e, h⟩
theorem means_loop {p0 : Option V} : ∀ (l : List Nat) (pl : List Nat) (x : Option V), (∀ k ∈ l, k ∈ ks) → pl ∈ plc n →
    ∃ y, forL (aName 3) b_law_means_2 (l.map fun k => strS (sgc k)) [p0, some (strS n), some (.lst (nats pl)), x] = some (.next, [p0, some (strS n), some (.lst (nats (l.foldl (fun pl k => prv n k pl) pl))), y]) ∧ l.foldl (fun pl k => prv n k pl) pl ∈ plc n
  | [], pl, x, _, hp => ⟨x, rfl, hp⟩
  | k :: l, pl, x, hk, hp => by
    have h1 := hk k (.head _)
    obtain ⟨y, e, h⟩ := means_loop l (prv n k pl) (some (strS (sgc k))) (fun m hm => hk m (.tail _ hm)) (prv_plc hn hp h1)
    exact ⟨y, ev_forN (l := l.map fun k => strS (sgc k)) rfl (List.map_inj_left.mp (meanB p0) _ (cmb_mem hn hp h1)) e, h⟩
theorem f_fits_is {l : List Nat} (hk : ∀ k ∈ l, k ∈ ks) : f_law_fits [.lst (l.map part), strS n] = some (.bool ((l.foldl (nxt n) [0]).contains n.length)) := by
  have st := Bool.and_eq_true_iff.mp (List.all_eq_true.mp starts n hn)
  obtain ⟨y, e, h⟩ := fits_loop hn (p0 := some (.lst (l.map part))) l [0] none hk (List.contains_iff_mem.mp st.1)
  refine ap_fn (d := [.lst (l.map part), strS n]) (σ' := [some (.lst (l.map part)), some (strS n), some (.lst (nats (l.foldl (nxt n) [0]))), y]) rfl ?_
  rw [m_law_fits_eq]
  exact ev_seq (ev_asg (ev_lst (ev_sing rfl) (leK rfl))) (ev_seq (ev_for (ev_iseq rfl rfl) e) (ev_one (ev_ret (List.map_inj_left.mp (fitE _ y) _ (ends_mem hn h)))))
theorem f_means_is {l : List Nat} (hk : ∀ k ∈ l, k ∈ ks) : f_law_means [.lst ((l.map sgc).map strS), strS n] = some (.bool ((l.foldr (prv n) [n.length]).contains 0)) := by
  have st := Bool.and_eq_true_iff.mp (List.all_eq_true.mp starts n hn)
  rw [List.map_map, ← List.foldl_reverse]
  obtain ⟨y, e, h⟩ := means_loop hn (p0 := some (.lst (l.map fun k => strS (sgc k)))) l.reverse [n.length] none (fun k h => hk k (List.mem_reverse.mp h)) (List.contains_iff_mem.mp st.2)
  have sr := sliceL_rev (l.map fun k => strS (sgc k))
  rw [← List.map_reverse] at sr
  refine ap_fn (d := [.lst (l.map fun k => strS (sgc k)), strS n]) (σ' := [some (.lst (l.map fun k => strS (sgc k))), some (strS n), some (.lst (nats (l.reverse.foldl (fun pl k => prv n k pl) [n.length]))), y]) rfl ?_
  rw [m_law_means_eq]
  exact ev_seq (ev_asg (ev_lst (ev_sing (ev_len rfl (congrArg (fun n : Nat => some (V.int n)) (S_len n)))) (leK rfl))) (ev_seq (ev_for (ev_iseq (ev_slice rfl rfl rfl rfl sr) rfl) e) (ev_one (ev_ret (List.map_inj_left.mp (meanE _ y) _ (ends_mem hn h)))))
end
theorem nz_ks {a k : Nat} (ha : a < 18) (h : k ∈ nz a) : k ∈ ks := by
  unfold nz at h
  split at h
  · exact nomatch h
  · rename_i h0; exact List.mem_singleton.mp h ▸ ks_mem h0 ha
theorem fits_means {a b : Nat} (ha : a < 18) (hb : b < 18) {n : List Nat} (hn : n ∈ W2) : ∃ z : Bool, f_law_fits [.lst (cat a b), strS n] = some (.bool z) ∧ f_law_means [.lst ((sg a ++ sg b).map strS), strS n] = some (.bool z) := by
  have k2 : ∀ k ∈ nz a ++ nz b, k ∈ ks := fun k h => (List.mem_append.mp h).elim (nz_ks ha) (nz_ks hb)
  have k1 : ∀ k ∈ kinds a b, k ∈ ks := by
    unfold kinds
    split
    · decide
    · exact k2
  have ag := beq_iff_eq.mp (List.all_eq_true.mp (List.all_eq_true.mp (List.all_eq_true.mp agree a (List.mem_range.mpr ha)) b (List.mem_range.mpr hb)) n hn)
  refine ⟨_, f_fits_is hn k1, ?_⟩
  rw [ag, show sg a ++ sg b = (nz a ++ nz b).map sgc from List.map_append.symm]
  exact f_means_is hn k2
theorem twos : (((List.range 18).flatMap fun a => (List.range 18).map fun b => (a, b)).map fun c => t_law_8 [some (.lst (cat c.1 c.2))]) = ((List.range 18).flatMap fun a => (List.range 18).map fun b => (a, b)).map fun _ => some false := by kernel_rfl
theorem two_stars {a b : Nat} (ha : a < 18) (hb : b < 18) : t_law_8 [some (.lst (cat a b))] = some false :=
  List.map_inj_left.mp twos (a, b) (List.mem_flatMap.mpr ⟨a, List.mem_range.mpr ha, List.mem_map.mpr ⟨b, List.mem_range.mpr hb, rfl⟩⟩)
end Mine
end

noncomputable section
open PySem PySem.W PyProof.Rows
open Builtin Builtin.Str
set_option maxRecDepth 100000
namespace Mine

theorem compL_is {upd : V → Sig → Option Sig} {t : Sig → Option Bool} {e : Sig → Option V} (F : Option V → Sig) (p : V → Bool) (g : V → V) : ∀ (l : List V) (y : Option V), (∀ x ∈ l, ∀ y, upd x (F y) = some (F (some x))) → (∀ x ∈ l, t (F (some x)) = some (p x)) →
    (∀ x ∈ l, p x = true → e (F (some x)) = some (g x)) → compL upd t e l (F y) = some ((l.filter p).map g)
  | [], _, _, _, _ => rfl
  | x :: l, y, hu, ht, he => by
    have ih := compL_is F p g l (some x) (fun z hz => hu z (.tail _ hz)) (fun z hz => ht z (.tail _ hz)) fun z hz => he z (.tail _ hz)
    rw [compL, hu x (.head _)]
    simp only [Option.bind_some]
    rw [ht x (.head _)]
    simp only [Option.bind_some]
    cases hp : p x with
    | true =>
      simp only
      rw [he x (.head _) hp, ih, List.filter_cons, hp]
      rfl
    | false =>
      simp only
      rw [ih, List.filter_cons, hp]
      simp

theorem rangeOf_nats (a b : Nat) : (rangeOf (a : Int) (b : Int) 1).map V.int = nats ((List.range (b - a)).map fun k => a + k) := by
  unfold rangeOf nats
  have e : (Builtin.Range.rangeSize (a : Int) (b : Int) 1).toNat = b - a := by
    unfold Builtin.Range.rangeSize
    simp
    split <;> omega
  rw [e, List.map_map, List.map_map]
  refine List.map_congr_left fun k _ => ?_
  simp
theorem rok_nats {a b : Nat} (ha : a ≤ 1000) (hb : b ≤ 1000) : rOk (a : Int) (b : Int) = true := by
  simp only [rOk, Bool.and_eq_true, decide_eq_true_eq]
  omega
theorem vrange_nats {a b : Nat} (ha : a ≤ 1000) (hb : b ≤ 1000) : (vRange [.int (a : Int), .int (b : Int)]).map (fun ns => ns.map V.int) = some (nats ((List.range (b - a)).map fun k => a + k)) := by
  simp only [vRange]
  rw [if_pos (rok_nats ha hb)]
  simp only [Option.map_some]
  rw [rangeOf_nats]
theorem nats_len (l : List Nat) : (nats l).length = l.length := by simp [nats]
theorem filter_nats (l : List Nat) (p : Nat → Bool) (g : Nat → Nat) : ((nats l).filter (fun x => match x with | .int k => p k.toNat | _ => false)).map (fun x => match x with | .int k => V.int (g k.toNat : Nat) | y => y) = nats ((l.filter p).map g) := by
  unfold nats
  rw [List.filter_map, List.map_map, List.map_map]
  congr 1

end Mine
end

noncomputable section
open PySem PySem.W PyProof.Rows
open Builtin Builtin.Str
set_option maxRecDepth 100000
namespace Mine

/- words -/
theorem W_free : ∀ w ∈ W, 47 ∉ w := by decide
theorem W_len : ∀ w ∈ W, w.length ≤ 2 := by decide
noncomputable def wp (w : List Nat) : Piece := ⟨w, []⟩
theorem wp_text (l : List (List Nat)) : (l.map wp).map (·.text) = l := by rw [List.map_map]; exact List.map_id'' (fun _ => rfl) l
theorem jl_W : ∀ {l : List (List Nat)}, (∀ w ∈ l, w ∈ W) → jl l ≤ 3 * l.length
  | [], _ => Nat.le_refl _
  | w :: l, h => by
    have h1 := W_len w (h w (.head _))
    have h2 := jl_W (l := l) fun x hx => h x (.tail _ hx)
    simp only [jl, List.length_cons]; omega
/-- words as values -/
noncomputable def wv (l : List (List Nat)) : List V := (l.map wp).map Piece.v
theorem wv_len (l : List (List Nat)) : (wv l).length = l.length := by simp [wv]
theorem wv_app (a b : List (List Nat)) : wv (a ++ b) = wv a ++ wv b := by simp only [wv, List.map_append]
/-- names as a straightened path has them -/
noncomputable def NW (ws : List (List Nat)) : Prop := ∀ w ∈ ws, w ∈ W ∧ w ≠ [] ∧ w ≠ [46] ∧ w ≠ [46, 46]
theorem NW.nm {ws : List (List Nat)} (h : NW ws) : Nm ws := fun w hw => ⟨(h w hw).2.1, W_free w (h w hw).1⟩
/-- what of words stays -/
noncomputable def stW (l : List (List Nat)) : List (List Nat) := res l
theorem stW_stay (l : List (List Nat)) : stay (l.map wp) = (stW l).map wp := by
  have e := stay_res (l.map wp)
  rw [wp_text] at e
  unfold stW
  rw [e, List.map_map]
  conv => lhs; rw [← List.map_id (stay (l.map wp))]
  refine List.map_congr_left fun p hp => ?_
  obtain ⟨h, _⟩ := stay_name hp
  obtain ⟨w, _, rfl⟩ := List.mem_map.mp h
  rfl
theorem stW_nw {l : List (List Nat)} (h : ∀ w ∈ l, w ∈ W) : NW (stW l) := by
  intro w hw
  have : wp w ∈ stay (l.map wp) := by rw [stW_stay]; exact List.mem_map.mpr ⟨w, hw, rfl⟩
  obtain ⟨h1, h2, h3, h4⟩ := stay_name this
  obtain ⟨x, hx, e⟩ := List.mem_map.mp h1
  have e' : x = w := congrArg Piece.text e
  subst e'
  exact ⟨h x hx, h2, h3, h4⟩
theorem stW_len (l : List (List Nat)) : (stW l).length ≤ l.length := by
  have := (res_sub l []).length_le
  simpa [stW, res] using this
theorem f_stay_W {l : List (List Nat)} (h : l.length ≤ 900) : f_law_stay [.lst (wv l)] = some (.lst (wv (stW l))) := by
  unfold wv
  rw [f_stay_is (by rw [List.length_map]; exact h), stW_stay]

theorem W_two : ∀ n ∈ W, n ≠ [] → n ≠ [46] → n ≠ [46, 46] → n ∈ W2 := by decide
theorem NW.two {ws : List (List Nat)} (h : NW ws) {w : List Nat} (hw : w ∈ ws) : w ∈ W2 := W_two w (h w hw).1 (h w hw).2.1 (h w hw).2.2.1 (h w hw).2.2.2
/- the two tests -/
noncomputable def zf (v : V) (n : List Nat) : Bool := match f_law_fits [v, strS n] with
  | some (.bool b) => b
  | _ => false
noncomputable def FM (v : V) (p : Piece) : Prop := ∀ n, n ∈ W2 → f_law_fits [v, strS n] = some (.bool (zf v n)) ∧ f_law_means [.lst (p.signs.map strS), strS n] = some (.bool (zf v n))
theorem FM_of {a b : Nat} (ha : a < 18) (hb : b < 18) {t : List Nat} : FM (.lst (cat a b)) ⟨t, sg a ++ sg b⟩ := by
  intro n hn
  obtain ⟨z, h1, h2⟩ := fits_means ha hb hn
  have : zf (.lst (cat a b)) n = z := by unfold zf; rw [h1]
  rw [this]; exact ⟨h1, h2⟩
theorem vdep_nats (l : List Nat) : vdepL (nats l) = 0 := by
  induction l with
  | nil => rfl
  | cons x r ih => exact (congrArg (max 0) ih)
theorem veq_empty (l : List Nat) : vCmp .Eq (.lst (nats l)) (.lst []) = some l.isEmpty :=
  eq_low (Nat.succ_le_succ (Nat.le_trans (Nat.le_of_eq (vdep_nats l)) (Nat.zero_le 4))) (by cases l <;> rfl)
theorem filter_empty {l : List Nat} {p : Nat → Bool} : (l.filter fun k => !p k).isEmpty = l.all p := by
  rw [Bool.eq_iff_iff, List.isEmpty_iff, List.filter_eq_nil_iff, List.all_eq_true]
  simp
theorem iRange_nats {σ : Sig} {q : Sig → Option (List V)} {n : Nat} (h : q σ = some [.int (n : Int)]) (hn : n ≤ 1000) : iRange q σ = some (nats (List.range n)) := by
  have rg := vrange_nats (a := 0) (b := n) (by omega) hn
  have e : (List.range (n - 0)).map (fun k => 0 + k) = List.range n := by simp
  rw [e] at rg
  have rg' : (vRange [.int (n : Int)]).map (fun ns => ns.map V.int) = some (nats (List.range n)) := rg
  rw [ap_irange, h]
  exact rg'
/-- fits of all parts -/
theorem moved_comp {σ : Sig} {ps tl : List V} {i : Nat} {zs : Nat → Bool} (hσ : σ.getD 5 none = some (.int (i : Int)) ∧ σ.getD 7 none = some (.lst ps) ∧ σ.getD 4 none = some (.lst tl)) (hn : ps.length ≤ 900)
    (hz : ∀ j, j < ps.length → ∃ v n, ps[j]? = some v ∧ tl[i + j]? = some (strS n) ∧ f_law_fits [v, strS n] = some (.bool (zs j))) (hi : i + ps.length ≤ 900) :
    tCmp .Eq (eComp [5, 7, 4] 1 (iRange (esCons (eLen (eName 7)) esNil)) (aName 3) t_law_moved_1 e_law_moved_1) (eLst esNil) σ = some ((List.range ps.length).all zs) := by
  obtain ⟨h1, h2, h3⟩ := hσ
  have q : (esCons (eLen (eName 7)) esNil) σ = some [.int (ps.length : Int)] := by
    rw [ap_econs, ap_len, ap_name, h2]; rfl
  have ir := iRange_nats q (by omega)
  have cp : compL (aName 3) t_law_moved_1 e_law_moved_1 (nats (List.range ps.length)) [some (.int (i : Int)), some (.lst ps), some (.lst tl), none] = some (nats (((List.range ps.length).filter (fun j => !zs j)).map id)) := by
    rw [← filter_nats (List.range ps.length) (fun j => !zs j) id]
    refine compL_is (fun y => [some (.int (i : Int)), some (.lst ps), some (.lst tl), y]) _ _ _ none (fun x _ y => rfl) (fun x hx => ?_) (fun x hx _ => ?_)
    · obtain ⟨j, hj, rfl⟩ := List.mem_map.mp hx
      have hj' := List.mem_range.mp hj
      obtain ⟨v, n, e1, e2, e3⟩ := hz j hj'
      have i1 := vidx_lst ps (k := j) (by omega)
      have i2 := vidx_lst tl (k := i + j) (by omega)
      rw [e1] at i1
      rw [e2] at i2
      push_cast at i2
      show t_law_moved_1 _ = some (!zs (Int.toNat (j : Int)))
      rw [Int.toNat_natCast]
      unfold t_law_moved_1
      simp [i1, i2, e3]
    · obtain ⟨j, hj, rfl⟩ := List.mem_map.mp hx
      simp [e_law_moved_1]
  have nl : (nats (List.range ps.length)).length ≤ 1000 := by rw [nats_len, List.length_range]; omega
  have sc : sigC [5, 7, 4] 1 σ = [some (.int (i : Int)), some (.lst ps), some (.lst tl), none] := by
    simp only [sigC, List.map_cons, List.map_nil, h1, h2, h3]
    rfl
  rw [ap_tcmp, ap_comp, ir, sc]
  simp only [Option.bind_some]
  rw [if_pos nl, cp]
  simp only [Option.map_some, Option.bind_some, ap_lst, ap_enil, List.length_nil, Nat.zero_le, if_true, List.map_id]
  rw [veq_empty, filter_empty]
/-- means of all pieces -/
theorem next_comp {σ : Sig} {pat names : List Piece} {size : Nat} {zs : Nat → Bool} (hσ : σ.getD 1 none = some (.lst (names.map Piece.v)) ∧ σ.getD 4 none = some (.lst (pat.map Piece.v)) ∧ σ.getD 3 none = some (.int (size : Int))) (hn : size ≤ 900)
    (hz : ∀ k, k < size → ∃ p x, pat[k]? = some p ∧ names[k]? = some x ∧ f_law_means [.lst (p.signs.map strS), strS x.text] = some (.bool (zs k))) :
    tCmp .Eq (eComp [1, 4] 1 (iRange (esCons (eName 3) esNil)) (aName 2) t_law_next_1 e_law_next_1) (eLst esNil) σ = some ((List.range size).all zs) := by
  obtain ⟨h1, h2, h3⟩ := hσ
  have q : (esCons (eName 3) esNil) σ = some [.int (size : Int)] := by
    rw [ap_econs, ap_name, h3]; rfl
  have ir := iRange_nats q (by omega)
  have cp : compL (aName 2) t_law_next_1 e_law_next_1 (nats (List.range size)) [some (.lst (names.map Piece.v)), some (.lst (pat.map Piece.v)), none] = some (nats (((List.range size).filter (fun j => !zs j)).map id)) := by
    rw [← filter_nats (List.range size) (fun j => !zs j) id]
    refine compL_is (fun y => [some (.lst (names.map Piece.v)), some (.lst (pat.map Piece.v)), y]) _ _ _ none (fun x _ y => rfl) (fun x hx => ?_) (fun x hx _ => ?_)
    · obtain ⟨j, hj, rfl⟩ := List.mem_map.mp hx
      have hj' := List.mem_range.mp hj
      obtain ⟨p, x, e1, e2, e3⟩ := hz j hj'
      have i1 := vidx_lst (pat.map Piece.v) (k := j) (by omega)
      have i2 := vidx_lst (names.map Piece.v) (k := j) (by omega)
      rw [List.getElem?_map, e1] at i1
      rw [List.getElem?_map, e2] at i2
      simp only [Option.map_some] at i1 i2
      show t_law_next_1 _ = some (!zs (Int.toNat (j : Int)))
      rw [Int.toNat_natCast]
      unfold t_law_next_1
      simp only [Piece.v] at i1 i2
      simp [Piece.v, i1, i2, e3]
    · obtain ⟨j, hj, rfl⟩ := List.mem_map.mp hx
      simp [e_law_next_1]
  have nl : (nats (List.range size)).length ≤ 1000 := by rw [nats_len, List.length_range]; omega
  have sc : sigC [1, 4] 1 σ = [some (.lst (names.map Piece.v)), some (.lst (pat.map Piece.v)), none] := by
    simp only [sigC, List.map_cons, List.map_nil, h1, h2]
    rfl
  rw [ap_tcmp, ap_comp, ir, sc]
  simp only [Option.bind_some]
  rw [if_pos nl, cp]
  simp only [Option.map_some, Option.bind_some, ap_lst, ap_enil, List.length_nil, Nat.zero_le, if_true, List.map_id]
  rw [veq_empty, filter_empty]
end Mine
end

noncomputable section
open PySem PySem.W PyProof.Rows
open Builtin Builtin.Str
set_option maxRecDepth 100000
namespace Mine

theorem hd_dot : Hd [[46]] := ⟨[46], [], rfl, by decide, by decide⟩
theorem free_dot : ∀ q ∈ [[46]], 47 ∉ q := by decide
theorem W_hd {cs : List (List Nat)} (h : NW cs) (bs : List (List Nat)) (hb : Hd bs) : Hd (addq cs bs) := by
  cases cs with
  | nil => exact hb
  | cons c r =>
    have hc := h c (.head _)
    exact Hd.add ⟨c, r, rfl, hc.2.1, W_free c hc.1⟩ bs
theorem NW.freeq {cs : List (List Nat)} (h : NW cs) : ∀ q ∈ cs, 47 ∉ q := fun q hq => W_free q (h q hq).1
theorem res_dot (st l : List (List Nat)) : ([46] :: l).foldl rs st = l.foldl rs st := by
  rw [List.foldl_cons]
  have : rs st [46] = st := by unfold rs; rw [if_pos (.inr rfl)]
  rw [this]
theorem res_rel (cs words rest : List (List Nat)) : res (addN (addq cs (addN [[46]] words)) rest) = res (cs ++ words ++ rest) := by
  unfold res
  rw [addN_rs, List.foldl_append, addq_rs, List.foldl_append, addN_rs]
  show rest.foldl rs ((([46] :: words)).foldl rs (cs.foldl rs [])) = _
  rw [res_dot, ← List.foldl_append, ← List.foldl_append, List.append_assoc]
theorem res_abs (words rest : List (List Nat)) : res (addN (addN [[46]] words) rest) = res (words ++ rest) := by
  unfold res
  rw [addN_rs, List.foldl_append, addN_rs]
  show rest.foldl rs (([46] :: words).foldl rs []) = _
  rw [res_dot, ← List.foldl_append]
theorem jl_addN (qs ns : List (List Nat)) : jl (addN qs ns) ≤ jl qs + jl ns := by
  have := jl_sub (addN_sub ns qs)
  rwa [jl_app] at this
theorem jl_addq (qs ns : List (List Nat)) : jl (addq qs ns) ≤ jl qs + jl ns := by
  have := jl_sub (addq_sub qs ns)
  rwa [jl_app] at this
/-- a path that is moved on, by a target that is no root's -/
theorem move_rel {cs words rest : List (List Nat)} (h1 : NW cs) (h2 : ∀ w ∈ words, w ∈ W) (h3 : ∀ w ∈ rest, w ∈ W) (hz : cs.length + words.length + rest.length ≤ 60) :
    ∃ p, f_join (strS ([47] ++ joinL cs) :: strS (joinL (addN [[46]] words)) :: rest.map strS) = some (strS p) ∧ f_normpath [strS p] = some (strS ([47] ++ joinL (stW (cs ++ words ++ rest)))) := by
  have f2 : ∀ q ∈ words, 47 ∉ q := fun q hq => W_free q (h2 q hq)
  have f3 : ∀ q ∈ rest, 47 ∉ q := fun q hq => W_free q (h3 q hq)
  have hq := addN_hd (ns := words) hd_dot
  have fq := addN_free (ns := words) free_dot f2
  have hR := W_hd h1 _ hq
  have fR := addq_free h1.freeq fq
  have j1 := jl_W (l := cs) fun w hw => (h1 w hw).1
  have j2 := jl_W h2
  have j3 := jl_W h3
  have j4 := jl_addN [[46]] words
  have j5 := jl_addq cs (addN [[46]] words)
  have j6 := jl_addN (addq cs (addN [[46]] words)) rest
  have j7 : jl [[46]] = 2 := rfl
  have k1 := joinL_le cs
  have k2 := joinL_le (addN [[46]] words)
  refine ⟨[47] ++ joinL (addN (addq cs (addN [[46]] words)) rest), ?_, ?_⟩
  · have e := f_join_is (a := [47] ++ joinL cs) (bs := joinL (addN [[46]] words) :: rest) (by simp only [jl, List.length_append, List.length_singleton]; omega)
    rw [List.map_cons] at e
    rw [e, List.foldl_cons, jstep_add (.inl (.inl rfl)) h1.freeq hq.ne' hq.head, joinN (.inl (.inl rfl)) hR fR f3]
  · rw [f_normpath_is (.inl rfl) (addN_hd hR).ne' (addN_free fR f3) (addN_hd hR).head (by omega), res_rel]
    rfl
/-- the same, by a target with one or two slashes -/
theorem move_abs {t : List Nat} (ht : Root t) {h0 : List Nat} (hh0 : h0.length ≤ 200) {words rest : List (List Nat)} (h2 : ∀ w ∈ words, w ∈ W) (h3 : ∀ w ∈ rest, w ∈ W) (hz : words.length + rest.length ≤ 60) :
    ∃ p, f_join (strS h0 :: strS (t ++ joinL (addN [[46]] words)) :: rest.map strS) = some (strS p) ∧ f_normpath [strS p] = some (strS (t ++ joinL (stW (words ++ rest)))) := by
  have f2 : ∀ q ∈ words, 47 ∉ q := fun q hq => W_free q (h2 q hq)
  have f3 : ∀ q ∈ rest, 47 ∉ q := fun q hq => W_free q (h3 q hq)
  have hq := addN_hd (ns := words) hd_dot
  have fq := addN_free (ns := words) free_dot f2
  have j2 := jl_W h2
  have j3 := jl_W h3
  have j4 := jl_addN [[46]] words
  have j6 := jl_addN (addN [[46]] words) rest
  have j7 : jl [[46]] = 2 := rfl
  have k2 := joinL_le (addN [[46]] words)
  have tz : t.length ≤ 2 := by rcases ht with rfl | rfl <;> decide
  refine ⟨t ++ joinL (addN (addN [[46]] words) rest), ?_, ?_⟩
  · have e := f_join_is (a := h0) (bs := (t ++ joinL (addN [[46]] words)) :: rest) (by simp only [jl, List.length_append]; omega)
    rw [List.map_cons] at e
    have js : jstep h0 (t ++ joinL (addN [[46]] words)) = t ++ joinL (addN [[46]] words) := by
      unfold jstep
      rw [if_pos (.inl (root_head ht _))]
    rw [e, List.foldl_cons, js, joinN (.inl ht) hq fq f3]
  · rw [f_normpath_is ht (addN_hd hq).ne' (addN_free fq f3) (addN_hd hq).head (by omega), res_abs]
    rfl
theorem hds_get (t : List Nat) : ∀ (rev : List (List Nat)) (i : Nat), i < rev.length → (hds t rev)[i]? = some (strS (t ++ joinL (rev.drop (i + 1)).reverse))
  | _ :: r, 0, _ => rfl
  | _ :: r, i + 1, h => by
    have := hds_get t r i (by simpa using h)
    simpa [hds] using this

structure RuleIs (d u : V) (pat : List Piece) (ps : List V) (k : Nat) (words : List (List Nat)) : Prop where
  d_is : d = .tup [strS [47], .lst ps, strS (List.replicate k 47 ++ joinL (addN [[46]] words))]
  u_is : u = .tup [.lst (pat.map Piece.v), .int (k : Int), .lst (wv words)]
  k_le : k ≤ 2
  w_in : ∀ w ∈ words, w ∈ W
  w_len : words.length ≤ 2
  len : ps.length = pat.length
  fm : ∀ (j : Nat) (v : V) (p : Piece), ps[j]? = some v → pat.reverse[j]? = some p → FM v p
  plen : pat.length ≤ 10
/-- what a path that is moved on comes to -/
noncomputable def Moved (n : Nat) (a b : V) : Prop := ∃ t' ws', a = strS (t' ++ joinL ws') ∧ b = .tup [strS t', .lst (wv ws')] ∧ Root t' ∧ NW ws' ∧ ws'.length ≤ n + 1
theorem all_rev (f : Nat → Bool) (n : Nat) : ((List.range n).all fun q => f (n - 1 - q)) = (List.range n).all f := by
  rw [Bool.eq_iff_iff, List.all_eq_true, List.all_eq_true]
  constructor
  · intro h j hj
    have hj' := List.mem_range.mp hj
    have := h (n - 1 - j) (List.mem_range.mpr (by omega))
    have e : n - 1 - (n - 1 - j) = j := by omega
    rwa [e] at this
  · intro h j hj
    have hj' := List.mem_range.mp hj
    exact h (n - 1 - j) (List.mem_range.mpr (by omega))
theorem root_rep {k : Nat} (h : k ≤ 2) (h0 : k ≠ 0) : Root (List.replicate k 47) := by
  have : k = 1 ∨ k = 2 := by omega
  rcases this with rfl | rfl
  · exact .inl rfl
  · exact .inr rfl
end Mine
end

noncomputable section
open PySem PySem.W PyProof.Rows
open Builtin Builtin.Str
set_option maxRecDepth 100000
namespace Mine

section
variable {σ : Sig} {t tgt : List Nat} {H T ps : List V} {i : Nat} {q : V} {x : Option Int}
theorem part_of {f : Sig → Option V} {a : V} (h : f σ = some a) (e : vPart a = some x) : (f σ).bind vPart = some x := by rw [h]; exact e
/- a turn of _law_moved -/
theorem mvF1 (h6 : eName 6 σ = some (strS [47])) (h2 : eName 2 σ = some (strS t)) (h : [47] ≠ t) : b_law_moved_2 σ = some (.next, σ) :=
  ev_one (ev_ifF (ev_andF (ev_cmp h6 h2 (cEqF h))) rfl)
theorem mvF2 (h6 : eName 6 σ = some (strS [47])) (h2 : eName 2 σ = some (strS [47])) (h7 : eName 7 σ = some (.lst ps)) (h4 : eName 4 σ = some (.lst T)) (h5 : eName 5 σ = some (.int i)) (h : (ps.length : Int) ≠ T.length - i) : b_law_moved_2 σ = some (.next, σ) :=
  ev_one (ev_ifF (ev_andT (ev_cmp h6 h2 (cEqT rfl)) (ev_andF (ev_cmp (ev_len h7 rfl) (ev_bin (ev_len h4 rfl) h5 rfl) (iEqF h)))) rfl)
variable {c : Bool} (h6 : eName 6 σ = some (strS [47])) (h2 : eName 2 σ = some (strS [47])) (h7 : eName 7 σ = some (.lst ps)) (h4 : eName 4 σ = some (.lst T)) (h5 : eName 5 σ = some (.int i)) (h : (ps.length : Int) = T.length - i)
    (hc : tCmp .Eq (eComp [5, 7, 4] 1 (iRange (esCons (eLen (eName 7)) esNil)) (aName 3) t_law_moved_1 e_law_moved_1) (eLst esNil) σ = some c)
include h6 h2 h7 h4 h5 h hc
theorem mvC : tAnd (tCmp .Eq (eName 6) (eName 2)) (tAnd (tCmp .Eq (eLen (eName 7)) (eBin .Sub (eLen (eName 4)) (eName 5))) (tAnd (tCmp .Eq (eComp [5, 7, 4] 1 (iRange (esCons (eLen (eName 7)) esNil)) (aName 3) t_law_moved_1 e_law_moved_1) (eLst esNil)) (tConst true))) σ = some c :=
  ev_andT (ev_cmp h6 h2 (cEqT rfl)) (ev_andT (ev_cmp (ev_len h7 rfl) (ev_bin (ev_len h4 rfl) h5 rfl) (iEqT h)) (ev_and1 hc))
theorem mvF3 (e : c = false) : b_law_moved_2 σ = some (.next, σ) := by
  subst e
  exact ev_one (ev_ifF (mvC h6 h2 h7 h4 h5 h hc) rfl)
theorem mvT (e : c = true) {d p : V} {r : List V} (h3 : eName 3 σ = some (.lst H)) (h8 : eName 8 σ = some (strS tgt)) (hi : vIdx (.lst H) (.int i) = some d) (hr : (T.take i).reverse = r) (hj : f_join (d :: strS tgt :: r) = some p) (hn : f_normpath [p] = some q) :
    b_law_moved_2 σ = some (.ret q, σ) := by
  subst e hr
  exact ev_one (ev_ifT (mvC h6 h2 h7 h4 h5 h hc) (ev_one (ev_ret (ev_call (ev_sing (ev_call (ev_cons (ev_idx h3 h5 hi) (ev_cons h8 (ev_star (ev_slice (ev_slice h4 rfl (part_of h5 rfl) rfl (sliceL_to T i)) rfl rfl rfl (sliceL_rev _))))) hj)) hn))))
end
section
variable {σ : Sig} {t : List Nat} {N P ws : List V} {m k : Nat} {q : V}
/- a turn of _law_next -/
theorem nxF1 (h0 : eName 0 σ = some (strS t)) (h : t ≠ [47]) : b_law_next_2 σ = some (.next, σ) :=
  ev_one (ev_ifF (ev_andF (ev_cmp h0 s_sl (cEqF h))) rfl)
theorem nxF2 (h0 : eName 0 σ = some (strS [47])) (h4 : eName 4 σ = some (.lst P)) (h3 : eName 3 σ = some (.int m)) (h : P.length ≠ m) : b_law_next_2 σ = some (.next, σ) :=
  ev_one (ev_ifF (ev_andT (ev_cmp h0 s_sl (cEqT rfl)) (ev_andF (ev_cmp (ev_len h4 rfl) h3 (iEqF fun e => h (Int.ofNat.inj e))))) rfl)
variable {c : Bool} (h0 : eName 0 σ = some (strS [47])) (h4 : eName 4 σ = some (.lst P)) (h3 : eName 3 σ = some (.int m)) (h : P.length = m)
    (hc : tCmp .Eq (eComp [1, 4] 1 (iRange (esCons (eName 3) esNil)) (aName 2) t_law_next_1 e_law_next_1) (eLst esNil) σ = some c)
include h0 h4 h3 h hc
theorem nxC : tAnd (tCmp .Eq (eName 0) (eStr "/")) (tAnd (tCmp .Eq (eLen (eName 4)) (eName 3)) (tAnd (tCmp .Eq (eComp [1, 4] 1 (iRange (esCons (eName 3) esNil)) (aName 2) t_law_next_1 e_law_next_1) (eLst esNil)) (tConst true))) σ = some c :=
  ev_andT (ev_cmp h0 s_sl (cEqT rfl)) (ev_andT (ev_cmp (ev_len h4 rfl) h3 (iEqT (congrArg Int.ofNat h))) (ev_and1 hc))
theorem nxF3 (e : c = false) : b_law_next_2 σ = some (.next, σ) := by
  subst e
  exact ev_one (ev_ifF (nxC h0 h4 h3 h hc) rfl)
variable (e : c = true) (h1 : eName 1 σ = some (.lst N)) (h5 : eName 5 σ = some (.int k)) (h6 : eName 6 σ = some (.lst ws))
include e h1 h5 h6
theorem nxAbs (hk : 0 < k) (hk' : k ≤ 1000) (hz : ws.length + (N.drop m).length ≤ 1000) (hs : f_law_stay [.lst (ws ++ N.drop m)] = some q) : b_law_next_2 σ = some (.ret (.tup [strS (List.replicate k 47), q]), σ) := by
  subst e
  exact ev_one (ev_ifT (nxC h0 h4 h3 h hc) (ev_seqR (ev_ifT (ev_cmp h5 rfl (iGtT (Int.ofNat_lt.mpr hk))) (ev_one (ev_ret (ev_tup (ev_cons (ev_bin s_sl h5 (mult_sl k hk')) (ev_sing (ev_call (ev_sing (ev_bin h6 (ev_slice h1 (part_of h3 rfl) rfl rfl (sliceL_from N m)) (if_pos hz))) hs))) (leK rfl)))))))
theorem nxRel (hk : k = 0) {m' : Nat} (hm : m = m' + 1) (hz : (N.take m').length + ws.length ≤ 1000) (hz' : (N.take m' ++ ws).length + (N.drop m).length ≤ 1000) (hs : f_law_stay [.lst (N.take m' ++ ws ++ N.drop m)] = some q) : b_law_next_2 σ = some (.ret (.tup [strS [47], q]), σ) := by
  subst e hk
  have a : eBin .Sub (eName 3) (eInt 1) σ = some (.int (m' : Int)) := by
    refine ev_bin h3 rfl ?_
    rw [hm]
    exact congrArg (fun z => some (V.int z)) (show ((m' + 1 : Nat) : Int) - 1 = m' by rw [Int.natCast_succ, Int.add_sub_cancel])
  exact ev_one (ev_ifT (nxC h0 h4 h3 h hc) (ev_seq (ev_ifF (ev_cmp h5 rfl (iGtF (Int.lt_irrefl 0))) rfl) (ev_one (ev_ret (ev_tup (ev_cons h0 (ev_sing (ev_call (ev_sing (ev_bin (ev_bin (ev_slice h1 rfl (part_of a rfl) rfl (sliceL_to N m')) h6 (if_pos hz)) (ev_slice h1 (part_of h3 rfl) rfl rfl (sliceL_from N m)) (if_pos hz'))) hs))) (leK rfl))))))
end

section
variable {d u : V} {pat : List Piece} {ps : List V} {k : Nat} {words ws : List (List Nat)} (R : RuleIs d u pat ps k words) (hw : NW ws) {i : Nat} (hs : ws.length = ps.length + i)
include R hw hs
noncomputable def zsAt (ps : List V) (ws : List (List Nat)) (j : Nat) : Bool := zf (ps.getD j .none) (ws.getD (ps.length - 1 - j) [])
theorem key {j : Nat} (hj : j < ps.length) : ∃ v p n, ps[j]? = some v ∧ pat[ps.length - 1 - j]? = some p ∧ ws[ps.length - 1 - j]? = some n ∧ zsAt ps ws j = zf v n ∧
    f_law_fits [v, strS n] = some (.bool (zf v n)) ∧ f_law_means [.lst (p.signs.map strS), strS n] = some (.bool (zf v n)) := by
  have hl := R.len
  have h2 : ps.length - 1 - j < ps.length := Nat.lt_of_le_of_lt (Nat.sub_le _ _) (Nat.sub_lt (Nat.lt_of_le_of_lt (Nat.zero_le _) hj) Nat.one_pos)
  have h3 : ps.length - 1 - j < ws.length := Nat.lt_of_lt_of_le h2 (hs ▸ Nat.le_add_right _ _)
  have e1 := List.getElem?_eq_getElem hj
  have h4 : ps.length - 1 - j < pat.length := Nat.lt_of_lt_of_eq h2 hl
  have e2 := List.getElem?_eq_getElem h4
  have e3 := List.getElem?_eq_getElem h3
  have f := R.fm j _ _ e1 (by rw [List.getElem?_reverse (hl ▸ hj), ← hl]; exact e2) _ (hw.two (List.getElem_mem h3))
  refine ⟨_, _, _, e1, e2, e3, ?_, f⟩
  unfold zsAt
  rw [List.getD_eq_getElem?_getD, List.getD_eq_getElem?_getD, e1, e3]; rfl
theorem mv_all (hn : ws.length ≤ 20) {σ : Sig} (h5 : eName 5 σ = some (.int i)) (h7 : eName 7 σ = some (.lst ps)) (h4 : eName 4 σ = some (.lst (ws.reverse.map strS))) :
    tCmp .Eq (eComp [5, 7, 4] 1 (iRange (esCons (eLen (eName 7)) esNil)) (aName 3) t_law_moved_1 e_law_moved_1) (eLst esNil) σ = some ((List.range ps.length).all (zsAt ps ws)) := by
  have hp : i + ps.length ≤ 900 := Nat.add_comm ps.length i ▸ hs ▸ Nat.le_trans hn (by decide)
  refine moved_comp ⟨h5, h7, h4⟩ (Nat.le_trans (Nat.le_add_left _ _) hp) (fun j hj => ?_) hp
  obtain ⟨v, p, n, e1, _, e3, e4, f, _⟩ := key R hw hs hj
  refine ⟨v, n, e1, ?_, by rw [e4]; exact f⟩
  rw [List.getElem?_map, List.getElem?_reverse (by omega), show ws.length - 1 - (i + j) = ps.length - 1 - j by omega, e3]; rfl
theorem nx_all (hn : ws.length ≤ 20) {σ : Sig} (h1 : eName 1 σ = some (.lst (wv ws))) (h4 : eName 4 σ = some (.lst (pat.map Piece.v))) (h3 : eName 3 σ = some (.int (ps.length : Nat))) :
    tCmp .Eq (eComp [1, 4] 1 (iRange (esCons (eName 3) esNil)) (aName 2) t_law_next_1 e_law_next_1) (eLst esNil) σ = some ((List.range ps.length).all (zsAt ps ws)) := by
  rw [← all_rev]
  refine next_comp ⟨h1, h4, h3⟩ (Nat.le_trans (hs ▸ Nat.le_add_right _ _ : ps.length ≤ ws.length) (Nat.le_trans hn (by decide))) fun q hq => ?_
  have e : ps.length - 1 - (ps.length - 1 - q) = q := by omega
  obtain ⟨v, p, n, e1, e2, e3, e4, _, f⟩ := key R hw hs (j := ps.length - 1 - q) (by omega)
  rw [e] at e2 e3
  exact ⟨p, wp n, e2, by rw [List.getElem?_map, e3]; rfl, by rw [e4]; exact f⟩
end
theorem wv_drop (l : List (List Nat)) (n : Nat) : (wv l).drop n = wv (l.drop n) := by unfold wv; rw [← List.map_drop, ← List.map_drop]
theorem wv_take (l : List (List Nat)) (n : Nat) : (wv l).take n = wv (l.take n) := by unfold wv; rw [← List.map_take, ← List.map_take]

theorem moved_turn {d u : V} {pat : List Piece} {ps : List V} {k : Nat} {words : List (List Nat)} (R : RuleIs d u pat ps k words) {t : List Nat} {ws : List (List Nat)} (ht : Root t) (hw : NW ws) (hn : ws.length ≤ 20) {i : Nat} (hi : i < ws.length)
    {σ τ : Sig} (s2 : eName 2 σ = some (strS t)) (s3 : eName 3 σ = some (.lst (hds t ws.reverse))) (s4 : eName 4 σ = some (.lst (ws.reverse.map strS))) (s5 : eName 5 σ = some (.int i)) (s6 : eName 6 σ = some (strS [47])) (s7 : eName 7 σ = some (.lst ps)) (s8 : eName 8 σ = some (strS (List.replicate k 47 ++ joinL (addN [[46]] words))))
    (t0 : eName 0 τ = some (strS t)) (t1 : eName 1 τ = some (.lst (wv ws))) (t3 : eName 3 τ = some (.int ((ws.length - i : Nat) : Int))) (t4 : eName 4 τ = some (.lst (pat.map Piece.v))) (t5 : eName 5 τ = some (.int (k : Int))) (t6 : eName 6 τ = some (.lst (wv words))) :
    ∃ (z : Bool) (a b : V), (z = true → Moved ws.length a b) ∧ b_law_moved_2 σ = some (if z then .ret a else .next, σ) ∧ b_law_next_2 τ = some (if z then .ret b else .next, τ) := by
  by_cases h1 : [47] = t
  rotate_left
  · exact ⟨false, .none, .none, (fun h => nomatch h), mvF1 s6 s2 h1, nxF1 t0 fun e => h1 e.symm⟩
  subst h1
  have lT : (ws.reverse.map strS).length = ws.length := by rw [List.length_map, List.length_reverse]
  have lP : (pat.map Piece.v).length = ps.length := by rw [List.length_map, R.len]
  have cs : ((ws.reverse.map strS).length : Int) - (i : Int) = ((ws.length - i : Nat) : Int) := by rw [lT, Int.ofNat_sub (Nat.le_of_lt hi)]
  by_cases h2 : ps.length = ws.length - i
  rotate_left
  · exact ⟨false, .none, .none, (fun h => nomatch h), mvF2 s6 s2 s7 s4 s5 (fun e => h2 (Int.ofNat.inj (e.trans cs))), nxF2 t0 t4 t3 (fun e => h2 (lP ▸ e))⟩
  have hs : ws.length = ps.length + i := h2 ▸ (Nat.sub_add_cancel (Nat.le_of_lt hi)).symm
  have m1 := mvC s6 s2 s7 s4 s5 ((congrArg Int.ofNat h2).trans cs.symm) (mv_all R hw hs hn s5 s7 s4)
  rw [← h2] at t3
  have na := nx_all R hw hs hn t1 t4 t3
  cases hz : (List.range ps.length).all (zsAt ps ws) with
  | false => exact ⟨false, .none, .none, (fun h => nomatch h), mvF3 s6 s2 s7 s4 s5 ((congrArg Int.ofNat h2).trans cs.symm) (mv_all R hw hs hn s5 s7 s4) hz, nxF3 t0 t4 t3 lP na hz⟩
  | true =>
    obtain ⟨m, hm⟩ : ∃ m, ps.length = m + 1 := ⟨ps.length - 1, by omega⟩
    have csW : NW (ws.take m) := fun w h => hw w (List.mem_of_mem_take h)
    have restW : ∀ w ∈ ws.drop ps.length, w ∈ W := fun w h => (hw w (List.mem_of_mem_drop h)).1
    have lcs : (ws.take m).length = m := List.length_take_of_le (by omega)
    have lrest : (ws.drop ps.length).length = i := by rw [List.length_drop, hs, Nat.add_sub_cancel_left]
    have lw := R.w_len
    have e2 : ((ws.reverse.map strS).take i).reverse = (ws.drop ps.length).map strS := by
      rw [← List.map_take, ← List.map_reverse, List.take_reverse, List.reverse_reverse, hs, Nat.add_sub_cancel]
    have hi1 : vIdx (.lst (hds [47] ws.reverse)) (.int i) = some (strS ([47] ++ joinL (ws.take m))) := by
      rw [vidx_lst _ (Nat.lt_of_lt_of_le (Nat.lt_of_lt_of_le hi hn) (by decide)), hds_get [47] ws.reverse i (by rw [List.length_reverse]; exact hi), List.drop_reverse, List.reverse_reverse, show ws.length - (i + 1) = m by omega]
    have mv := fun (p : V) (q : V) => mvT (q := q) (p := p) s6 s2 s7 s4 s5 ((congrArg Int.ofNat h2).trans cs.symm) (mv_all R hw hs hn s5 s7 s4) hz s3 s8 hi1 e2
    have zd : ((wv ws).drop ps.length).length = i := by rw [wv_drop, wv_len, lrest]
    have zt : ((wv ws).take m).length = m := by rw [wv_take, wv_len, lcs]
    by_cases hk : k = 0
    · subst hk
      obtain ⟨p, j1, j2⟩ := move_rel csW R.w_in restW (by omega)
      have st := f_stay_W (l := ws.take m ++ words ++ ws.drop ps.length) (by rw [List.length_append, List.length_append]; omega)
      have lL := stW_len (ws.take m ++ words ++ ws.drop ps.length)
      rw [List.length_append, List.length_append] at lL
      rw [wv_app, wv_app, ← wv_drop, ← wv_take] at st
      refine ⟨true, _, _, fun _ => ⟨[47], stW (ws.take m ++ words ++ ws.drop ps.length), rfl, rfl, .inl rfl, stW_nw (fun w h => ?_), by omega⟩, mv _ _ j1 j2, nxRel t0 t4 t3 lP na hz t1 t5 t6 rfl hm (by rw [zt, wv_len]; omega) (by rw [List.length_append, zt, zd, wv_len]; omega) st⟩
      rcases List.mem_append.mp h with h | h
      · rcases List.mem_append.mp h with h | h
        · exact (csW w h).1
        · exact R.w_in w h
      · exact restW w h
    · have hrt := root_rep R.k_le hk
      have lcj := joinL_le (ws.take m)
      have j1 := jl_W (l := ws.take m) fun w hw => (csW w hw).1
      obtain ⟨p, j1, j2⟩ := move_abs hrt (h0 := [47] ++ joinL (ws.take m)) (by rw [List.length_append]; show 1 + _ ≤ _; omega) R.w_in restW (by omega)
      have st := f_stay_W (l := words ++ ws.drop ps.length) (by rw [List.length_append]; omega)
      have lL := stW_len (words ++ ws.drop ps.length)
      rw [List.length_append] at lL
      rw [wv_app, ← wv_drop] at st
      refine ⟨true, _, _, fun _ => ⟨List.replicate k 47, stW (words ++ ws.drop ps.length), rfl, rfl, hrt, stW_nw (fun w h => ?_), by omega⟩, mv _ _ j1 j2, nxAbs t0 t4 t3 lP na hz t1 t5 t6 (Nat.pos_of_ne_zero hk) (Nat.le_trans R.k_le (by decide)) (by rw [zd, wv_len]; omega) st⟩
      rcases List.mem_append.mp h with h | h
      · exact R.w_in w h
      · exact restW w h
end Mine
end

noncomputable section
open PySem PySem.W PyProof.Rows
open Builtin Builtin.Str
set_option maxRecDepth 100000
namespace Mine

inductive RulesL : List V → List V → Prop where
  | nil : RulesL [] []
  | cons {d u : V} {ds us : List V} (h : ∃ pat ps k words, RuleIs d u pat ps k words) (r : RulesL ds us) : RulesL (d :: ds) (u :: us)
noncomputable abbrev updM : V → Sig → Option Sig := aTup 3 (asCons (aName 6) (asCons (aName 7) (asCons (aName 8) asNil)))
noncomputable abbrev updN : V → Sig → Option Sig := aTup 3 (asCons (aName 4) (asCons (aName 5) (asCons (aName 6) asNil)))
theorem forL_next {upd : V → Sig → Option Sig} {body : Sig → Option (Fl × Sig)} {x : V} {xs : List V} {σ σ₁ σ₂ : Sig} (h1 : upd x σ = some σ₁) (h2 : body σ₁ = some (.next, σ₂)) : forL upd body (x :: xs) σ = forL upd body xs σ₂ := ev_forN h1 h2 rfl
noncomputable def mS (p0 ds : Option V) (t : List Nat) (ws : List (List Nat)) (z a b c : Option V) : Sig := [p0, ds, some (strS t), some (.lst (hds t ws.reverse)), some (.lst (ws.reverse.map strS)), z, a, b, c]
noncomputable def nS (t : List Nat) (ws : List (List Nat)) (us z a b c : Option V) : Sig := [some (strS t), some (.lst (wv ws)), us, z, a, b, c]
/-- both loops give up with their answers, or both go on -/
inductive Both (n : Nat) (p q : Option (Fl × Sig)) (P Q : Sig → Prop) : Prop where
  | out (x y : V) (σ τ : Sig) (h : Moved n x y) (e : p = some (.ret x, σ)) (f : q = some (.ret y, τ))
  | on (σ τ : Sig) (hp : P σ) (hq : Q τ) (e : p = some (.next, σ)) (f : q = some (.next, τ))
section
variable {t : List Nat} {ws : List (List Nat)} (ht : Root t) (hw : NW ws) (hn : ws.length ≤ 20)
include ht hw hn
theorem inner {i : Nat} (hi : i < ws.length) (p0 DS US : Option V) : ∀ {ds us : List V}, RulesL ds us → ∀ (a b c a' b' c' : Option V),
    Both ws.length (forL updM b_law_moved_2 ds (mS p0 DS t ws (some (.int i)) a b c)) (forL updN b_law_next_2 us (nS t ws US (some (.int ((ws.length - i : Nat) : Int))) a' b' c'))
      (fun σ => ∃ a b c, σ = mS p0 DS t ws (some (.int i)) a b c) (fun τ => ∃ a b c, τ = nS t ws US (some (.int ((ws.length - i : Nat) : Int))) a b c) := by
  intro ds us hr
  induction hr with
  | nil => intro a b c a' b' c'; exact .on _ _ ⟨a, b, c, rfl⟩ ⟨a', b', c', rfl⟩ rfl rfl
  | cons h r ih =>
    intro a b c a' b' c'
    obtain ⟨pat, ps, k, words, R⟩ := h
    obtain ⟨z, x, y, hm, e1, e2⟩ := moved_turn R ht hw hn hi (σ := mS p0 DS t ws (some (.int i)) (some (strS [47])) (some (.lst ps)) (some (strS (List.replicate k 47 ++ joinL (addN [[46]] words)))))
      (τ := nS t ws US (some (.int ((ws.length - i : Nat) : Int))) (some (.lst (pat.map Piece.v))) (some (.int (k : Int))) (some (.lst (wv words)))) rfl rfl rfl rfl rfl rfl rfl rfl rfl rfl rfl rfl rfl
    rw [R.d_is, R.u_is]
    cases z with
    | true => exact .out x y _ _ (hm rfl) (ev_forR rfl e1) (ev_forR rfl e2)
    | false =>
      cases ih (some (strS [47])) (some (.lst ps)) (some (strS (List.replicate k 47 ++ joinL (addN [[46]] words)))) (some (.lst (pat.map Piece.v))) (some (.int (k : Int))) (some (.lst (wv words))) with
      | out x y σ τ h f1 f2 => exact .out x y σ τ h (ev_forN rfl e1 f1) (ev_forN rfl e2 f2)
      | on σ τ hp hq f1 f2 => exact .on σ τ hp hq (ev_forN rfl e1 f1) (ev_forN rfl e2 f2)
theorem outer (p0 : Option V) {ds us : List V} (hr : RulesL ds us) : ∀ (m i : Nat), i + m = ws.length → ∀ (z a b c z' a' b' c' : Option V),
    Both ws.length (forL (aName 5) b_law_moved_3 (nats (List.range' i m)) (mS p0 (some (.lst ds)) t ws z a b c)) (forL (aName 3) b_law_next_3 (nats ((List.range' i m).map fun i => ws.length - i)) (nS t ws (some (.lst us)) z' a' b' c')) (fun _ => True) (fun _ => True)
  | 0, i, _, z, a, b, c, z', a', b', c' => .on _ _ ⟨⟩ ⟨⟩ rfl rfl
  | m + 1, i, h, z, a, b, c, z', a', b', c' => by
    cases inner ht hw hn (i := i) (h ▸ Nat.lt_add_of_pos_right (Nat.succ_pos m)) p0 (some (.lst ds)) (some (.lst us)) hr a b c a' b' c' with
    | out x y σ τ h f1 f2 => exact .out x y σ τ h (ev_forR (a := .int i) (l := nats (List.range' (i + 1) m)) rfl (ev_one (ev_for (ev_iseq rfl rfl) f1))) (ev_forR (a := .int ((ws.length - i : Nat) : Int)) (l := nats ((List.range' (i + 1) m).map fun i => ws.length - i)) rfl (ev_one (ev_for (ev_iseq rfl rfl) f2)))
    | on σ τ hp hq f1 f2 =>
      obtain ⟨a, b, c, rfl⟩ := hp
      obtain ⟨a', b', c', rfl⟩ := hq
      cases outer p0 hr m (i + 1) ((Nat.succ_add_eq_add_succ i m).trans h) (some (.int i)) a b c (some (.int ((ws.length - i : Nat) : Int))) a' b' c' with
      | out x y σ τ h g1 g2 => exact .out x y σ τ h (ev_forN (a := .int i) (l := nats (List.range' (i + 1) m)) rfl (ev_one (ev_for (ev_iseq rfl rfl) f1)) g1) (ev_forN (a := .int ((ws.length - i : Nat) : Int)) (l := nats ((List.range' (i + 1) m).map fun i => ws.length - i)) rfl (ev_one (ev_for (ev_iseq rfl rfl) f2)) g2)
      | on σ τ hp hq g1 g2 => exact .on σ τ ⟨⟩ ⟨⟩ (ev_forN (a := .int i) (l := nats (List.range' (i + 1) m)) rfl (ev_one (ev_for (ev_iseq rfl rfl) f1)) g1) (ev_forN (a := .int ((ws.length - i : Nat) : Int)) (l := nats ((List.range' (i + 1) m).map fun i => ws.length - i)) rfl (ev_one (ev_for (ev_iseq rfl rfl) f2)) g2)
end
theorem range_down (n : Nat) : (rangeOf (n : Int) 0 (-1)).map V.int = nats ((List.range' 0 n).map fun i => n - i) := by
  have e : (Builtin.Range.rangeSize (n : Int) 0 (-1)).toNat = n := by
    show (if (n : Int) > 0 then ((n : Int) - 0 - 1) / (- -1) + 1 else 0).toNat = n
    cases n with
    | zero => rfl
    | succ n => rw [if_pos (show ((n + 1 : Nat) : Int) > 0 from Int.ofNat_lt.mpr (Nat.succ_pos n)), Int.sub_zero, show (- -1 : Int) = 1 from rfl, Int.ediv_one, Int.sub_add_cancel, Int.toNat_natCast]
  unfold rangeOf nats
  rw [e, List.map_map, List.map_map, ← List.range_eq_range']
  refine List.map_congr_left fun k hk => ?_
  show V.int ((n : Int) + (k : Int) * -1) = .int ((n - k : Nat) : Int)
  rw [Int.mul_neg_one, Int.ofNat_sub (Nat.le_of_lt (List.mem_range.mp hk))]; rfl
theorem iRange_down {σ : Sig} {q : Sig → Option (List V)} {n : Nat} (h : q σ = some [.int (n : Int), .int 0, .int (-1)]) (hn : n ≤ 1000) : iRange q σ = some (nats ((List.range' 0 n).map fun i => n - i)) :=
  (ev_irange h (if_pos ⟨Bool.and_eq_true_iff.mpr ⟨decide_eq_true hn, rfl⟩, rfl⟩)).trans (congrArg some (range_down n))
theorem moved_next {t : List Nat} {ws : List (List Nat)} (ht : Root t) (hw : NW ws) (hn : ws.length ≤ 20) {ds us : List V} (hr : RulesL ds us) :
    ∃ a b, f_law_moved [strS (t ++ joinL ws), .lst ds] = some a ∧ f_law_next [strS t, .lst (wv ws), .lst us] = some b ∧ (Moved ws.length a b ∨ (a = strS [] ∧ b = .tup [strS [], .lst []])) := by
  have jw := jl_W (l := ws) fun w h => (hw w h).1
  have fc := f_climb_is ht hw.nm (by omega) (by omega)
  have hn' : ws.length ≤ 1000 := Nat.le_trans hn (by decide)
  have c1 : ∀ {f r}, f (mS (some (strS (t ++ joinL ws))) (some (.lst ds)) t ws none none none none) = r → sSeq (sAsgT (eCallV f_law_climb (esCons (eName 0) esNil)) (aTup 3 (asCons (aName 2) (asCons (aName 3) (asCons (aName 4) asNil))))) f [some (strS (t ++ joinL ws)), some (.lst ds), none, none, none, none, none, none, none] = r :=
    fun h => ev_seq (ev_asgT (ev_call (ev_sing rfl) fc) rfl) h
  have i1 : iRange (esCons (eLen (eName 4)) esNil) (mS (some (strS (t ++ joinL ws))) (some (.lst ds)) t ws none none none none) = some (nats (List.range' 0 ws.length)) := by
    rw [← List.range_eq_range']
    exact iRange_nats (ev_sing (ev_len rfl (congrArg (fun n : Nat => some (V.int n)) (by rw [List.length_map, List.length_reverse])))) hn'
  have i2 : iRange (esCons (eLen (eName 1)) (esCons (eInt 0) (esCons (eNeg (eInt 1)) esNil))) (nS t ws (some (.lst us)) none none none none) = some (nats ((List.range' 0 ws.length).map fun i => ws.length - i)) :=
    iRange_down (ev_cons (ev_len rfl (congrArg (fun n : Nat => some (V.int n)) (wv_len ws))) rfl) hn'
  cases outer ht hw hn (some (strS (t ++ joinL ws))) hr ws.length 0 (Nat.zero_add _) none none none none none none none none with
  | out x y σ τ h f1 f2 =>
    refine ⟨x, y, ap_fn (d := [strS (t ++ joinL ws), .lst ds]) (σ' := σ) rfl ?_, ap_fn (d := [strS t, .lst (wv ws), .lst us]) (σ' := τ) rfl ?_, .inl h⟩
    · rw [m_law_moved_eq]; exact c1 (ev_seqR (ev_for i1 f1))
    · rw [m_law_next_eq]; exact ev_seqR (ev_for i2 f2)
  | on σ τ _ _ f1 f2 =>
    refine ⟨_, _, ap_fn (d := [strS (t ++ joinL ws), .lst ds]) (σ' := σ) rfl ?_, ap_fn (d := [strS t, .lst (wv ws), .lst us]) (σ' := τ) rfl ?_, .inr ⟨rfl, rfl⟩⟩
    · rw [m_law_moved_eq]; exact c1 (ev_seq (ev_for i1 f1) (ev_one (ev_ret s_nil)))
    · rw [m_law_next_eq]; exact ev_seq (ev_for i2 f2) (ev_one (ev_ret (ev_tup (ev_cons s_nil rfl) (leK rfl))))
end Mine
end

noncomputable section
open PySem PySem.W PyProof.Rows
open Builtin Builtin.Str
set_option maxRecDepth 100000
namespace Mine

/- the law's tables -/
noncomputable def itV : V := .lst ((List.range 18).map fun k => .tup [strS (tx k), .lst ((sg k).map strS)])
noncomputable def wdV : V := .lst (W.map strS)
noncomputable def seeds : List Int := [724, 11, 33556, 192, 428, 8, 72, 161, 423, 105]
noncomputable def sdV : V := .lst (seeds.map .int)
theorem items_is (σ : Sig) : a_law_1 σ = some itV := by kernel_rfl
theorem words_is (σ : Sig) : a_law_2 σ = some wdV := by kernel_rfl
theorem seeds_is (σ : Sig) : a_law_3 σ = some sdV := by kernel_rfl

/-- a piece by its number -/
noncomputable def pcOf (n : Nat) : Piece := if 324 ≤ n then ⟨[46, 46], []⟩ else ⟨tx (n % 18) ++ tx (n / 18), sg (n % 18) ++ sg (n / 18)⟩
theorem tx_small {k : Nat} (h : k < 18) : (tx k).length ≤ 7 ∧ (sg k).length ≤ 1 ∧ 47 ∉ tx k := by
  have : ∀ k ∈ List.range 18, (tx k).length ≤ 7 ∧ (sg k).length ≤ 1 ∧ 47 ∉ tx k := by decide
  exact this k (List.mem_range.mpr h)
theorem fmod_nat (n b : Nat) : (n : Int).fmod (b : Int) = ((n % b : Nat) : Int) := Int.fmod_eq_emod_of_nonneg _ (Int.natCast_nonneg b)
theorem fdiv_nat (n b : Nat) : (n : Int).fdiv (b : Int) = ((n / b : Nat) : Int) := Int.fdiv_eq_ediv_of_nonneg _ (Int.natCast_nonneg b)
theorem vmod_nat (n : Nat) {b : Nat} (h1 : 0 < b) (h2 : b < 1000) : vBin .Mod (.int (n : Int)) (.int (b : Int)) = some (.int ((n % b : Nat) : Int)) :=
  (show vBin .Mod (.int (n : Int)) (.int (b : Int)) = some (.int ((n : Int).fmod b)) from if_pos ⟨Int.ofNat_lt.mpr h1, Int.ofNat_lt.mpr h2⟩).trans (congrArg (fun z => some (V.int z)) (fmod_nat n b))
theorem vdiv_nat (n : Nat) {b : Nat} (h1 : 0 < b) (h2 : b < 1000) : vBin .FloorDiv (.int (n : Int)) (.int (b : Int)) = some (.int ((n / b : Nat) : Int)) :=
  (show vBin .FloorDiv (.int (n : Int)) (.int (b : Int)) = some (.int ((n : Int).fdiv b)) from if_pos ⟨Int.ofNat_lt.mpr h1, Int.ofNat_lt.mpr h2⟩).trans (congrArg (fun z => some (V.int z)) (fdiv_nat n b))
theorem item_at {k : Nat} (h : k < 18) : vIdx itV (.int (k : Int)) = some (.tup [strS (tx k), .lst ((sg k).map strS)]) := by
  unfold itV
  rw [vidx_lst _ (by omega), List.getElem?_map, List.getElem?_range h]
  rfl
theorem pieces360 : ((List.range 360).map fun n : Nat => e_law_2 [some itV, some (.int (n : Int))]) = (List.range 360).map fun n => some (pcOf n).v := by kernel_rfl
theorem piece_is {n : Nat} (h : n < 360) : e_law_2 [some itV, some (.int (n : Int))] = some (pcOf n).v := List.map_inj_left.mp pieces360 n (List.mem_range.mpr h)
end Mine
end

noncomputable section
open PySem PySem.W PyProof.Rows
open Builtin Builtin.Str
set_option maxRecDepth 100000
namespace Mine

/-- the law's state at a rule -/
noncomputable abbrev st9 (sc : V) (k : Nat) (cs : List Int) (D U : List V) (x8 x9 x10 x11 x12 x13 x14 : Option V) (os : List (Option V)) : Sig :=
  some sc :: some itV :: some wdV :: some sdV :: some (.int (k : Int)) :: some (.lst (cs.map .int)) :: some (.lst D) :: some (.lst U) :: x8 :: x9 :: x10 :: x11 :: x12 :: x13 :: x14 :: os
noncomputable def Cells (cs : List Int) : Prop := cs.length = 10 ∧ ∀ c ∈ cs, 0 ≤ c
theorem nats_of {b : Nat} : ∀ {ds : List Int}, InR (b : Int) ds → ∃ ns : List Nat, ds.map V.int = nats ns ∧ ns.length = ds.length ∧ ∀ n ∈ ns, n < b
  | [], _ => ⟨[], rfl, rfl, fun _ h => nomatch h⟩
  | d :: ds, h => by
    obtain ⟨h1, h2⟩ := h d (.head _)
    obtain ⟨ns, e1, e2, e3⟩ := nats_of (ds := ds) fun x hx => h x (.tail _ hx)
    obtain ⟨m, rfl⟩ := Int.eq_ofNat_of_zero_le h1
    refine ⟨m :: ns, congrArg (V.int m :: ·) e1, congrArg Nat.succ e2, fun n hn => ?_⟩
    rcases List.mem_cons.mp hn with rfl | hn
    · exact Int.ofNat_lt.mp h2
    · exact e3 n hn
theorem digits_nat (x : Int) {b : Nat} (hb : 0 < b) (hb' : b < 1000) {size : Nat} (hs : size ≤ 3) : ∃ ns : List Nat, f_law_digits [.int x, .int (b : Int), .int (size : Int)] = some (.lst (nats ns)) ∧ ns.length ≤ size ∧ ∀ n ∈ ns, n < b := by
  obtain ⟨ds, e1, e2, e3⟩ := f_digits_is x (b := (b : Int)) (Int.ofNat_lt.mpr hb) (Int.ofNat_lt.mpr hb') hs
  obtain ⟨ns, f1, f2, f3⟩ := nats_of e3
  exact ⟨ns, by rw [e1, f1], f2 ▸ e2, f3⟩
theorem cell_at {cs : List Int} {k : Nat} (hc : Cells cs) (hk : k < 10) : ∃ c : Nat, vIdx (.lst (cs.map .int)) (.int (k : Int)) = some (.int (c : Int)) := by
  have hl : k < cs.length := hc.1.symm ▸ hk
  obtain ⟨c, e⟩ := Int.eq_ofNat_of_zero_le (hc.2 cs[k] (List.getElem_mem hl))
  exact ⟨c, by rw [vidx_lst _ (Nat.lt_trans hk (by decide)), List.getElem?_map, List.getElem?_eq_getElem hl, e]; rfl⟩
section
variable {sc : V} {k : Nat} {cs : List Int} {D U : List V} {x8 x9 x10 x11 x12 x13 x14 : Option V} {os : List (Option V)}

theorem st1 (hk : k < 4) (hc : Cells cs) : ∃ ns : List Nat, (∀ {D U x8 x9 x10 x11 x12 x13 x14 os}, s9_1 (st9 sc k cs D U x8 x9 x10 x11 x12 x13 x14 os) = some (.next, st9 sc k cs D U (some (.lst (nats ns))) x9 x10 x11 x12 x13 x14 os)) ∧ ns.length ≤ 2 ∧ ∀ n ∈ ns, n < 360 := by
  obtain ⟨c, hi⟩ := cell_at hc (k := k) (Nat.lt_trans hk (by decide))
  by_cases h3 : k < 3
  · obtain ⟨ns, e1, e2, e3⟩ := digits_nat (c : Int) (b := 360) (by decide) (by decide) (size := 2) (by decide)
    exact ⟨ns, ev_asg (ev_eifT (ev_cmp rfl rfl (iLtT (Int.ofNat_lt.mpr h3))) (ev_call (ev_cons (ev_idx rfl rfl hi) rfl) e1)), e2, e3⟩
  · exact ⟨[1], ev_asg (ev_eifF (ev_cmp rfl rfl (iLtF fun q => h3 (Int.ofNat_lt.mp q))) (ev_lst (ev_sing rfl) (leK rfl))), by decide, by decide⟩
theorem comp_map {α : Type} {upd : V → Sig → Option Sig} {e : Sig → Option V} {F : Option V → Sig} {p g : α → V} (h1 : ∀ x y, upd (p x) (F y) = some (F (some (p x)))) : ∀ {l : List α} (y : Option V), (∀ x ∈ l, e (F (some (p x))) = some (g x)) → compL upd gNil e (l.map p) (F y) = some (l.map g)
  | [], _, _ => rfl
  | x :: l, y, h2 => ev_coT (l := l.map p) (h1 x y) rfl (h2 x (.head _)) (comp_map h1 (some (p x)) fun m hm => h2 m (.tail _ hm))
theorem nats_le {l : List Nat} {k : Nat} (h : l.length ≤ k) (h' : k ≤ 1000) : (nats l).length ≤ 1000 := nats_len l ▸ Nat.le_trans h h'
theorem st2 {ns : List Nat} (h2 : ns.length ≤ 2) (h3 : ∀ n ∈ ns, n < 360) : s9_2 (st9 sc k cs D U (some (.lst (nats ns))) x9 x10 x11 x12 x13 x14 os) = some (.next, st9 sc k cs D U (some (.lst (nats ns))) (some (.lst ((ns.map pcOf).map Piece.v))) x10 x11 x12 x13 x14 os) := by
  rw [List.map_map]
  exact ev_asgC (ev_comp (ev_iseq rfl rfl) (nats_le h2 (by decide)) (comp_map (F := fun y => [some itV, y]) (p := fun n : Nat => V.int n) (fun _ _ => rfl) none fun n hn => piece_is (h3 n hn)))
theorem vdep_strs (l : List (List Nat)) : vdepL (l.map strS) = 0 := by
  induction l with
  | nil => rfl
  | cons x r ih => exact congrArg (max 0) ih
theorem vdep_piece (p : Piece) : vdep p.v ≤ 2 := by
  show max 0 (max (vdepL (p.signs.map strS) + 1) 0) + 1 ≤ 2
  rw [vdep_strs]; decide
theorem vdep_pieces (l : List Piece) : vdepL (l.map Piece.v) ≤ 2 := by
  induction l with
  | nil => decide
  | cons p r ih => exact Nat.max_le.mpr ⟨vdep_piece p, ih⟩
theorem ne_empty (l : List Piece) : vCmp .NotEq (.lst (l.map Piece.v)) (.lst []) = some (!l.isEmpty) :=
  ne_low (Nat.succ_le_succ (Nat.le_trans (vdep_pieces l) (by decide))) (by cases l <;> rfl)
/-- the pieces, with a star where none stays -/
noncomputable def full (l : List Piece) : List Piece := if (stay l).isEmpty then l ++ [pcOf 1] else l
theorem st3 {l : List Piece} (hl : l.length ≤ 2) : s9_3 (st9 sc k cs D U x8 (some (.lst (l.map Piece.v))) x10 x11 x12 x13 x14 os) = some (.next, st9 sc k cs D U x8 (some (.lst ((full l).map Piece.v))) x10 x11 x12 x13 x14 os) := by
  have c : ∀ {q}, (stay l).isEmpty = q → tCmp .NotEq (eCallV f_law_stay (esCons (eName 9) esNil)) (eLst esNil) (st9 sc k cs D U x8 (some (.lst (l.map Piece.v))) x10 x11 x12 x13 x14 os) = some (!q) :=
    fun h => h ▸ ev_cmp (ev_call (ev_sing rfl) (f_stay_is (Nat.le_trans hl (by decide)))) rfl (ne_empty (stay l))
  unfold full
  cases h : (stay l).isEmpty with
  | true =>
    have a1 : vBin .Add (.lst (l.map Piece.v)) (.lst [(pcOf 1).v]) = some (.lst (l.map Piece.v ++ [(pcOf 1).v])) := if_pos (Nat.le_trans (Nat.add_le_add_right (List.length_map Piece.v ▸ hl) 1) (by decide))
    rw [if_pos rfl, List.map_append]
    exact ev_asg (ev_eifF (c h) (ev_bin rfl (ev_lst (ev_sing (ev_idx rfl rfl (item_at (k := 1) (by decide)))) (leK rfl)) a1))
  | false => exact ev_asg (ev_eifT (c h) rfl)
noncomputable def slashes : List Nat := [0, 0, 0, 0, 1, 1, 1, 2]
theorem st4 (hk : k < 4) (hc : Cells cs) : ∃ q : Nat, q ≤ 2 ∧ ∀ {D U x8 x9 x10 x11 x12 x13 x14 os}, s9_4 (st9 sc k cs D U x8 x9 x10 x11 x12 x13 x14 os) = some (.next, st9 sc k cs D U x8 x9 (some (.int (q : Int))) x11 x12 x13 x14 os) := by
  obtain ⟨c, hi⟩ := cell_at hc (k := k + 3) (Nat.lt_trans (Nat.add_lt_add_right hk 3) (by decide))
  have hm : c % 8 < slashes.length := Nat.mod_lt _ (by decide)
  have vi : vIdx (.lst (nats slashes)) (.int ((c % 8 : Nat) : Int)) = some (.int ((slashes[c % 8] : Nat) : Int)) := by
    rw [vidx_lst _ (Nat.lt_trans hm (by decide)), nats, List.getElem?_map, List.getElem?_eq_getElem hm]; rfl
  exact ⟨slashes[c % 8], (show ∀ x ∈ slashes, x ≤ 2 by decide) _ (List.getElem_mem hm), ev_asg (ev_idx (ev_lst (l := nats slashes) rfl (leK rfl)) (ev_bin (ev_idx rfl (ev_bin rfl rfl rfl) hi) rfl (vmod_nat c (by decide) (by decide))) vi)⟩
theorem word_at {n : Nat} (h : n < 10) : ∃ w, w ∈ W ∧ vIdx wdV (.int (n : Int)) = some (strS w) := by
  have hl : n < W.length := h
  exact ⟨W[n], List.getElem_mem hl, by unfold wdV; rw [vidx_lst _ (Nat.lt_trans h (by decide)), List.getElem?_map, List.getElem?_eq_getElem hl]; rfl⟩
theorem words_comp {e : Sig → Option V} (he : e = eIdx (eName 0) (eName 1)) : ∀ {ns : List Nat} (y : Option V), (∀ n ∈ ns, n < 10) → ∃ ws : List (List Nat), compL (aName 1) gNil e (nats ns) [some wdV, y] = some (ws.map strS) ∧ ws.length = ns.length ∧ ∀ w ∈ ws, w ∈ W
  | [], _, _ => ⟨[], rfl, rfl, fun _ h => nomatch h⟩
  | n :: ns, y, h => by
    obtain ⟨w, hw, e1⟩ := word_at (h n (.head _))
    obtain ⟨ws, f1, f2, f3⟩ := words_comp he (ns := ns) (some (.int (n : Int))) fun x hx => h x (.tail _ hx)
    subst he
    refine ⟨w :: ws, ev_coT (l := nats ns) rfl rfl (ev_idx rfl rfl e1) f1, congrArg Nat.succ f2, fun x hx => ?_⟩
    rcases List.mem_cons.mp hx with rfl | hx
    · exact hw
    · exact f3 x hx
theorem st5 (hk : k < 4) (hc : Cells cs) : ∃ ws : List (List Nat), ws.length ≤ 2 ∧ (∀ w ∈ ws, w ∈ W) ∧ ∀ {D U x8 x9 x10 x11 x12 x13 x14 os}, s9_5 (st9 sc k cs D U x8 x9 x10 x11 x12 x13 x14 os) = some (.next, st9 sc k cs D U x8 x9 x10 (some (.lst (ws.map strS))) x12 x13 x14 os) := by
  obtain ⟨c, hi⟩ := cell_at hc (k := k + 3) (Nat.lt_trans (Nat.add_lt_add_right hk 3) (by decide))
  obtain ⟨ns, e1, e2, e3⟩ := digits_nat ((c / 8 : Nat) : Int) (b := 10) (by decide) (by decide) (size := 2) (by decide)
  obtain ⟨ws, f1, f2, f3⟩ := words_comp (e := e_law_3) rfl none e3
  exact ⟨ws, f2 ▸ e2, f3, ev_asgC (ev_comp (ev_iseq (ev_call (ev_cons (ev_bin (ev_idx rfl (ev_bin rfl rfl rfl) hi) rfl (vdiv_nat c (by decide) (by decide))) rfl) e1) rfl) (nats_le e2 (by decide)) f1)⟩
end
end Mine
end

noncomputable section
open PySem PySem.W PyProof.Rows
open Builtin Builtin.Str
set_option maxRecDepth 100000
namespace Mine

/-- the pieces of a rule -/
noncomputable def PcL (l : List Piece) : Prop := ∀ p ∈ l, ∃ n, n < 360 ∧ p = pcOf n
theorem pc_text {n : Nat} (h : n < 360) : (pcOf n).text.length ≤ 14 ∧ 47 ∉ (pcOf n).text := by
  unfold pcOf
  split
  · exact ⟨by decide, by decide⟩
  · have t1 := tx_small (k := n % 18) (Nat.mod_lt _ (by decide))
    have t2 := tx_small (k := n / 18) (by omega)
    exact ⟨by simp only [List.length_append]; omega, by simp only [List.mem_append]; exact fun h => h.elim t1.2.2 t2.2.2⟩
theorem pc_jl : ∀ {l : List Piece}, PcL l → jl (l.map (·.text)) ≤ 15 * l.length
  | [], _ => Nat.le_refl _
  | p :: l, h => by
    obtain ⟨n, h1, rfl⟩ := h p (.head _)
    have := pc_text h1
    have ih := pc_jl (l := l) fun q hq => h q (.tail _ hq)
    simp only [List.map_cons, jl, List.length_cons]; omega
theorem pc_free {l : List Piece} (h : PcL l) : ∀ q ∈ l.map (·.text), 47 ∉ q := by
  intro q hq
  obtain ⟨p, hp, rfl⟩ := List.mem_map.mp hq
  obtain ⟨n, h1, rfl⟩ := h p hp
  exact (pc_text h1).2
theorem full_pc {ns : List Nat} (h : ∀ n ∈ ns, n < 360) : PcL (full (ns.map pcOf)) := by
  intro p hp
  unfold full at hp
  have of : p ∈ ns.map pcOf → ∃ n, n < 360 ∧ p = pcOf n := fun hp => by
    obtain ⟨n, hn, rfl⟩ := List.mem_map.mp hp
    exact ⟨n, h n hn, rfl⟩
  split at hp
  · rcases List.mem_append.mp hp with hp | hp
    · exact of hp
    · rw [List.mem_singleton.mp hp]; exact ⟨1, by decide, rfl⟩
  · exact of hp
theorem full_len (l : List Piece) : (full l).length ≤ l.length + 1 := by
  unfold full
  split
  · simp
  · omega
/-- what stays is read from two items -/
theorem stay_pc {l : List Piece} (h : PcL l) {p : Piece} (hp : p ∈ stay l) : ∃ a b, a < 18 ∧ b < 18 ∧ p = ⟨tx a ++ tx b, sg a ++ sg b⟩ := by
  obtain ⟨h1, _, _, h4⟩ := stay_name hp
  obtain ⟨n, hn, rfl⟩ := h p h1
  unfold pcOf at h4 ⊢
  split
  · rename_i hc
    rw [if_pos hc] at h4
    exact absurd rfl h4
  · exact ⟨n % 18, n / 18, Nat.mod_lt _ (by decide), by omega, rfl⟩
theorem stay_nm {l : List Piece} (h : PcL l) : Nm ((stay l).map (·.text)) := by
  intro c hc
  obtain ⟨p, hp, rfl⟩ := List.mem_map.mp hc
  obtain ⟨h1, h2, _⟩ := stay_name hp
  obtain ⟨n, hn, rfl⟩ := h p h1
  exact ⟨h2, (pc_text hn).2⟩
theorem stay_le (l : List Piece) : (stay l).length ≤ l.length := (stay_sub l).1.length_le
noncomputable def trV (x : List Nat) : V := match f_translate [strS x, .none, strS [46]] with
  | some v => v
  | none => .none
theorem trV_is {a b : Nat} (ha : a < 18) (hb : b < 18) : f_translate [strS (tx a ++ tx b), .none, strS [46]] = some (trV (tx a ++ tx b)) ∧ trV (tx a ++ tx b) = .lst (cat a b) := by
  have e := f_translate_is ha hb
  have : trV (tx a ++ tx b) = .lst (cat a b) := by unfold trV; rw [e]
  exact ⟨by rw [this]; exact e, this⟩
theorem sd_is : ("/." : Str) = S [47, 46] := by decide +kernel
section
variable {sc : V} {k : Nat} {cs : List Int} {D U : List V} {x8 x9 x10 x11 x12 x13 x14 : Option V} {os : List (Option V)}

theorem st6 {l : List Piece} (h : PcL l) (hl : l.length ≤ 3) : s9_6 (st9 sc k cs D U x8 (some (.lst (l.map Piece.v))) x10 x11 x12 x13 x14 os) =
    some (.next, st9 sc k cs D U x8 (some (.lst (l.map Piece.v))) x10 x11 (some (strS [47])) (some (.lst (hds [47] ((stay l).map (·.text)).reverse))) (some (.lst (((stay l).map (·.text)).reverse.map strS))) os) := by
  have jz := pc_jl h
  have fr := pc_free h
  have tn : jl [[46]] = 2 := rfl
  have ja := jl_addN [[46]] (l.map (·.text))
  have fj := f_join_is (a := [47, 46]) (bs := l.map (·.text)) (by simp only [List.length_cons, List.length_nil]; omega)
  have jn := joinN (t := [47]) (qs := [[46]]) (ns := l.map (·.text)) (.inl (.inl rfl)) hd_dot free_dot fr
  have jn' : (l.map (·.text)).foldl jstep [47, 46] = [47] ++ joinL (addN [[46]] (l.map (·.text))) := jn
  rw [jn'] at fj
  have hh := addN_hd (ns := l.map (·.text)) hd_dot
  have np := f_normpath_is (t := [47]) (.inl rfl) hh.ne' (addN_free free_dot fr) hh.head (by omega)
  have rr : res (addN [[46]] (l.map (·.text))) = (stay l).map (·.text) := by
    rw [← stay_res]
    unfold res
    rw [addN_rs]
    exact res_dot [] _
  rw [rr] at np
  have nm := stay_nm h
  have sl := stay_le l
  have js : jl ((stay l).map (·.text)) ≤ 15 * (stay l).length := pc_jl fun p hp => h p (stay_name hp).1
  have fc := f_climb_is (t := [47]) (.inl rfl) nm (by omega) (by rw [List.length_map]; omega)
  have ll : (l.map Piece.v).length ≤ 1000 := by rw [List.length_map]; exact Nat.le_trans hl (by decide)
  have cpl : compL (aName 0) gNil e_law_4 (l.map Piece.v) [none] = some ((l.map (·.text)).map strS) := by
    rw [List.map_map]
    exact comp_map (F := fun y => [y]) (fun _ _ => rfl) none fun _ _ => rfl
  exact ev_asgT (ev_call (ev_sing (ev_call (ev_sing (ev_call (ev_cons (ev_str _ sd_is (by decide)) (ev_star (ev_comp (ev_iseq rfl rfl) ll cpl))) fj)) np)) fc) rfl
end
end Mine
end

noncomputable section
open PySem PySem.W PyProof.Rows
open Builtin Builtin.Str
set_option maxRecDepth 100000
namespace Mine

/-- what _translate gives of what stays, the last part first -/
noncomputable def trs (l : List Piece) : List V := ((stay l).map (·.text)).reverse.map trV
theorem tr_comp {ts : List (List Nat)} (h : ∀ t ∈ ts, ∃ a b, a < 18 ∧ b < 18 ∧ t = tx a ++ tx b) : compL (aName 0) gNil e_law_5 (ts.map strS) [none] = some (ts.map trV) :=
  comp_map (F := fun y => [y]) (fun _ _ => rfl) none fun t ht => by
    obtain ⟨a, b, ha, hb, rfl⟩ := h t ht
    exact ev_call (ev_cons rfl (ev_cons rfl (ev_sing s_dot))) (trV_is ha hb).1
/-- the target's text -/
noncomputable def tgt (q : Nat) (words : List (List Nat)) : V := strS (List.replicate q 47 ++ joinL (addN [[46]] words))
section
variable {sc : V} {k : Nat} {cs : List Int} {D U : List V} {x8 x9 x10 x11 x12 x13 x14 : Option V} {os : List (Option V)}

theorem st7 {l : List Piece} (h : PcL l) (hl : l.length ≤ 3) {q : Nat} (hq : q ≤ 2) {words : List (List Nat)} (hw : ∀ w ∈ words, w ∈ W) (hw2 : words.length ≤ 2) (hD : D.length ≤ 900) :
    s9_7 (st9 sc k cs D U x8 x9 (some (.int (q : Int))) (some (.lst (words.map strS))) (some (strS [47])) x13 (some (.lst (((stay l).map (·.text)).reverse.map strS))) os) =
      some (.next, st9 sc k cs (D ++ [.tup [strS [47], .lst (trs l), tgt q words]]) U x8 x9 (some (.int (q : Int))) (some (.lst (words.map strS))) (some (strS [47])) x13 (some (.lst (((stay l).map (·.text)).reverse.map strS))) os) := by
  have cp := tr_comp (ts := ((stay l).map (·.text)).reverse) fun t ht => by
    obtain ⟨p, hp, rfl⟩ := List.mem_map.mp (List.mem_reverse.mp ht)
    obtain ⟨a, b, ha, hb, e⟩ := stay_pc h hp
    exact ⟨a, b, ha, hb, by rw [e]⟩
  have ll : (((stay l).map (·.text)).reverse.map strS).length ≤ 1000 := by
    rw [List.length_map, List.length_reverse, List.length_map]
    exact Nat.le_trans (stay_le l) (Nat.le_trans hl (by decide))
  have jw := jl_W hw
  have lq : (List.replicate q 47 ++ [46]).length = q + 1 := by rw [List.length_append, List.length_replicate]; rfl
  have fj := f_join_is (a := List.replicate q 47 ++ [46]) (bs := words) (by omega)
  have jn : words.foldl jstep (List.replicate q 47 ++ [46]) = List.replicate q 47 ++ joinL (addN [[46]] words) := joinN (t := List.replicate q 47) (qs := [[46]]) (ns := words) (by
    by_cases h0 : q = 0
    · subst h0; exact .inr rfl
    · exact .inl (root_rep hq h0)) hd_dot free_dot fun w hw' => W_free w (hw w hw')
  rw [jn] at fj
  have ad := vadd_str (List.replicate q 47) [46] (by rw [List.length_replicate]; exact Nat.le_trans (Nat.succ_le_succ hq) (by decide))
  exact ev_app rfl (ev_tup (ev_cons rfl (ev_cons (ev_comp (ev_iseq rfl rfl) ll cp) (ev_sing (ev_call (ev_cons (ev_bin (ev_bin s_sl rfl (mult_sl q (Nat.le_trans hq (by decide)))) s_dot ad) (ev_star rfl)) fj)))) (leK rfl)) (Nat.le_trans hD (by decide))
theorem st8 {l : List Piece} (hl : l.length ≤ 3) {q : Nat} {words : List (List Nat)} (hw2 : words.length ≤ 2) (hU : U.length ≤ 900) :
    s9_8 (st9 sc k cs D U x8 (some (.lst (l.map Piece.v))) (some (.int (q : Int))) (some (.lst (words.map strS))) x12 x13 x14 os) =
      some (.next, st9 sc k cs D (U ++ [.tup [.lst ((stay l).map Piece.v), .int (q : Int), .lst (wv words)]]) x8 (some (.lst (l.map Piece.v))) (some (.int (q : Int))) (some (.lst (words.map strS))) x12 x13 x14 os) := by
  have cp : compL (aName 0) gNil e_law_6 (words.map strS) [none] = some (wv words) := by
    unfold wv
    rw [List.map_map]
    exact comp_map (F := fun y => [y]) (fun _ _ => rfl) none fun _ _ => ev_tup (ev_cons rfl (ev_sing rfl)) (leK rfl)
  have ll : (words.map strS).length ≤ 1000 := by rw [List.length_map]; exact Nat.le_trans hw2 (by decide)
  exact ev_app rfl (ev_tup (ev_cons (ev_call (ev_sing rfl) (f_stay_is (Nat.le_trans hl (by decide)))) (ev_cons rfl (ev_sing (ev_comp (ev_iseq rfl rfl) ll cp)))) (leK rfl)) (Nat.le_trans hU (by decide))
theorem comp_none {α : Type} {upd : V → Sig → Option Sig} {t : Sig → Option Bool} {e : Sig → Option V} {F : Option V → Sig} {p : α → V} (h1 : ∀ x y, upd (p x) (F y) = some (F (some (p x)))) : ∀ {l : List α} (y : Option V), (∀ x ∈ l, t (F (some (p x))) = some false) → compL upd t e (l.map p) (F y) = some []
  | [], _, _ => rfl
  | x :: l, y, h2 => ev_coF (l := l.map p) (h1 x y) (h2 x (.head _)) (comp_none h1 (some (p x)) fun m hm => h2 m (.tail _ hm))
theorem st99 {l : List Piece} (h : PcL l) (hl : l.length ≤ 3) {T : V} (hk : k < 4) (hD : D.length = k) :
    s9_9 (st9 sc k cs (D ++ [.tup [strS [47], .lst (trs l), T]]) U x8 x9 x10 x11 x12 x13 x14 os) = some (.next, st9 sc k cs (D ++ [.tup [strS [47], .lst (trs l), T]]) U x8 x9 x10 x11 x12 x13 x14 os) := by
  have vi : vIdx (.lst (D ++ [V.tup [strS [47], .lst (trs l), T]])) (.int (k : Int)) = some (.tup [strS [47], .lst (trs l), T]) := by
    rw [vidx_lst _ (Nat.lt_trans hk (by decide)), ← hD, List.getElem?_append_right (Nat.le_refl _), Nat.sub_self]; rfl
  have cp : compL (aName 0) t_law_8 e_law_8 (trs l) [none] = some [] := comp_none (F := fun y => [y]) (fun _ _ => rfl) none fun t ht => by
    obtain ⟨p, hp, rfl⟩ := List.mem_map.mp (List.mem_reverse.mp ht)
    obtain ⟨a, b, ha, hb, e⟩ := stay_pc h hp
    rw [e, (trV_is ha hb).2]
    exact two_stars ha hb
  have ll : (trs l).length ≤ 1000 := by
    unfold trs
    rw [List.length_map, List.length_reverse, List.length_map]
    exact Nat.le_trans (stay_le l) (Nat.le_trans hl (by decide))
  exact ev_ifF (ev_cmp (ev_comp (ev_iseq (ev_idx (ev_idx rfl rfl vi) rfl rfl) rfl) ll cp) rfl rfl) rfl
end
end Mine
end

noncomputable section
open PySem PySem.W PyProof.Rows
open Builtin Builtin.Str
set_option maxRecDepth 100000
namespace Mine

theorem RulesL.snoc {D U : List V} (h : RulesL D U) {d u : V} (hr : ∃ pat ps k words, RuleIs d u pat ps k words) : RulesL (D ++ [d]) (U ++ [u]) := by
  induction h with
  | nil => exact .cons hr .nil
  | cons h _ ih => exact .cons h ih
theorem RulesL.len {D U : List V} (h : RulesL D U) : D.length = U.length := by
  induction h with
  | nil => rfl
  | cons _ _ ih => exact congrArg Nat.succ ih
theorem rule_is {l : List Piece} (h : PcL l) (hl : l.length ≤ 3) {q : Nat} (hq : q ≤ 2) {words : List (List Nat)} (hw : ∀ w ∈ words, w ∈ W) (hw2 : words.length ≤ 2) :
    RuleIs (.tup [strS [47], .lst (trs l), tgt q words]) (.tup [.lst ((stay l).map Piece.v), .int (q : Int), .lst (wv words)]) (stay l) (trs l) q words where
  d_is := rfl
  u_is := rfl
  k_le := hq
  w_in := hw
  w_len := hw2
  len := by unfold trs; rw [List.length_map, List.length_reverse, List.length_map]
  fm := by
    intro j v p h1 h2
    have e : trs l = (stay l).reverse.map fun p => trV p.text := by
      unfold trs
      rw [← List.map_reverse, List.map_map]
      rfl
    rw [e, List.getElem?_map, h2] at h1
    cases h1
    have hp : p ∈ stay l := List.mem_reverse.mp (List.mem_of_getElem? h2)
    obtain ⟨a, b, ha, hb, rfl⟩ := stay_pc h hp
    show FM (trV (tx a ++ tx b)) _
    rw [(trV_is ha hb).2]
    exact FM_of ha hb
  plen := Nat.le_trans (stay_le l) (Nat.le_trans hl (by decide))
section
variable {sc : V} {k : Nat} {cs : List Int} {D U : List V} {x8 x9 x10 x11 x12 x13 x14 : Option V} {os : List (Option V)}
/-- the law's state ahead of a rule -/
noncomputable abbrev st9z (sc : V) (z : Option V) (cs : List Int) (D U : List V) (x8 x9 x10 x11 x12 x13 x14 : Option V) (os : List (Option V)) : Sig :=
  some sc :: some itV :: some wdV :: some sdV :: z :: some (.lst (cs.map .int)) :: some (.lst D) :: some (.lst U) :: x8 :: x9 :: x10 :: x11 :: x12 :: x13 :: x14 :: os
inductive Z9 (sc : V) (z : Option V) (cs : List Int) (D U : List V) (os : List (Option V)) : Sig → Prop where
  | mk (x8 x9 x10 x11 x12 x13 x14 : Option V) : Z9 sc z cs D U os (st9z sc z cs D U x8 x9 x10 x11 x12 x13 x14 os)
theorem rule_body (hk : k < 4) (hc : Cells cs) (hr : RulesL D U) (hD : D.length = k) :
    ∃ d u τ, b_law_9 (st9 sc k cs D U x8 x9 x10 x11 x12 x13 x14 os) = some (.next, τ) ∧ Z9 sc (some (.int (k : Int))) cs (D ++ [d]) (U ++ [u]) os τ ∧ ∃ pat ps q words, RuleIs d u pat ps q words := by
  have h9 : k ≤ 900 := Nat.le_trans (Nat.le_of_lt hk) (by decide)
  obtain ⟨ns, e1, n1, n2⟩ := st1 (sc := sc) hk hc
  obtain ⟨q, hq, e4⟩ := st4 (sc := sc) hk hc
  obtain ⟨ws, w1, w2, e5⟩ := st5 (sc := sc) hk hc
  have ln : (ns.map pcOf).length ≤ 2 := by rw [List.length_map]; exact n1
  have hp := full_pc n2
  have hl : (full (ns.map pcOf)).length ≤ 3 := Nat.le_trans (full_len _) (Nat.succ_le_succ ln)
  exact ⟨_, _, _, ev_seq e1 (ev_seq (st2 n1 n2) (ev_seq (st3 ln) (ev_seq e4 (ev_seq e5 (ev_seq (st6 hp hl) (ev_seq (st7 hp hl hq w2 w1 (hD ▸ h9)) (ev_seq (st8 hl w1 (hr.len ▸ hD ▸ h9)) (ev_one (st99 hp hl hk hD))))))))), .mk _ _ _ _ _ _ _, _, _, _, _, rule_is hp hl hq w2 w1⟩
theorem rules_loop4 (hc : Cells cs) : ∀ (m i : Nat), i + m = 4 → ∀ (z : Option V) (D U : List V) (σ : Sig), Z9 sc z cs D U os σ → RulesL D U → D.length = i →
    ∃ z' D' U' τ, forL (aName 4) b_law_9 (nats (List.range' i m)) σ = some (.next, τ) ∧ Z9 sc z' cs D' U' os τ ∧ RulesL D' U'
  | 0, i, _, z, D, U, σ, hσ, hr, _ => ⟨z, D, U, σ, rfl, hσ, hr⟩
  | m + 1, i, h, z, D, U, _, .mk .., hr, hD => by
    obtain ⟨d, u, τ, e1, hτ, hrule⟩ := rule_body (sc := sc) (os := os) (h ▸ Nat.lt_add_of_pos_right (Nat.succ_pos m)) hc hr hD
    obtain ⟨z', D', U', υ, e2, hυ, hr'⟩ := rules_loop4 hc m (i + 1) ((Nat.succ_add_eq_add_succ i m).trans h) _ _ _ τ hτ (hr.snoc hrule) (by rw [List.length_append, hD]; rfl)
    exact ⟨z', D', U', υ, ev_forN (a := .int (i : Int)) (l := nats (List.range' (i + 1) m)) rfl e1 e2, hυ, hr'⟩
end
end Mine
end

noncomputable section
open PySem PySem.W PyProof.Rows
open Builtin Builtin.Str
set_option maxRecDepth 100000
namespace Mine

/-- the law's state at a path: what stands ahead is kept -/
noncomputable def st15 (a : Nat → Option V) (D U : List V) (x15 x16 x17 x18 x19 x20 : Option V) : Sig :=
  [a 0, a 1, some wdV, a 3, a 4, a 5, some (.lst D), some (.lst U), a 8, a 9, a 10, a 11, a 12, a 13, a 14, x15, x16, x17, x18, x19, x20]
/-- where a path stands, in both readings -/
noncomputable def Pos (n : Nat) (p t r : V) : Prop := (∃ t' ws, p = strS (t' ++ joinL ws) ∧ t = strS t' ∧ r = .lst (wv ws) ∧ Root t' ∧ NW ws ∧ ws.length ≤ n) ∨ (p = strS [] ∧ t = strS [] ∧ r = .lst [])
theorem names_comp : ∀ (ws : List (List Nat)) (y z : Option V), compL (aTup 2 (asCons (aName 0) (asCons (aName 1) asNil))) gNil e_law_12 (wv ws) [y, z] = some (ws.map strS)
  | [], _, _ => rfl
  | w :: ws, _, _ => ev_coT (a := .tup [strS w, .lst []]) (l := wv ws) rfl rfl rfl (names_comp ws _ _)
section
variable {a : Nat → Option V} {D U : List V} {x15 x16 x20 : Option V}
theorem st131 {p t r : V} {n : Nat} (h : Pos n p t r) (hn : n ≤ 20) : s13_1 (st15 a D U x15 x16 (some p) (some t) (some r) x20) = some (.next, st15 a D U x15 x16 (some p) (some t) (some r) x20) := by
  rcases h with ⟨t', ws, rfl, rfl, rfl, ht, hw, hl⟩ | ⟨rfl, rfl, rfl⟩
  · have jw := jl_W (l := ws) fun w h => (hw w h).1
    have jz := joinL_le ws
    have tz : t'.length ≤ 2 := by rcases ht with rfl | rfl <;> decide
    have ll : (wv ws).length ≤ 1000 := wv_len ws ▸ Nat.le_trans hl (Nat.le_trans hn (by decide))
    exact ev_ifF (ev_cmp rfl (ev_eifF (ev_cmp rfl s_nil (cEqF (root_ne ht))) (ev_bin rfl (ev_meth s_sl (ev_sing (ev_comp (ev_iseq rfl rfl) ll (names_comp ws none none))) (fJoin_is ws (by omega))) (vadd_str t' (joinL ws) (by omega)))) (cNeF rfl)) rfl
  · exact ev_ifF (ev_cmp rfl (ev_eifT (ev_cmp rfl s_nil (cEqT rfl)) s_nil) (cNeF rfl)) rfl
theorem Pos.up {p t r : V} {n : Nat} : Pos n p t r → Pos (n + 1) p t r
  | .inl ⟨a, b, c, d, e, f, g, h⟩ => .inl ⟨a, b, c, d, e, f, g, Nat.le_succ_of_le h⟩
  | .inr h => .inr h
theorem st132 {p t r : V} {n step : Nat} (hr : RulesL D U) (h : Pos n p t r) (hn : n ≤ 20) :
    ∃ p' t' r', Pos (n + 1) p' t' r' ∧ s13_2 (st15 a D U x15 x16 (some p) (some t) (some r) (some (.int (step : Int)))) = some (.next, st15 a D U x15 x16 (some p') (some t') (some r') (some (.int (step : Int)))) := by
  rcases id h with ⟨t', ws, rfl, rfl, rfl, ht, hw, hl⟩ | ⟨rfl, rfl, rfl⟩
  · have tn : t' ++ joinL ws ≠ [] := fun e => root_ne ht (List.append_eq_nil_iff.mp e).1
    by_cases hs : (step : Int) < 4
    · obtain ⟨y, b, m1, m2, m3⟩ := moved_next ht hw (Nat.le_trans hl hn) hr
      have fin : ∀ {t₂ r₂}, b = .tup [t₂, r₂] → s13_2 (st15 a D U x15 x16 (some (strS (t' ++ joinL ws))) (some (strS t')) (some (.lst (wv ws))) (some (.int (step : Int)))) = some (.next, st15 a D U x15 x16 (some y) (some t₂) (some r₂) (some (.int (step : Int)))) := fun e =>
        ev_ifT (ev_andT (ev_cmp rfl s_nil (cNeT tn)) (ev_and1 (ev_cmp rfl rfl (iLtT hs)))) (ev_seq (ev_asg (ev_call (ev_cons rfl (ev_sing rfl)) m1)) (ev_one (ev_asgT (ev_call (ev_cons rfl (ev_cons rfl (ev_sing rfl))) (m2.trans (congrArg some e))) rfl)))
      rcases m3 with ⟨t₂, ws₂, rfl, e, q1, q2, q3⟩ | ⟨rfl, e⟩
      · exact ⟨_, _, _, .inl ⟨t₂, ws₂, rfl, rfl, rfl, q1, q2, Nat.le_trans q3 (Nat.succ_le_succ hl)⟩, fin e⟩
      · exact ⟨_, _, _, .inr ⟨rfl, rfl, rfl⟩, fin e⟩
    · exact ⟨_, _, _, h.up, ev_ifF (ev_andT (ev_cmp rfl s_nil (cNeT tn)) (ev_and1 (ev_cmp rfl rfl (iLtF hs)))) rfl⟩
  · exact ⟨_, _, _, h.up, ev_ifF (ev_andF (ev_cmp rfl s_nil (cNeF rfl))) rfl⟩
theorem steps {n₀ : Nat} (hr : RulesL D U) : ∀ (m i : Nat), n₀ + i + m ≤ 20 → ∀ (p t r : V) (x20 : Option V), Pos (n₀ + i) p t r →
    ∃ p' t' r' x20', forL (aName 20) b_law_13 (nats (List.range' i m)) (st15 a D U x15 x16 (some p) (some t) (some r) x20) = some (.next, st15 a D U x15 x16 (some p') (some t') (some r') x20')
  | 0, _, _, p, t, r, x20, _ => ⟨p, t, r, x20, rfl⟩
  | m + 1, i, h, p, t, r, x20, hp => by
    have hi : n₀ + i ≤ 20 := Nat.le_trans (Nat.le_add_right _ _) h
    obtain ⟨p', t', r', hp', e2⟩ := st132 (a := a) (x15 := x15) (x16 := x16) (step := i) hr hp hi
    obtain ⟨p₂, t₂, r₂, y, e3⟩ := steps (n₀ := n₀) hr m (i + 1) (by omega) p' t' r' (some (.int (i : Int))) hp'
    exact ⟨p₂, t₂, r₂, y, ev_forN (a := .int (i : Int)) (l := nats (List.range' (i + 1) m)) rfl (ev_seq (st131 hp hi) (ev_one e2)) e3⟩
end
end Mine
end

noncomputable section
open PySem PySem.W PyProof.Rows
open Builtin Builtin.Str
set_option maxRecDepth 100000
namespace Mine

section
variable {a : Nat → Option V} {D U : List V}
theorem st141 {c : Int} : ∃ ws : List (List Nat), ws.length ≤ 3 ∧ (∀ w ∈ ws, w ∈ W) ∧ ∀ {x16 x17 x18 x19 x20}, s14_1 (st15 a D U (some (.int c)) x16 x17 x18 x19 x20) = some (.next, st15 a D U (some (.int c)) (some (.lst (ws.map strS))) x17 x18 x19 x20) := by
  obtain ⟨ns, e1, e2, e3⟩ := digits_nat c (b := 10) (by decide) (by decide) (size := 3) (by decide)
  obtain ⟨ws, f1, f2, f3⟩ := words_comp (e := e_law_10) rfl none e3
  exact ⟨ws, f2 ▸ e2, f3, ev_asgC (ev_comp (ev_iseq (ev_call (ev_cons rfl rfl) e1) rfl) (nats_le e2 (by decide)) f1)⟩
theorem st142 {x15 x17 x18 x19 x20 : Option V} {ws : List (List Nat)} (h3 : ws.length ≤ 3) (hw : ∀ w ∈ ws, w ∈ W) : s14_2 (st15 a D U x15 (some (.lst (ws.map strS))) x17 x18 x19 x20) =
    some (.next, st15 a D U x15 (some (.lst (ws.map strS))) (some (strS ([47] ++ joinL (stW ws)))) (some (strS [47])) (some (.lst (wv (stW ws)))) x20) := by
  have fr : ∀ w ∈ ws, 47 ∉ w := fun w h => W_free w (hw w h)
  have jz := jl_W hw
  have ja := jl_addN [[46]] ws
  have tn : jl [[46]] = 2 := rfl
  have fj := f_join_is (a := [47, 46]) (bs := ws) (by show 2 + _ ≤ _; omega)
  have jn : ws.foldl jstep [47, 46] = [47] ++ joinL (addN [[46]] ws) := joinN (t := [47]) (qs := [[46]]) (ns := ws) (.inl (.inl rfl)) hd_dot free_dot fr
  rw [jn] at fj
  have hh := addN_hd (ns := ws) hd_dot
  have np := f_normpath_is (t := [47]) (.inl rfl) hh.ne' (addN_free free_dot fr) hh.head (by omega)
  have rr : res (addN [[46]] ws) = stW ws := by
    unfold res stW res
    rw [addN_rs]
    exact res_dot [] _
  rw [rr] at np
  have cp : compL (aName 0) gNil e_law_11 (ws.map strS) [none] = some (wv ws) := by
    unfold wv
    rw [List.map_map]
    exact comp_map (F := fun y => [y]) (fun _ _ => rfl) none fun _ _ => ev_tup (ev_cons rfl (ev_sing rfl)) (leK rfl)
  have ll : (ws.map strS).length ≤ 1000 := by rw [List.length_map]; exact Nat.le_trans h3 (by decide)
  exact ev_asgW (ev_tup (ev_cons (ev_call (ev_sing (ev_call (ev_cons (ev_str _ sd_is (by decide)) (ev_star rfl)) fj)) np) (ev_cons s_sl (ev_sing (ev_call (ev_sing (ev_comp (ev_iseq rfl rfl) ll cp)) (f_stay_W (Nat.le_trans h3 (by decide))))))) (leK rfl)) rfl rfl
inductive Z15 (a : Nat → Option V) (D U : List V) : Sig → Prop where
  | mk (x15 x16 x17 x18 x19 x20 : Option V) : Z15 a D U (st15 a D U x15 x16 x17 x18 x19 x20)
theorem path_body {c : Int} {x16 x17 x18 x19 x20 : Option V} (hr : RulesL D U) : ∃ τ, b_law_14 (st15 a D U (some (.int c)) x16 x17 x18 x19 x20) = some (.next, τ) ∧ Z15 a D U τ := by
  obtain ⟨ws, h3, hw, e1⟩ := st141 (a := a) (D := D) (U := U) (c := c)
  obtain ⟨p', t', r', y, e3⟩ := steps (a := a) (x15 := some (.int c)) (x16 := some (.lst (ws.map strS))) (n₀ := 3) hr 5 0 (by decide) _ _ _ x20 (.inl ⟨[47], stW ws, rfl, rfl, rfl, .inl rfl, stW_nw hw, Nat.le_trans (stW_len ws) h3⟩)
  have i5 : ∀ σ : Sig, iRange (esCons (eInt 5) esNil) σ = some (nats (List.range' 0 5)) := fun σ => (iRange_nats (n := 5) rfl (by decide)).trans (by rw [List.range_eq_range'])
  exact ⟨_, ev_seq e1 (ev_seq (st142 h3 hw) (ev_one (ev_for (i5 _) e3))), .mk _ _ _ _ _ _⟩
theorem paths (hr : RulesL D U) : ∀ (cs : List Int) (σ : Sig), Z15 a D U σ → ∃ τ, forL (aName 15) b_law_14 (cs.map .int) σ = some (.next, τ)
  | [], σ, _ => ⟨σ, rfl⟩
  | c :: cs, _, .mk .. => by
    obtain ⟨τ, e, z⟩ := path_body (a := a) (c := c) hr
    obtain ⟨υ, e2⟩ := paths hr cs τ z
    exact ⟨υ, ev_forN (l := cs.map .int) rfl e e2⟩
end
/- the cells -/
noncomputable def pickK (ns : List Int) (k : Nat) : List Int := (vPicks (some (k : Int)) (some 63) (some 10) ns.length).filterMap (ns[·]?)
theorem pickK_is (ns : List Int) (k : Nat) : vSlice (.lst (ns.map .int)) (some (k : Int)) (some 63) (some 10) = some (.lst ((pickK ns k).map .int)) := by
  simp only [vSlice]
  rw [if_pos (by simp), List.length_map]
  congr 2
  unfold pickK
  rw [List.map_filterMap]
  congr 1
  funext i
  simp
noncomputable def cellK (ns : List Int) (k : Nat) : Int := if (pickK ns k).sum + seeds.getD k 0 < 0 then -((pickK ns k).sum + seeds.getD k 0) else (pickK ns k).sum + seeds.getD k 0
theorem seed_at {k : Nat} (h : k < 10) : vIdx sdV (.int (k : Int)) = some (.int (seeds.getD k 0)) := by
  have hl : k < seeds.length := h
  unfold sdV
  rw [vidx_lst _ (Nat.lt_trans h (by decide)), List.getElem?_map, List.getD_eq_getElem?_getD, List.getElem?_eq_getElem hl]; rfl
theorem cells_is (ns : List Int) : ∃ cs : List Int, Cells cs ∧ ∀ σ : Sig, σ.getD 0 none = some (.lst (ns.map .int)) → σ.getD 3 none = some sdV → (eComp [0, 3] 1 (iRange (esCons (eInt 10) esNil)) (aName 2) gNil e_law_1) σ = some (.lst (cs.map .int)) := by
  refine ⟨(List.range 10).map (cellK ns), ⟨rfl, fun c hc => ?_⟩, fun σ h0 h3 => ?_⟩
  · obtain ⟨k, _, rfl⟩ := List.mem_map.mp hc
    unfold cellK
    split <;> omega
  · have cp : compL (aName 2) gNil e_law_1 (nats (List.range 10)) [some (.lst (ns.map .int)), some sdV, none] = some (((List.range 10).map (cellK ns)).map .int) := by
      rw [List.map_map]
      refine comp_map (F := fun y => [some (.lst (ns.map .int)), some sdV, y]) (p := fun k : Nat => V.int k) (fun _ _ => rfl) none fun k hk => ?_
      have fs : fSum [.lst ((pickK ns k).map .int)] = some (.int (pickK ns k).sum) := congrArg (Option.map fun ms : List Int => V.int ms.sum) (vInts_map (pickK ns k))
      exact ev_call (ev_sing (ev_bin (ev_call (ev_sing (ev_slice rfl rfl rfl rfl (pickK_is ns k))) fs) (ev_idx rfl rfl (seed_at (List.mem_range.mp hk))) rfl)) rfl
    have sc : sigC [0, 3] 1 σ = [some (.lst (ns.map .int)), some sdV, none] := by
      show [σ.getD 0 none, σ.getD 3 none, none] = _
      rw [h0, h3]
    exact ev_comp (iRange_nats (n := 10) rfl (by decide)) (nats_le (k := 10) (by decide) (by decide)) (sc ▸ cp)
theorem pureLaw (ns : List Int) : f_law [.lst (ns.map .int)] = some (.bool true) := by
  obtain ⟨cs, hc, ce⟩ := cells_is ns
  obtain ⟨z', D, U, τ, e1, hτ, hr⟩ := rules_loop4 (sc := .lst (ns.map .int)) (cs := cs) (os := [none, none, none, none, none, none]) hc 4 0 rfl none [] [] _ (.mk none none none none none none none) .nil rfl
  have i4 : ∀ σ : Sig, iRange (esCons (eInt 4) esNil) σ = some (nats (List.range' 0 4)) := fun σ => (iRange_nats (n := 4) rfl (by decide)).trans (by rw [List.range_eq_range'])
  cases hτ with
  | mk y8 y9 y10 y11 y12 y13 y14 =>
    obtain ⟨υ, e2⟩ := paths (a := fun n => (st9z (.lst (ns.map .int)) z' cs D U y8 y9 y10 y11 y12 y13 y14 []).getD n none) hr (cs.drop 7) _ (.mk none none none none none none)
    have sf := sliceL_from (cs.map .int) 7
    rw [← List.map_drop] at sf
    refine ap_fn (d := [.lst (ns.map .int)]) rfl (σ' := υ) ?_
    rw [m_law_eq]
    exact ev_seq (ev_asg (items_is _)) (ev_seq (ev_asg (words_is _)) (ev_seq (ev_asg (seeds_is _)) (ev_seq (ev_asgC (ce _ rfl rfl)) (ev_seq (ev_own2 rfl rfl) (ev_seq (ev_for (i4 _) e1) (ev_rel rfl rfl (ev_rel rfl rfl (ev_seq (ev_for (ev_iseq (ev_slice rfl rfl rfl rfl sf) rfl) e2) (ev_one (ev_ret rfl)))))))))) 
end Mine
end

noncomputable section
open PySem PySem.W PyProof.Rows
set_option maxRecDepth 100000
namespace Mine
section
variable {tb : String → Option Builtin} {p : Program} {w : World} {n₀ : Nat} {ann : Option Value}
/- the run of the text on a tree of objects, at once: one look of the kernel, no state between written out -/
noncomputable def goT (stp : SharedT → Thread → Option (SharedT × Thread)) (n₀ : Nat) (ann : Option Value) : Nat → SharedT → Thread → Option SharedT
  | 0, _, _ => none
  | n + 1, s, t => match through t with
    | true => some s
    | false => match stepOk n₀ ann t with
      | false => none
      | true => match stp s t with
        | some r => goT stp n₀ ann n r.1 r.2
        | none => none
theorem goT_of : ∀ {n : Nat} {s s' : SharedT} {t : Thread}, goT (stepT (denote tb) p w) n₀ ann n s t = some s' → topRun tb p w n₀ ann n s.abs t = some s'.abs
  | 0, _, _, _, h => nomatch h
  | n + 1, s, s', t, h => by
    unfold goT at h
    unfold topRun
    cases he : through t with
    | true => rw [he] at h; exact congrArg (Option.map SharedT.abs) h
    | false =>
      rw [he] at h
      cases hk : stepOk n₀ ann t with
      | false => rw [hk] at h; exact nomatch h
      | true =>
        rw [hk] at h
        cases hs : stepT (denote tb) p w s t with
        | none => rw [hs] at h; exact nomatch h
        | some r => rw [hs] at h; dsimp only; rw [stepT_spec (s' := r.1) (t' := r.2) hs]; exact goT_of h
noncomputable def impT (stp : SharedT → Thread → Option (SharedT × Thread)) : Nat → SharedT → Thread → Option SharedT
  | 0, _, _ => none
  | n + 1, s, t => match t.atExitBegin with
    | some [] => some s
    | some (_ :: _) => none
    | none => match stp s t with
      | some r => impT stp n r.1 r.2
      | none => none
theorem impT_of : ∀ {n : Nat} {s s' : SharedT} {t : Thread}, impT (stepT (denote tb) p w) n s t = some s' → importEnds tb p w n s.abs t = some s'.abs
  | 0, _, _, _, h => nomatch h
  | n + 1, s, s', t, h => by
    unfold impT at h
    unfold importEnds
    cases he : t.atExitBegin with
    | some x =>
      rw [he] at h
      cases x with
      | nil => exact congrArg (Option.map SharedT.abs) h
      | cons a l => exact nomatch h
    | none =>
      rw [he] at h
      cases hs : stepT (denote tb) p w s t with
      | none => rw [hs] at h; exact nomatch h
      | some r => rw [hs] at h; dsimp only; rw [stepT_spec (s' := r.1) (t' := r.2) hs]; exact impT_of h
end
noncomputable def treeOf (os : List Obj) : Nat → Nat → Nat → BT
  | 0, _, _ => .nil
  | f + 1, a, b => match os[b]? with
    | some o => .node o (treeOf os f (2 * a) (a + b)) (treeOf os f (2 * a) (2 * a + b))
    | none => .nil
theorem treeOf_get (os : List Obj) : ∀ (f i a b : Nat), i < f → (treeOf os f a b).get i = os[a * i + b]?
  | 0, _, _, _, h => absurd h (Nat.not_lt_zero _)
  | f + 1, i, a, b, h => by
    unfold treeOf
    cases e : os[b]? with
    | none => exact (List.getElem?_eq_none (Nat.le_trans (List.getElem?_eq_none_iff.mp e) (Nat.le_add_left _ _))).symm
    | some o =>
      dsimp only
      rw [BT.get_node]
      by_cases h0 : i = 0
      · rw [if_pos h0, h0, Nat.mul_zero, Nat.zero_add, e]
      · rw [if_neg h0]
        by_cases h1 : i % 2 = 1
        · rw [if_pos h1, treeOf_get os f _ _ _ (by omega)]
          refine congrArg (os[·]?) ?_
          have : i = 2 * (i / 2) + 1 := by omega
          generalize i / 2 = q at this
          rw [this, Nat.mul_add, Nat.mul_one, ← Nat.mul_assoc, Nat.mul_comm a 2, Nat.add_assoc]
        · rw [if_neg h1, treeOf_get os f _ _ _ (by omega)]
          refine congrArg (os[·]?) ?_
          have : i = 2 * (i / 2 - 1) + 2 := by omega
          generalize i / 2 - 1 = q at this
          rw [this, Nat.mul_add, ← Nat.mul_assoc, Nat.mul_comm a 2, Nat.add_assoc]
noncomputable def treeS (s : Shared) : SharedT := ⟨treeOf s.heap.objs.toList (s.heap.objs.size + 1) 1 0, s.heap.objs.size, s.heap.life, s.gens, s.drawn, s.toks, s.os⟩
theorem treeS_abs (s : Shared) : (treeS s).abs = s := by
  obtain ⟨⟨⟨os⟩, life⟩, gens, drawn, toks, o⟩ := s
  have : BT.list (treeOf os (os.length + 1) 1 0) os.length = os := by
    refine List.ext_getElem? fun i => ?_
    unfold BT.list
    rw [List.getElem?_map]
    rcases Nat.lt_or_ge i os.length with h | h
    · rw [List.getElem?_range h, Option.map_some, treeOf_get _ _ _ _ _ (Nat.lt_succ_of_lt h), Nat.one_mul, Nat.add_zero, List.getElem?_eq_getElem h]; rfl
    · rw [List.getElem?_eq_none (by rw [List.length_range]; exact h), List.getElem?_eq_none h]; rfl
  show Shared.mk ⟨(BT.list (treeOf os (os.length + 1) 1 0) os.length).toArray, life⟩ gens drawn toks o = _
  rw [this]
/-- the whole: the opening, the fence, the text -/
noncomputable def topT (stI stT : SharedT → Thread → Option (SharedT × Thread)) (st : Shared × Thread) (fen : Shared → Option Shared) (stub : Thread) (ni nt : Nat) : Option (Shared × Shared) :=
  (impT stI ni (treeS st.1) st.2).bind fun a => (fen a.abs).bind fun s₀ => (goT stT s₀.heap.objs.size (s₀.heap.nsMap mainGlobals "__annotations__") nt (treeS s₀) stub).map fun s₁ => (s₀, s₁.abs)
noncomputable def topOk (p : Program) (s₀ s₁ : Shared) : Bool := s₀.heap.isNs mainGlobals && s₀.gens.size == 0 && (staticsOk (importedModules p.main.body) s₀.heap s₁.heap && namesBound p s₁.heap && gensDone s₁ && laidKept s₀.heap s₁.heap)
theorem LeftO.of_topT {p q : Program} {loose : List Str} {Xt : Shared → Bool} {α : Type} {Yf : Shared → α} {Ya : World → α} {N : Nat} {g0 : Bool} (ni nt : Nat) (hi : Nat.ble ni N = true) (ht : Nat.ble nt N = true)
    (h : ∀ w : World, (topT (stepT (denote treeTable) (opening p) w) (stepT (denote treeTable) p w) (start (opening p)) (fenceModules? p) (topStub p) ni nt).map (fun r => (topOk p r.1 r.2, openSeen q loose (importedModules p.main.body) Xt g0 r.2, Yf r.2)) = some (true, openGood q loose, Ya w)) :
    LeftO p q loose Xt Yf Ya N g0 := fun w => by
  obtain ⟨⟨s₀, s₁⟩, e, e'⟩ := Option.map_eq_some_iff.mp (h w)
  obtain ⟨a, e1, e⟩ := Option.bind_eq_some_iff.mp e
  obtain ⟨b, e2, e⟩ := Option.bind_eq_some_iff.mp e
  obtain ⟨c, e3, e⟩ := Option.map_eq_some_iff.mp e
  cases e
  have k1 : topOk p s₀ c.abs = true := congrArg Prod.fst e'
  obtain ⟨k1, k2⟩ := Bool.and_eq_true_iff.mp k1
  have e1 := impT_of e1
  rw [treeS_abs] at e1
  have e3 := goT_of e3
  rw [treeS_abs] at e3
  have m1 := importEnds_mono (N - ni) _ _ _ _ e1
  rw [Nat.add_sub_cancel' (Nat.le_of_ble_eq_true hi)] at m1
  have m3 := topRun_mono (N - nt) _ _ _ _ e3
  rw [Nat.add_sub_cancel' (Nat.le_of_ble_eq_true ht)] at m3
  unfold openEnds fencedOpening
  rw [m1]
  show ((fenceModules? p a.abs).bind _).map _ = _
  rw [e2]
  show (topFrom treeTable p w N s₀).map _ = _
  unfold topFrom
  rw [k1]
  dsimp only
  rw [m3]
  dsimp only [Option.bind]
  rw [k2]
  exact congrArg some (congrArg Prod.snd e')
end Mine
end

noncomputable section
open PySem PySem.W PySem.W.X PyProof.Rows PySem.Calls
open Builtin Builtin.Re
set_option maxRecDepth 100000
namespace Mine
/-- some objects of a heap -/
noncomputable def fragAt (h : Heap) (as : List Addr) : Frag := as.filterMap fun a => (h.get? a).map fun o => (a, o)
theorem fragAt_in (h : Heap) : ∀ as : List Addr, (fragAt h as).In h
  | [], _, _, e => nomatch e
  | a :: as, b, o, e => by
    unfold fragAt at e
    rw [List.filterMap_cons] at e
    cases q : h.get? a with
    | none => rw [q] at e; exact fragAt_in h as b o e
    | some o' =>
      rw [q] at e
      rw [Option.map_some, List.lookup_cons] at e
      cases z : b == a with
      | true => rw [z] at e; rw [beq_iff_eq.mp z, q]; exact e
      | false => rw [z] at e; exact fragAt_in h as b o e
noncomputable def objB (K : Frag) (a : Addr) (c : Value) (f : Data → Bool) : Bool := match K.lookup a with
  | some o => decide (o.cls = c) && (o.dict.isNone && (o.slots.toList.isEmpty && f o.data))
  | none => false
theorem objB_of {K : Frag} {a : Addr} {c : Value} {f : Data → Bool} (h : objB K a c f = true) : ∃ d, K.lookup a = some { cls := c, data := d } ∧ f d = true := by
  unfold objB at h
  cases q : K.lookup a with
  | none => rw [q] at h; exact nomatch h
  | some o =>
    rw [q] at h
    obtain ⟨c', d', x, ⟨s⟩⟩ := o
    obtain ⟨h1, h⟩ := Bool.and_eq_true_iff.mp h
    obtain ⟨h2, h⟩ := Bool.and_eq_true_iff.mp h
    obtain ⟨h3, h⟩ := Bool.and_eq_true_iff.mp h
    refine ⟨x, ?_, h⟩
    rw [show c' = c from of_decide_eq_true h1, show d' = none from Option.isNone_iff_eq_none.mp h2, show s = [] from List.isEmpty_iff.mp h3]
noncomputable def nsB (K : Frag) (x : Str) (a : Addr) : Bool := decide (nsIn K mainGlobals x = some (some (.ref a)))
noncomputable def escB (es : Array DictEntry) (i : Int) (x : Str) : Bool := match findBy Value.isInt es i with
  | some (.str s _) => decide (s = x)
  | _ => false
theorem escB_of {es : Array DictEntry} {i : Int} {x : Str} (h : escB es i x = true) : ∃ t, findBy Value.isInt es i = some (.str x t) := by
  unfold escB at h
  split at h
  · rename_i s t e
    exact ⟨t, by rw [e, show s = x from of_decide_eq_true h]⟩
  · exact nomatch h
noncomputable def escD : Data → Bool
  | .dict es _ => (es.all fun e => match e.key with | .int i _ => e.hash == hashInt i | _ => false) && (escB es 46 "\\." && (escB es 45 "\\-" && ((findBy Value.isInt es 97).isNone && (findBy Value.isInt es 98).isNone)))
  | _ => false
noncomputable def patD : Data → Bool
  | .fields fs => decide (fs.getD 5 .none = .ref 42) && (decide (reRawNat (fs.getD 6 .none) = 0) && decide (reRawNat (fs.getD 2 .none) = 1))
  | _ => false
noncomputable def tabD : Data → Bool
  | .fields fs => fs.toList.isEmpty
  | _ => false
noncomputable def codeD : Data → Bool
  | .seq cs _ => decide (((cs.map reRawOf).map (·.toNat)).toList = reCode.toList)
  | _ => false
noncomputable def kOkB (K : Frag) : Bool := codeHdIn K 61 57 && (decide (tabIn K "_translate" = some (61, 57)) && (nsB K "_special_chars_map" 45 && (nsB K "_twin_re_1" 43 && (objB K 57 .none tabD && (objB K 45 (.type "dict") escD && (objB K 43 (.type "re.Pattern") patD && objB K 42 (.type "tuple") codeD))))))
theorem kOk_of {K : Frag} (h : kOkB K = true) : KOk K := by
  obtain ⟨h1, h⟩ := Bool.and_eq_true_iff.mp h
  obtain ⟨h2, h⟩ := Bool.and_eq_true_iff.mp h
  obtain ⟨h3, h⟩ := Bool.and_eq_true_iff.mp h
  obtain ⟨h4, h⟩ := Bool.and_eq_true_iff.mp h
  obtain ⟨h5, h⟩ := Bool.and_eq_true_iff.mp h
  obtain ⟨h6, h⟩ := Bool.and_eq_true_iff.mp h
  obtain ⟨h7, h8⟩ := Bool.and_eq_true_iff.mp h
  obtain ⟨d5, e5, f5⟩ := objB_of h5
  obtain ⟨d6, e6, f6⟩ := objB_of h6
  obtain ⟨d7, e7, f7⟩ := objB_of h7
  obtain ⟨d8, e8, f8⟩ := objB_of h8
  refine ⟨h1, ?_, of_decide_eq_true h2, of_decide_eq_true h3, of_decide_eq_true h4, ?_, ?_, ?_⟩
  · unfold tabD at f5
    split at f5
    · rename_i fs
      obtain ⟨l⟩ := fs
      rw [e5, show l = [] from List.isEmpty_iff.mp f5]
    · exact nomatch f5
  · unfold escD at f6
    split at f6
    · obtain ⟨g1, g⟩ := Bool.and_eq_true_iff.mp f6
      obtain ⟨g2, g⟩ := Bool.and_eq_true_iff.mp g
      obtain ⟨g3, g⟩ := Bool.and_eq_true_iff.mp g
      obtain ⟨g4, g5⟩ := Bool.and_eq_true_iff.mp g
      exact ⟨_, _, e6, g1, escB_of g2, escB_of g3, Option.isNone_iff_eq_none.mp g4, Option.isNone_iff_eq_none.mp g5⟩
    · exact nomatch f6
  · unfold patD at f7
    split at f7
    · obtain ⟨g1, g⟩ := Bool.and_eq_true_iff.mp f7
      obtain ⟨g2, g3⟩ := Bool.and_eq_true_iff.mp g
      exact ⟨_, e7, of_decide_eq_true g1, of_decide_eq_true g2, of_decide_eq_true g3⟩
    · exact nomatch f7
  · unfold codeD at f8
    split at f8
    · exact ⟨_, _, e8, Array.toList_inj.mp (of_decide_eq_true f8)⟩
    · exact nomatch f8
end Mine
end

noncomputable section
open PySem PySem.W PySem.W.X PyProof.Rows PySem.Calls PySem.W.Fast
set_option maxRecDepth 100000
namespace Mine
noncomputable abbrev pw : Program := PySem.Challenge.pw_lg0036_01
noncomputable def keepIx : List Nat := [0, 1, 2, 4, 5, 7, 9, 11, 13, 14, 16, 18, 20, 21, 22, 23, 24, 26, 27, 28, 29, 30, 31, 32, 33, 34]
noncomputable def lookAs : List Addr := [3, 42, 43, 45, 57, 61, 62]
noncomputable def qv : Program := view pw keepIx
noncomputable def looseN : List Str := [Str.ofString "_twin_re_1", Str.ofString "_special_chars_map"]
noncomputable def Yf (s : Shared) : Bool × Nat := (kOkB (fragAt s.heap lookAs), s.toks)
noncomputable def topP (w : World) : Prop :=
  (topT (tw10156331382660048174 (tw11892475500146522536 tw14364793385576792824) (opening pw) w) (tw10156331382660048174 (tw11892475500146522536 tw14364793385576792824) pw w) (tw1435165496053646825 (opening pw)) (tw14289696077712309145 pw) (topStub pw) 900 3000).map
    (fun r => (topOk pw r.1 r.2, tw4187177175401517315 qv looseN (tw5923862056798008813 pw.main.body) (fun s => xlAt qv [] s && recOk [] s) true r.2, Yf r.2)) = some (true, openGood qv looseN, (true, 746))
theorem top1 (w : World) : topP ((w.withFollow "special-get-raises" false).withFollow "comprehension-iter-twice" false) := by delta topP; kernel_rfl
theorem top2 (w : World) : topP ((w.withFollow "special-get-raises" true).withFollow "comprehension-iter-twice" false) := by delta topP; kernel_rfl
theorem top3 (w : World) : topP ((w.withFollow "special-get-raises" false).withFollow "comprehension-iter-twice" true) := by delta topP; kernel_rfl
theorem top4 (w : World) : topP ((w.withFollow "special-get-raises" true).withFollow "comprehension-iter-twice" true) := by delta topP; kernel_rfl
theorem topA (w : World) : topP w := byRow2 "comprehension-iter-twice" (byRow2 "special-get-raises" (P := fun w => topP (w.withFollow "comprehension-iter-twice" false)) top1 top2) (byRow2 "special-get-raises" (P := fun w => topP (w.withFollow "comprehension-iter-twice" true)) top3 top4) w
theorem leftA : LeftO pw qv looseN (fun s => xlAt qv [] s && recOk [] s) Yf (fun _ => (true, 746)) 5300 := by
  refine LeftO.of_topT 900 3000 rfl rfl fun w => ?_
  have h := topA w
  unfold topP at h
  rw [← te10156331382660048174, ← te11892475500146522536, ← te14364793385576792824, ← te1435165496053646825, ← te14289696077712309145, ← te4187177175401517315, ← te5923862056798008813] at h
  exact h
end Mine
end

noncomputable section
open PySem PySem.W PySem.W.X PySem.W.ZRun PyProof.Rows PySem.Calls
set_option maxRecDepth 100000
namespace Mine
theorem said : PySem.Challenge.rw_lg0036_01.wellSaid = true := by kernel_rfl
noncomputable def dLaw : DefRec := ((pw.main.body[34]?).bind DefRec.ofStmt?).getD ⟨nameAt 34, paramsAt 34, bodyAt 34, scopeAt 34, default⟩
noncomputable def partsOf (d : DefRec) : Str × Arguments × List Stmt × Scope := (d.name, d.params, d.body, d.scope)
theorem recs : defIxs.map (fun i => some (nameAt i, paramsAt i, bodyAt i, scopeAt i)) = [1, 2, 5, 7, 8, 9, 10, 11, 12, 13, 14, 15, 16, 17, 18, 19, 20].map fun j => ((recsOf qv)[j]?).map partsOf := by kernel_rfl
noncomputable def bltB (q : Program) (loose : List Str) : Bool := builtinTab.all fun p => !startupNames.contains p.1 && (!loose.contains p.1 && (!((recsOf q).map (·.name)).contains p.1 && (!((litsOf q).map (·.1)).contains p.1 && !((clssOf q loose).map (·.name)).contains p.1)))
theorem blts : bltB qv (looseW qv looseN) = true := by kernel_rfl
theorem notIn {l : List Str} {x : Str} (h : (!l.contains x) = true) : x ∉ l := fun z => by
  rw [List.contains_iff_mem.mpr z] at h
  exact nomatch h
theorem qOk : QOk qv (looseW qv looseN) where
  fn i hi := by
    have h : some (nameAt i, paramsAt i, bodyAt i, scopeAt i) ∈ defIxs.map (fun i => some (nameAt i, paramsAt i, bodyAt i, scopeAt i)) := List.mem_map_of_mem hi
    rw [recs] at h
    obtain ⟨j, _, h⟩ := List.mem_map.mp h
    obtain ⟨d, hd, e⟩ := Option.map_eq_some_iff.mp h
    exact ⟨d, List.mem_of_getElem? hd, congrArg Prod.fst e, congrArg (fun x => x.2.1) e, congrArg (fun x => x.2.2.1) e, congrArg (fun x => x.2.2.2) e⟩
  bi p hp := by
    obtain ⟨h1, h⟩ := Bool.and_eq_true_iff.mp (List.all_eq_true.mp blts p hp)
    obtain ⟨h2, h⟩ := Bool.and_eq_true_iff.mp h
    obtain ⟨h3, h⟩ := Bool.and_eq_true_iff.mp h
    obtain ⟨h4, h5⟩ := Bool.and_eq_true_iff.mp h
    exact ⟨notIn h1, notIn h2, notIn h3, notIn h4, notIn h5⟩
set_option maxHeartbeats 0 in
theorem thm : PySem.Challenge.rw_lg0036_01.Holds := by
  w_on
  refine holds_law said fun rsaid => ?_
  refine holds_openX (q := qv) (loose := looseN) (Xt := fun s => xlAt qv [] s && recOk [] s) (XP := XL qv []) (Yf := Yf) (Ya := fun _ => (true, 746)) (d := dLaw) (kwd := []) (N := 5300) leftA
    (fun s e => xl_of s (Bool.and_eq_true_iff.mp e).1) XL.keeps (by kernel_rfl) (by kernel_rfl) (by kernel_rfl) (fun s e => recFacts_of (Bool.and_eq_true_iff.mp e).2) (by rfl) rsaid (by kernel_rfl) ⟨rfl, rfl, rfl, rfl, rfl, by kernel_rfl⟩ ?hw ?hc
  case hw => w_witness2
  intro w s₀ s₁ mg mb G y a o pm cd doc dV kV ho hd hcd hD hmg hg args vals as L hpre hlay hrd hwl hlo
  have hk : kOkB (fragAt s₀.heap lookAs) = true := congrArg Prod.fst y
  have ht : s₀.toks = 746 := congrArg Prod.snd y
  refine Ground.open G ?_
  intro T B D TE TW
  wrow_args hpre hlay hrd hwl hlo
  rename_i hL ra w1 r0 hI hr' hc1 hc2
  refine lawEnds T qOk (Frag.In.keeps (fragAt_in s₀.heap lookAs) L.keeps) (kOk_of hk) hg (Nat.lt_of_lt_of_le (by decide) (script_toks L ht)) (fun g => call_law g) (pureLaw _) hmg hL hI (by omega) (fun _ => rfl) ?_
  first | rfl | wrow_post
end Mine
end

theorem PySem.Challenge.cw_lg0036_01_holds : PySem.Challenge.rw_lg0036_01.Holds :=
  Mine.thm
