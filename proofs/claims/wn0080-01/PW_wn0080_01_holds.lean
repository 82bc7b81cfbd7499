import PyProof.Rows.All
import Wide.All
import OpenK.AllK
import Wide.FinOn
import Lean
import PySem.Challenge.RW_wn0080_01
open PySem PySem.W PyProof.Rows
set_option Elab.async false
set_option maxRecDepth 100000

namespace Mine
noncomputable section


noncomputable def Ext (h h' : Heap) : Prop := ∀ b o, h.get? b = some o → h'.get? b = some o
theorem Ext.refl (h : Heap) : Ext h h := fun _ _ e => e
theorem Ext.trans {h h' h'' : Heap} (x : Ext h h') (y : Ext h' h'') : Ext h h'' := fun b o e => y b o (x b o e)
theorem Ext.push (h : Heap) (o : Obj) : Ext h (h.push o) := fun _ _ e => Heap.get?_push_of_some _ e

structure Fut (s s' : Shared) : Prop where
  ext : Ext s.heap s'.heap
  os : s'.os = s.os
  gens : ∀ (i : Nat) (x : GenState), s.gens[i]? = some x → s'.gens[i]? = some x
  bare : AllBare s.gens → AllBare s'.gens
theorem Fut.refl (s : Shared) : Fut s s := ⟨Ext.refl _, rfl, fun _ _ e => e, fun e => e⟩
theorem Fut.trans {s s' s'' : Shared} (x : Fut s s') (y : Fut s' s'') : Fut s s'' :=
  ⟨x.ext.trans y.ext, y.os.trans x.os, fun i z e => y.gens i z (x.gens i z e), fun e => y.bare (x.bare e)⟩
theorem Fut.heap {s : Shared} {h : Heap} {tk : Nat} (x : Ext s.heap h) : Fut s { s with heap := h, toks := tk } := ⟨x, rfl, fun _ _ e => e, fun e => e⟩
theorem Fut.tok (s : Shared) (tk : Nat) : Fut s { s with toks := tk } := Fut.heap (Ext.refl _)

structure Kp (s s' : Shared) : Prop where
  ext : Ext s.heap s'.heap
  same : ∃ h tk, s' = { s with heap := h, toks := tk }
theorem Kp.refl (s : Shared) : Kp s s := ⟨Ext.refl _, s.heap, s.toks, rfl⟩
theorem Kp.trans {s s' s'' : Shared} (x : Kp s s') (y : Kp s' s'') : Kp s s'' :=
  ⟨x.ext.trans y.ext, by obtain ⟨h, tk, rfl⟩ := x.same; obtain ⟨h', tk', rfl⟩ := y.same; exact ⟨h', tk', rfl⟩⟩
theorem Kp.fut {s s' : Shared} (x : Kp s s') : Fut s s' := by
  obtain ⟨e, h, tk, rfl⟩ := x
  exact Fut.heap e
theorem Kp.heap {s : Shared} {h : Heap} {tk : Nat} (x : Ext s.heap h) : Kp s { s with heap := h, toks := tk } := ⟨x, h, tk, rfl⟩
theorem Kp.tok (s : Shared) (tk : Nat) : Kp s { s with toks := tk } := Kp.heap (Ext.refl _)
theorem Kp.keeps {s s' : Shared} (x : Kp s s') : Keeps s s' := by obtain ⟨e, h, tk, rfl⟩ := x; exact ⟨h, tk, rfl, e⟩
theorem Kp.ofKeeps {s s' : Shared} (x : Keeps s s') : Kp s s' := by obtain ⟨h, tk, rfl, e⟩ := x; exact ⟨e, h, tk, rfl⟩

inductive D where
  | none | bool (b : Bool) | int (n : Int) | str (x : Str) | bytes (b : Array UInt8) | list (ds : List D) | tup (ds : List D) | ref (a : Addr) | range (a b c : Int) | pred (P : Heap → Value → Prop)

mutual
inductive Is (h : Heap) : D → Value → Prop
  | none : Is h .none .none
  | bool (b : Bool) : Is h (.bool b) (.bool b)
  | int (n : Int) (t : Tok) : Is h (.int n) (.int n t)
  | str (x : Str) (t : Tok) : Is h (.str x) (.str x t)
  | bytes (b : Array UInt8) (t : Tok) : Is h (.bytes b) (.bytes b t)
  | list {l : Addr} {vs : List Value} {ds : List D} : h.IsList l vs.toArray → IsAll h ds vs → Is h (.list ds) (.ref l)
  | tup {l : Addr} {vs : List Value} {ds : List D} : IsTup h l vs.toArray → IsAll h ds vs → Is h (.tup ds) (.ref l)
  | ref (a : Addr) : Is h (.ref a) (.ref a)
  | range {r : Addr} {a b c : Int} {t u v : Tok} : IsRange h r a b c t u v → Is h (.range a b c) (.ref r)
  | pred {P : Heap → Value → Prop} {v : Value} : (∀ h' : Heap, (∀ b o, h.get? b = some o → h'.get? b = some o) → P h' v) → Is h (.pred P) v
inductive IsAll (h : Heap) : List D → List Value → Prop
  | nil : IsAll h [] []
  | cons {d : D} {v : Value} {ds : List D} {vs : List Value} : Is h d v → IsAll h ds vs → IsAll h (d :: ds) (v :: vs)
end

theorem isList_ext {h h' : Heap} {l : Addr} {its : Array Value} (k : Ext h h') (x : h.IsList l its) : h'.IsList l its := let ⟨o, ho, r⟩ := x; ⟨o, k l o ho, r⟩

mutual
theorem Is.ext {h h' : Heap} (k : Ext h h') : ∀ {d : D} {v : Value}, Is h d v → Is h' d v
  | _, _, .none => .none
  | _, _, .bool b => .bool b
  | _, _, .int n t => .int n t
  | _, _, .str x t => .str x t
  | _, _, .bytes b t => .bytes b t
  | _, _, .list hl ha => .list (isList_ext k hl) (IsAll.ext k ha)
  | _, _, .tup hl ha => .tup (hl.keeps k) (IsAll.ext k ha)
  | _, _, .ref a => .ref a
  | _, _, .range hr => .range (k _ _ hr)
  | _, _, .pred hp => .pred fun h' e => hp h' fun b o q => e b o (k b o q)
theorem IsAll.ext {h h' : Heap} (k : Ext h h') : ∀ {ds : List D} {vs : List Value}, IsAll h ds vs → IsAll h' ds vs
  | _, _, .nil => .nil
  | _, _, .cons x r => .cons (Is.ext k x) (IsAll.ext k r)
end

theorem IsAll.cons_inv {h : Heap} {d : D} {ds : List D} {vs : List Value} (x : IsAll h (d :: ds) vs) : ∃ v us, vs = v :: us ∧ Is h d v ∧ IsAll h ds us := by
  cases x with
  | cons i r => exact ⟨_, _, rfl, i, r⟩
theorem IsAll.nil_inv {h : Heap} {vs : List Value} (x : IsAll h [] vs) : vs = [] := by cases x; rfl
theorem IsAll.length {h : Heap} {ds : List D} : ∀ {vs : List Value}, IsAll h ds vs → vs.length = ds.length := by
  induction ds with
  | nil => intro vs x; rw [x.nil_inv]; rfl
  | cons d ds ih =>
    intro vs x
    obtain ⟨v, us, rfl, i, r⟩ := x.cons_inv
    exact congrArg (· + 1) (ih r)
theorem IsAll.append {h : Heap} {es : List D} {ws : List Value} {ds : List D} : ∀ {vs : List Value}, IsAll h ds vs → IsAll h es ws → IsAll h (ds ++ es) (vs ++ ws) := by
  induction ds with
  | nil => intro vs x y; rw [x.nil_inv]; exact y
  | cons d ds ih =>
    intro vs x y
    obtain ⟨v, us, rfl, i, r⟩ := x.cons_inv
    exact .cons i (ih r y)
theorem IsAll.get {h : Heap} {ds : List D} : ∀ {vs : List Value}, IsAll h ds vs → ∀ (i : Nat) (d : D), ds[i]? = some d → ∃ v, vs[i]? = some v ∧ Is h d v := by
  induction ds with
  | nil => intro vs x i d e; cases e
  | cons d0 ds ih =>
    intro vs x i d e
    obtain ⟨v, us, rfl, i0, r⟩ := x.cons_inv
    cases i with
    | zero => cases e; exact ⟨v, rfl, i0⟩
    | succ i => exact ih r i d e

noncomputable abbrev D.ints (ns : List Int) : D := .list (ns.map .int)
theorem Is.int_inv {h : Heap} {n : Int} {v : Value} (x : Is h (.int n) v) : ∃ t, v = .int n t := by cases x; exact ⟨_, rfl⟩
theorem Is.str_inv {h : Heap} {n : Str} {v : Value} (x : Is h (.str n) v) : ∃ t, v = .str n t := by cases x; exact ⟨_, rfl⟩
theorem IsAll.ints {h : Heap} {ns : List Int} : ∀ {vs : List Value}, IsAll h (ns.map .int) vs → IntsAre vs ns := by
  induction ns with
  | nil => intro vs x; rw [x.nil_inv]; exact .nil
  | cons n ns ih =>
    intro vs x
    obtain ⟨v, us, rfl, i, r⟩ := IsAll.cons_inv x
    obtain ⟨t, rfl⟩ := i.int_inv
    exact .cons n t (ih r)
theorem IsAll.ofInts {h : Heap} {vs : List Value} {ns : List Int} (x : IntsAre vs ns) : IsAll h (ns.map .int) vs := by
  induction x with
  | nil => exact .nil
  | cons n t _ ih => exact .cons (.int n t) ih
theorem IsAll.strs {h : Heap} {xs : List Str} : ∀ {vs : List Value}, IsAll h (xs.map .str) vs → StrsAre vs xs := by
  induction xs with
  | nil => intro vs x; rw [x.nil_inv]; exact .nil
  | cons n ns ih =>
    intro vs x
    obtain ⟨v, us, rfl, i, r⟩ := IsAll.cons_inv x
    obtain ⟨t, rfl⟩ := i.str_inv
    exact .cons n t (ih r)
theorem Is.list_inv {h : Heap} {ds : List D} {v : Value} (x : Is h (.list ds) v) : ∃ l vs, v = .ref l ∧ h.IsList l vs.toArray ∧ IsAll h ds vs := by
  cases x with
  | list hl ha => exact ⟨_, _, rfl, hl, ha⟩
theorem Is.tup_inv {h : Heap} {ds : List D} {v : Value} (x : Is h (.tup ds) v) : ∃ l vs, v = .ref l ∧ IsTup h l vs.toArray ∧ IsAll h ds vs := by
  cases x with
  | tup hl ha => exact ⟨_, _, rfl, hl, ha⟩
theorem Is.bytes_inv {h : Heap} {n : Array UInt8} {v : Value} (x : Is h (.bytes n) v) : ∃ t, v = .bytes n t := by cases x; exact ⟨_, rfl⟩
theorem Is.bool_inv {h : Heap} {n : Bool} {v : Value} (x : Is h (.bool n) v) : v = .bool n := by cases x; rfl
theorem Is.ref_inv {h : Heap} {a : Addr} {v : Value} (x : Is h (.ref a) v) : v = .ref a := by cases x; rfl

theorem len1 {vs : List Value} (h : vs.length = 1) : ∃ x, vs = [x] := List.length_eq_one_iff.mp h
theorem len2 {vs : List Value} (h : vs.length = 2) : ∃ x y, vs = [x, y] := by
  cases vs with
  | nil => cases h
  | cons x r => obtain ⟨y, rfl⟩ := len1 (Nat.succ.inj h); exact ⟨x, y, rfl⟩
theorem len3 {vs : List Value} (h : vs.length = 3) : ∃ x y z, vs = [x, y, z] := by
  cases vs with
  | nil => cases h
  | cons x r => obtain ⟨y, z, rfl⟩ := len2 (Nat.succ.inj h); exact ⟨x, y, z, rfl⟩
-- hidden addresses
noncomputable def Alive (H : List Addr) (h : Heap) : Prop := ∀ b ∈ H, ∃ o, h.get? b = some o
theorem Alive.ext {H : List Addr} {h h' : Heap} (x : Alive H h) (k : Ext h h') : Alive H h' := fun b hb => let ⟨o, e⟩ := x b hb; ⟨o, k b o e⟩
theorem Alive.lt {H : List Addr} {h : Heap} (x : Alive H h) {b : Addr} (hb : b ∈ H) : b < h.objs.size := let ⟨_, e⟩ := x b hb; Heap.lt_size e
theorem Alive.new {H : List Addr} {h : Heap} (x : Alive H h) {b : Addr} (hb : h.objs.size ≤ b) : b ∉ H := fun q => Nat.lt_irrefl _ (Nat.lt_of_lt_of_le (x.lt q) hb)
theorem hid_of {H : List Addr} {h : Heap} : Ext (hideAll h H) h := fun _ _ e => of_hideAll H e
theorem hid_not {H : List Addr} {h : Heap} {b : Addr} {o : Obj} (e : (hideAll h H).get? b = some o) : b ∉ H := fun q => by rw [hideAll_none H q] at e; cases e
theorem hid_ext {H : List Addr} {h h' : Heap} (k : Ext h h') : Ext (hideAll h H) (hideAll h' H) := fun b o e => hideAll_get H (k b o (of_hideAll H e)) (hid_not e)
theorem hid_extBut {H : List Addr} {h h' : Heap} (k : ∀ b o, b ∉ H → h.get? b = some o → h'.get? b = some o) : Ext (hideAll h H) (hideAll h' H) :=
  fun b o e => hideAll_get H (k b o (hid_not e) (of_hideAll H e)) (hid_not e)
theorem hid_less {H H' : List Addr} {h : Heap} (k : ∀ b ∈ H, b ∈ H') : Ext (hideAll h H') (hideAll h H) := fun _ _ e => hideAll_get H (of_hideAll H' e) fun q => hid_not e (k _ q)
theorem hid_push {H : List Addr} {h : Heap} {o : Obj} (hA : Alive H h) (hf : o.isFreed = false) : (hideAll (h.push o) H).get? h.objs.size = some o :=
  hideAll_get H (Heap.get?_push_size _ hf) (hA.new (Nat.le_refl _))

-- the program's ground
structure Gr (K : Frag) (h : Heap) : Prop where
  K : K.In h
  g : ∃ mg, h.Ns mainGlobals mg
  b : ∃ mb, h.Ns builtinsNs mb ∧ ∀ x : Str, x ≠ "__name__" → mb x = bootBuiltins x
  nolimit : h.NoLimit
theorem Gr.ext {K : Frag} {h h' : Heap} (x : Gr K h) (k : Ext h h') : Gr K h' :=
  ⟨fun a o e => k a o (x.K a o e), let ⟨m, e⟩ := x.g; ⟨m, e.keeps k⟩, let ⟨m, e, r⟩ := x.b; ⟨m, e.keeps k, r⟩, x.nolimit.keeps k⟩

structure Amb (k : Nat) (A : Around) : Prop where
  handled : A.handled = none
  depth : A.depth + k < recursionLimit
  units : A.units + 8 * k < cLine
theorem Amb.deeper {k : Nat} {A : Around} (x : Amb (k + 1) A) (env : Env) : Amb k (A.deeper env) :=
  ⟨x.handled, by rw [depth_deeper]; have := x.depth; omega, by rw [Around.deeper_units]; have := x.units; omega⟩
theorem Amb.room {k : Nat} {A : Around} (x : Amb k A) : A.depth < recursionLimit := Nat.lt_of_le_of_lt (Nat.le_add_right _ _) x.depth
theorem Amb.le {k k' : Nat} {A : Around} (x : Amb k A) (h : k' ≤ k) : Amb k' A := ⟨x.handled, by have := x.depth; omega, by have := x.units; omega⟩

noncomputable def Rd (env : Env) (h : Heap) (x : Str) (v : Value) : Prop :=
  (env.kindOf x = some .local ∧ ∃ m, h.Ns env.locals m ∧ m x = some v) ∨
  ((env.kindOf x = some .cell ∨ (env.kindOf x = some .free ∧ (x == ("__classdict__" : Str)) = false)) ∧ ∃ a, env.cells.lookup x = some a ∧ h.IsCell a (some v))
theorem Rd.ext {env : Env} {h h' : Heap} {x : Str} {v : Value} (r : Rd env h x v) (k : Ext h h') : Rd env h' x v := by
  rcases r with ⟨a, m, e, f⟩ | ⟨a, b, e, f⟩
  · exact .inl ⟨a, m, e.keeps k, f⟩
  · exact .inr ⟨a, b, e, f.keeps k⟩

structure Cx where
  K : Frag
  prog : Program
  w : World
  n : Nat
  A : Around
  env : Env
  H : List Addr
  m : List Addr
  pure : Bool
  s₀ : Shared

noncomputable abbrev Vars := List (Str × D)

structure In (c : Cx) (σ : Vars) (s : Shared) : Prop where
  fut : Fut c.s₀ s
  same : c.pure = true → ∃ h tk, s = { c.s₀ with heap := h, toks := tk }
  amb : Amb c.n c.A
  gr : Gr c.K c.s₀.heap
  kind : c.env.scope.kind = .function
  glob : c.env.globals = mainGlobals
  blt : c.env.builtins = builtinsNs
  alive : Alive c.H s.heap
  sub : ∀ b ∈ c.m, b ∈ c.H
  fresh : ∀ b ∈ c.m, c.s₀.heap.get? b = none
  locals : c.env.locals ∈ c.m ∧ ∃ m, s.heap.Ns c.env.locals m
  cells : ∀ x a, (x, a) ∈ c.env.cells → a ∈ c.H ∧ a ≠ c.env.locals ∧ ∃ v, s.heap.IsCell a v
  apart : ∀ x a y b, (x, a) ∈ c.env.cells → (y, b) ∈ c.env.cells → a ∈ c.m → b = a → y = x
  vars : ∀ x d, σ.lookup x = some d → ∃ v, Rd c.env s.heap x v ∧ Is (hideAll s.heap c.H) d v

theorem In.to' {c : Cx} {σ : Vars} {s s' : Shared} (I : In c σ s) (f : Fut s s') (hs : c.pure = true → ∃ h tk, s' = { c.s₀ with heap := h, toks := tk }) : In c σ s' where
  fut := I.fut.trans f
  same := hs
  amb := I.amb
  gr := I.gr
  kind := I.kind
  glob := I.glob
  blt := I.blt
  alive := I.alive.ext f.ext
  sub := I.sub
  fresh := I.fresh
  locals := ⟨I.locals.1, let ⟨m, e⟩ := I.locals.2; ⟨m, e.keeps f.ext⟩⟩
  cells := fun x a h => let ⟨p, q, v, r⟩ := I.cells x a h; ⟨p, q, v, r.keeps f.ext⟩
  apart := I.apart
  vars := fun x d h => let ⟨v, r, i⟩ := I.vars x d h; ⟨v, r.ext f.ext, i.ext (hid_ext f.ext)⟩
theorem In.to {c : Cx} {σ : Vars} {s s' : Shared} (I : In c σ s) (f : Kp s s') : In c σ s' := I.to' f.fut fun h => by
  obtain ⟨h1, tk1, e1⟩ := I.same h
  obtain ⟨h2, tk2, e2⟩ := f.same
  exact ⟨h2, tk2, by rw [e2, e1]⟩
theorem In.toFut {c : Cx} {σ : Vars} {s s' : Shared} (I : In c σ s) (f : Fut s s') (hp : c.pure = false) : In c σ s' := I.to' f fun h => by rw [hp] at h; cases h
theorem In.kp {c : Cx} {σ : Vars} {s : Shared} (I : In c σ s) (h : c.pure = true) : Kp c.s₀ s := ⟨I.fut.ext, I.same h⟩
theorem In.ground {c : Cx} {σ : Vars} {s : Shared} (I : In c σ s) : Gr c.K s.heap := I.gr.ext I.fut.ext
theorem In.weaken {c : Cx} {σ σ' : Vars} {s : Shared} (I : In c σ s) (h : ∀ x d, σ'.lookup x = some d → σ.lookup x = some d) : In c σ' s :=
  { I with vars := fun x d e => I.vars x d (h x d e) }

noncomputable def Act (c : Cx) (s : Shared) (t : Sem Value) (d : D) : Prop :=
  ∀ (Q : Value → Shared → Prop) (E : Value → Shared → Prop), (∀ v s', Kp s s' → Is (hideAll s'.heap c.H) d v → Q v s') → wpAny (model c.prog c.w) c.A t Q E s
noncomputable def Ev (c : Cx) (σ : Vars) (e : Expr) (d : D) : Prop := ∀ s, In c σ s → Act c s (eval e c.env) d

theorem Act.use {c : Cx} {s : Shared} {t : Sem Value} {d : D} {Q E : Value → Shared → Prop} (x : Act c s t d) (k : ∀ v s', Kp s s' → Is (hideAll s'.heap c.H) d v → Q v s') :
    wpAny (model c.prog c.w) c.A t Q E s := x Q E k

section
variable {c : Cx} {σ : Vars}

theorem ev_name {x : Str} {p : Pos} {d : D} (h : σ.lookup x = some d) (hd : (x == ("__debug__" : Str)) = false := by decide) : Ev c σ (.Name x p) d := fun s I Q E k => by
  obtain ⟨v, r, i⟩ := I.vars x d h
  rcases r with ⟨a, m, e, f⟩ | ⟨a | ⟨a, a'⟩, b, e, f⟩
  · exact wpAny_Name (wpAny_loadName_local I.kind a e f (k v s (Kp.refl s) i)) hd
  · exact wpAny_Name (wpAny_loadName_cell I.kind a e f (k v s (Kp.refl s) i)) hd
  · exact wpAny_Name (wpAny_loadName_free I.kind a e f (k v s (Kp.refl s) i) a') hd
theorem ev_int {n : Int} {k : Nat} {p : Pos} : Ev c σ (.Constant (.int n) k p) (.int n) := fun s _ Q E q =>
  wpAny_Constant_int (q _ _ (Kp.tok s _) (.int n _))
theorem ev_str {n : Str} {k : Nat} {p : Pos} : Ev c σ (.Constant (.str n) k p) (.str n) := fun s _ Q E q =>
  Calls.Constant_str (q _ _ (Kp.tok s _) (.str n _))
theorem ev_bytes {n : List UInt8} {k : Nat} {p : Pos} : Ev c σ (.Constant (.bytes n) k p) (.bytes n.toArray) := fun s _ Q E q =>
  fun _ _ _ => q _ _ (Kp.tok s _) (.bytes n.toArray _)
theorem ev_bool {n : Bool} {k : Nat} {p : Pos} : Ev c σ (.Constant (.bool n) k p) (.bool n) := fun s _ Q E q =>
  fun _ _ _ => q _ _ (Kp.refl s) (.bool n)

/-- a binary step upon two values -/
noncomputable def Op2 (c : Cx) (f : Value → Value → Sem Value) (a b d : D) : Prop :=
  ∀ s v u, Alive c.H s.heap → Gr c.K s.heap → Amb c.n c.A → Is (hideAll s.heap c.H) a v → Is (hideAll s.heap c.H) b u → Act c s (f v u) d
noncomputable def Op1 (c : Cx) (f : Value → Sem Value) (a d : D) : Prop :=
  ∀ s v, Alive c.H s.heap → Gr c.K s.heap → Amb c.n c.A → Is (hideAll s.heap c.H) a v → Act c s (f v) d

theorem ev_bin {l r : Expr} {op : Operator} {p : Pos} {a b d : D} (ho : Op2 c (binaryOp op) a b d) (h1 : Ev c σ l a) (h2 : Ev c σ r b) : Ev c σ (.BinOp l op r p) d := fun s I Q E k =>
  wpAny_BinOp (h1 s I _ _ fun v s1 f1 i1 => h2 s1 (I.to f1) _ _ fun u s2 f2 i2 =>
    ho s2 v u (I.alive.ext (f1.trans f2).ext) (I.ground.ext (f1.trans f2).ext) I.amb (i1.ext (hid_ext f2.ext)) i2 _ _ fun x s3 f3 i3 => k x s3 ((f1.trans f2).trans f3) i3)
theorem ev_cmp {l r : Expr} {op : CmpOp} {p : Pos} {a b d : D} (ho : Op2 c (compareOp op) a b d) (h1 : Ev c σ l a) (h2 : Ev c σ r b) (hm : behindInMarks op r = false := by with_unfolding_all rfl) :
    Ev c σ (.Compare l [op] [r] p) d := fun s I Q E k =>
  wpAny_Compare1 (h1 s I _ _ fun v s1 f1 i1 => h2 s1 (I.to f1) _ _ fun u s2 f2 i2 =>
    ho s2 v u (I.alive.ext (f1.trans f2).ext) (I.ground.ext (f1.trans f2).ext) I.amb (i1.ext (hid_ext f2.ext)) i2 _ _ fun x s3 f3 i3 => k x s3 ((f1.trans f2).trans f3) i3) hm
end


theorem ns_unique {h : Heap} {a : Addr} {m m' : Str → Option Value} (x : h.Ns a m) (y : h.Ns a m') : m = m' := by
  obtain ⟨o, es, ep, e1, e2, _, e3⟩ := x
  obtain ⟨o', es', ep', f1, f2, _, f3⟩ := y
  rw [e1] at f1; cases f1
  rw [e2] at f2; cases f2
  funext n
  rw [← e3, f3]

theorem futBut {c : Cx} {s : Shared} {h : Heap} {tk : Nat} (f : Fut c.s₀ s) {a : Addr} (hf : c.s₀.heap.get? a = none) (hs : ∀ b, b ≠ a → h.get? b = s.heap.get? b) :
    Fut c.s₀ { s with heap := h, toks := tk } :=
  ⟨fun b o e => (hs b fun q => by rw [q, hf] at e; cases e).trans (f.ext b o e), f.os, f.gens, f.bare⟩

theorem In.store_local {c : Cx} {σ : Vars} {s : Shared} {x : Str} {v : Value} {d : D} {Q : Unit → Shared → Prop} {E : Value → Shared → Prop} (I : In c σ s)
    (hx : c.env.kindOf x = some .local) (i : Is (hideAll s.heap c.H) d v) (k : ∀ s', In c ((x, d) :: σ) s' → (∀ b, b ≠ c.env.locals → s'.heap.get? b = s.heap.get? b) → Q () s') :
    wpAny (model c.prog c.w) c.A (storeName c.env x v) Q E s := by
  obtain ⟨hLm, m, hm⟩ := I.locals
  have hLH := I.sub _ hLm
  refine wpAny_storeName_local hx hm (fun h' hn hs => k _ ?_ hs.2) (by rw [I.kind]; rfl)
  have but : ∀ b o, b ∉ c.H → s.heap.get? b = some o → h'.get? b = some o := fun b o hb e => (hs.2 b fun q => hb (q ▸ hLH)).trans e
  have hid := hid_extBut but
  refine { fut := futBut I.fut (I.fresh _ hLm) hs.2, same := fun h => let ⟨h1, tk1, e⟩ := I.same h; ⟨h', _, by rw [e]⟩, amb := I.amb, gr := I.gr, kind := I.kind, glob := I.glob, blt := I.blt, alive := ?_, sub := I.sub, fresh := I.fresh, locals := ⟨hLm, _, hn⟩, cells := ?_, apart := I.apart, vars := ?_ }
  · intro b hb
    by_cases e : b = c.env.locals
    · obtain ⟨o, _, _, ho, _⟩ := hn; exact ⟨o, e ▸ ho⟩
    · obtain ⟨o, ho⟩ := I.alive b hb; exact ⟨o, (hs.2 b e).trans ho⟩
  · intro y a hy
    obtain ⟨p, q, v, r⟩ := I.cells y a hy
    exact ⟨p, q, v, r.sameBut hs q⟩
  · intro y d' e
    rw [List.lookup_cons] at e
    cases hb : y == x with
    | true =>
      rw [hb] at e; cases e
      have := eq_of_beq hb; subst this
      exact ⟨v, .inl ⟨hx, _, hn, by simp⟩, i.ext hid⟩
    | false =>
      rw [hb] at e
      have hne : y ≠ x := fun q => by rw [q] at hb; simp at hb
      obtain ⟨v', r, i'⟩ := I.vars y d' e
      refine ⟨v', ?_, i'.ext hid⟩
      rcases r with ⟨a, m', hm', e'⟩ | ⟨a, b, e', f⟩
      · have := ns_unique hm hm'; subst this
        exact .inl ⟨a, _, hn, by simp [hne, e']⟩
      · exact .inr ⟨a, b, e', f.sameBut hs (I.cells y b (mem_of_lookup e')).2.1⟩

theorem In.store_cell {c : Cx} {σ : Vars} {s : Shared} {x : Str} {a : Addr} {v : Value} {d : D} {Q : Unit → Shared → Prop} {E : Value → Shared → Prop} (I : In c σ s)
    (hx : c.env.kindOf x = some .cell) (hc : c.env.cells.lookup x = some a) (ha : a ∈ c.m) (i : Is (hideAll s.heap c.H) d v) (k : ∀ s', In c ((x, d) :: σ) s' → Ext (hideAll s.heap c.H) (hideAll s'.heap c.H) → Q () s') :
    wpAny (model c.prog c.w) c.A (storeName c.env x v) Q E s := by
  obtain ⟨hLm, m, hm⟩ := I.locals
  have haH := I.sub _ ha
  obtain ⟨_, hne, v₀, hv₀⟩ := I.cells x a (mem_of_lookup hc)
  refine wpAny_storeName_cell I.kind hx hc hv₀ fun h' hn hs => k _ ?_ (hid_extBut fun b o hb e => (hs.2 b fun q => hb (q ▸ haH)).trans e)
  have but : ∀ b o, b ∉ c.H → s.heap.get? b = some o → h'.get? b = some o := fun b o hb e => (hs.2 b fun q => hb (q ▸ haH)).trans e
  have hid := hid_extBut but
  refine { fut := futBut I.fut (I.fresh _ ha) hs.2, same := fun h => let ⟨h1, tk1, e⟩ := I.same h; ⟨h', _, by rw [e]⟩, amb := I.amb, gr := I.gr, kind := I.kind, glob := I.glob, blt := I.blt, alive := ?_, sub := I.sub, fresh := I.fresh, locals := ⟨hLm, m, hm.sameBut hs (Ne.symm hne)⟩, cells := ?_, apart := I.apart, vars := ?_ }
  · intro b hb
    by_cases e : b = a
    · obtain ⟨o, ho, _⟩ := hn; exact ⟨o, e ▸ ho⟩
    · obtain ⟨o, ho⟩ := I.alive b hb; exact ⟨o, (hs.2 b e).trans ho⟩
  · intro y b hy
    obtain ⟨p, q, v, r⟩ := I.cells y b hy
    by_cases e : b = a
    · exact ⟨p, q, _, e ▸ hn⟩
    · exact ⟨p, q, v, r.sameBut hs e⟩
  · intro y d' e
    rw [List.lookup_cons] at e
    cases hb : y == x with
    | true =>
      rw [hb] at e; cases e
      have := eq_of_beq hb; subst this
      exact ⟨v, .inr ⟨.inl hx, a, hc, hn⟩, i.ext hid⟩
    | false =>
      rw [hb] at e
      have hne' : y ≠ x := fun q => by rw [q] at hb; simp at hb
      obtain ⟨v', r, i'⟩ := I.vars y d' e
      refine ⟨v', ?_, i'.ext hid⟩
      rcases r with ⟨p, m', hm', e'⟩ | ⟨p, b, e', f⟩
      · exact .inl ⟨p, m', hm'.sameBut hs (Ne.symm hne), e'⟩
      · refine .inr ⟨p, b, e', f.sameBut hs fun q => hne' ?_⟩
        exact I.apart x a y b (mem_of_lookup hc) (mem_of_lookup e') ha q

noncomputable def Sto (c : Cx) (x : Str) : Prop := c.env.kindOf x = some .local ∨ (c.env.kindOf x = some .cell ∧ ∃ a, c.env.cells.lookup x = some a ∧ a ∈ c.m)
theorem In.store' {c : Cx} {σ : Vars} {s : Shared} {x : Str} {v : Value} {d : D} {Q : Unit → Shared → Prop} {E : Value → Shared → Prop} (I : In c σ s)
    (hx : Sto c x) (i : Is (hideAll s.heap c.H) d v) (k : ∀ s', In c ((x, d) :: σ) s' → Ext (hideAll s.heap c.H) (hideAll s'.heap c.H) → Q () s') :
    wpAny (model c.prog c.w) c.A (storeName c.env x v) Q E s := by
  rcases hx with hx | ⟨hx, a, hc, ha⟩
  · exact I.store_local hx i fun s' I' hb => k s' I' (hid_extBut fun b o hH e => (hb b fun q => hH (q ▸ I.sub _ I.locals.1)).trans e)
  · exact I.store_cell hx hc ha i k
theorem In.store {c : Cx} {σ : Vars} {s : Shared} {x : Str} {v : Value} {d : D} {Q : Unit → Shared → Prop} {E : Value → Shared → Prop} (I : In c σ s)
    (hx : Sto c x) (i : Is (hideAll s.heap c.H) d v) (k : ∀ s', In c ((x, d) :: σ) s' → Q () s') :
    wpAny (model c.prog c.w) c.A (storeName c.env x v) Q E s := I.store' hx i fun s' I' _ => k s' I'

section
variable {c : Cx} {σ : Vars} {s : Shared} {Q : Flow → Shared → Prop} {E : Value → Shared → Prop} {rest : List Stmt}

theorem x_assign {x : Str} {e : Expr} {p p' : Pos} {d : D} (I : In c σ s) (he : Ev c σ e d) (hx : Sto c x)
    (k : ∀ s', In c ((x, d) :: σ) s' → wpAny (model c.prog c.w) c.A (execs rest c.env) Q E s')
    (hs : swapsWith e (some (.Name x p)) p'.line c.env = pure false := by rfl) :
    wpAny (model c.prog c.w) c.A (execs (.Assign [.Name x p] e p' :: rest) c.env) Q E s :=
  wpAny_execs_cons (wpAny_Assign_Name (he s I _ _ fun v s1 f1 i1 => (I.to f1).store hx i1 fun s' I' => k s' I') hs)

theorem x_return {e : Expr} {p : Pos} {d : D} (I : In c σ s) (he : Ev c σ e d) (k : ∀ v s', In c σ s' → Is (hideAll s'.heap c.H) d v → Q (.ret v) s') :
    wpAny (model c.prog c.w) c.A (execs (.Return (some e) p :: rest) c.env) Q E s :=
  wpAny_execs_cons (wpAny_Return_some (he s I _ _ fun v s1 f1 i1 => k v s1 (I.to f1) i1))

noncomputable def Tst (c : Cx) (σ : Vars) (e : Expr) (b : Bool) : Prop := ∀ s, In c σ s → ∀ (Q : Bool → Shared → Prop) (E : Value → Shared → Prop), (∀ s', Kp s s' → Q b s') → wpAny (model c.prog c.w) c.A (isTrue e c.env (eval e c.env)) Q E s

theorem x_if {t : Expr} {b : Bool} {th el : List Stmt} {p : Pos} (I : In c σ s) (ht : Tst c σ t b)
    (k1 : b = true → ∀ s', In c σ s' → wpAny (model c.prog c.w) c.A (execs th c.env) (fun f s2 => match f with | .next => wpAny (model c.prog c.w) c.A (execs rest c.env) Q E s2 | f => Q f s2) E s')
    (k2 : b = false → ∀ s', In c σ s' → wpAny (model c.prog c.w) c.A (execs el c.env) (fun f s2 => match f with | .next => wpAny (model c.prog c.w) c.A (execs rest c.env) Q E s2 | f => Q f s2) E s') :
    wpAny (model c.prog c.w) c.A (execs (.If t th el p :: rest) c.env) Q E s := by
  refine wpAny_execs_cons (wpAny_If (ht s I _ _ fun s' f => ?_))
  cases b with
  | true => rw [if_pos rfl]; exact k1 rfl s' (I.to f)
  | false => rw [if_neg Bool.false_ne_true]; exact k2 rfl s' (I.to f)
end

section
variable {c : Cx} {σ : Vars}
theorem tst_cmp {l r : Expr} {op : CmpOp} {p : Pos} {a b : D} {t : Bool} (ho : Op2 c (compareOp op) a b (.bool t)) (h1 : Ev c σ l a) (h2 : Ev c σ r b) (hm : behindInMarks op r = false := by with_unfolding_all rfl) :
    Tst c σ (.Compare l [op] [r] p) t := fun s I Q E k =>
  wpAny_isTrue_Compare1 (h1 s I _ _ fun v s1 f1 i1 => h2 s1 (I.to f1) _ _ fun u s2 f2 i2 =>
    ho s2 v u (I.alive.ext (f1.trans f2).ext) (I.ground.ext (f1.trans f2).ext) I.amb (i1.ext (hid_ext f2.ext)) i2 _ _ fun x s3 f3 i3 => by
      cases i3
      exact wpAny_truthy_bool (k s3 ((f1.trans f2).trans f3))) hm
theorem tst_int {x : Str} {p : Pos} {n : Int} (h : Ev c σ (.Name x p) (.int n)) : Tst c σ (.Name x p) (n != 0) := fun s I Q E k =>
  isTrue_plain (h s I _ _ fun v s1 f1 i1 => by
    obtain ⟨t, rfl⟩ := i1.int_inv
    exact PyProof.Rows.truthy_int (k s1 f1))
theorem tst_true {k : Nat} {p : Pos} : Tst c σ (.Constant (.bool true) k p) true := fun s I Q E q =>
  isTrue_plain (ev_bool s I _ _ fun v s1 f1 i1 => by
    cases i1
    exact wpAny_truthy_bool (q s1 f1))
theorem tst_and_nil {p : Pos} : ∀ s, In c σ s → ∀ whole (Q : Bool → Shared → Prop) (E : Value → Shared → Prop), (∀ s', Kp s s' → Q true s') → wpAny (model c.prog c.w) c.A (isTrue (.BoolOp .And [] p) c.env whole) Q E s :=
  fun s I whole Q E k => isTrue_and_nil (k s (Kp.refl s))
theorem tst_and {x y : Expr} {p : Pos} {a b : Bool} (h1 : Tst c σ x a) (h2 : a = true → Tst c σ y b) : Tst c σ (.BoolOp .And [x, y] p) (a && b) := fun s I Q E k =>
  isTrue_and (h1 s I _ _ fun s1 f1 => by
    cases a with
    | false => rw [if_neg Bool.false_ne_true]; exact k s1 f1
    | true =>
      rw [if_pos rfl]
      refine isTrue_and (h2 rfl s1 (I.to f1) _ _ fun s2 f2 => ?_)
      cases b with
      | false => rw [if_neg Bool.false_ne_true]; exact k s2 (f1.trans f2)
      | true => rw [if_pos rfl]; exact isTrue_and_nil (k s2 (f1.trans f2)))

theorem ev_ifexp {t a b : Expr} {p : Pos} {v : Bool} {d : D} (ht : Tst c σ t v) (h1 : v = true → Ev c σ a d) (h2 : v = false → Ev c σ b d) : Ev c σ (.IfExp t a b p) d := fun s I Q E k => by
  show wpAny _ _ (isTrue t c.env (eval t c.env) >>= fun r => if r = true then eval a c.env else eval b c.env) Q E s
  refine wpAny_bind (ht s I _ _ fun s1 f1 => ?_)
  cases v with
  | true => rw [if_pos rfl]; exact h1 rfl s1 (I.to f1) _ _ fun v s2 f2 i2 => k v s2 (f1.trans f2) i2
  | false => rw [if_neg Bool.false_ne_true]; exact h2 rfl s1 (I.to f1) _ _ fun v s2 f2 i2 => k v s2 (f1.trans f2) i2

-- arguments
inductive EvL (c : Cx) (σ : Vars) : List Expr → List D → Prop
  | nil : EvL c σ [] []
  | cons {e : Expr} {d : D} {es : List Expr} {ds : List D} : Ev c σ e d → EvL c σ es ds → EvL c σ (e :: es) (d :: ds)
theorem evl_spliced : ∀ {es : List Expr} {ds : List D}, EvL c σ es ds → ∀ (s : Shared) (Q : List Value → Shared → Prop) (E : Value → Shared → Prop), In c σ s →
    (∀ vs s', Kp s s' → IsAll (hideAll s'.heap c.H) ds vs → Q vs s') → wpAny (model c.prog c.w) c.A (spliced (es.map fun e => (false, eval e c.env))) Q E s
  | _, _, .nil, s, Q, E, I, k => Calls.spliced_nil (k [] s (Kp.refl s) .nil)
  | _, _, .cons h r, s, Q, E, I, k => Calls.spliced_cons (h s I _ _ fun v s1 f1 i1 => evl_spliced r s1 _ _ (I.to f1) fun vs s2 f2 i2 =>
      k (v :: vs) s2 (f1.trans f2) (.cons (i1.ext (hid_ext f2.ext)) i2))

/-- what a callable hands back -/
noncomputable def FnK (K : Frag) (prog : Program) (w : World) (n : Nat) (f : Value) (ds : List D) (d : D) : Prop :=
  ∀ (A : Around) (H : List Addr) (s : Shared) (vs : List Value) (Q E : Value → Shared → Prop), Amb n A → Alive H s.heap → Gr K s.heap → IsAll (hideAll s.heap H) ds vs →
    (∀ v s', Kp s s' → Is (hideAll s'.heap H) d v → Q v s') → wpAny (model prog w) A (call f vs) Q E s

theorem evalArgs_all {f : Value} {es : List Expr} {ds : List D} (hl : EvL c σ es ds) (s : Shared) (Q : Args → Shared → Prop) (E : Value → Shared → Prop) (I : In c σ s) (hne : es ≠ [])
    (k : ∀ vs s', Kp s s' → IsAll (hideAll s'.heap c.H) ds vs → Q ⟨vs, []⟩ s') : wpAny (model c.prog c.w) c.A (evalArgs f true (es.map fun e => (false, eval e c.env)) []) Q E s := by
  cases hl with
  | nil => exact absurd rfl hne
  | cons h r => exact Calls.evalArgs_plain (evl_spliced (.cons h r) s _ _ I k)
theorem any_starred (es : List Expr) (env : Env) : ((es.map fun e => (false, eval e env)).any fun x => x.1) = false := by
  induction es with
  | nil => rfl
  | cons e es ih => rw [List.map_cons, List.any_cons, ih]; rfl

theorem name_global {x : Str} {p : Pos} {v : Value} {s : Shared} {Q E : Value → Shared → Prop} (I : In c σ s) (hk : c.env.kindOf x = some .globalImplicit) (hn : nsIn c.K mainGlobals x = some (some v)) (k : Q v s)
    (hd : (x == ("__debug__" : Str)) = false := by decide) : wpAny (model c.prog c.w) c.A (eval (.Name x p) c.env) Q E s := by
  obtain ⟨mg, hg⟩ := I.ground.g
  refine Calls.Name_function_global I.kind hk (Calls.loadGlobal_global (by rw [I.glob]; exact hg) (mg_of I.ground.K hg hn) k) hd
theorem name_builtin {x : Str} {p : Pos} {v : Value} {s : Shared} {Q E : Value → Shared → Prop} (I : In c σ s) (hk : c.env.kindOf x = some .globalImplicit) (hn : nsIn c.K mainGlobals x = some none) (hb : bootBuiltins x = some v)
    (hx : x ≠ "__name__") (k : Q v s) (hd : (x == ("__debug__" : Str)) = false := by decide) : wpAny (model c.prog c.w) c.A (eval (.Name x p) c.env) Q E s := by
  obtain ⟨mg, hg⟩ := I.ground.g
  obtain ⟨mb, hmb, hb'⟩ := I.ground.b
  refine Calls.Name_function_global I.kind hk (Calls.loadGlobal_builtin (by rw [I.glob]; exact hg) (mg_none_of I.ground.K hg hn) (by rw [I.blt]; exact hmb) ((hb' x hx).trans hb) k) hd

theorem ev_call_def {x : Str} {p pos : Pos} {es : List Expr} {ds : List D} {d : D} {f : Addr} (hk : c.env.kindOf x = some .globalImplicit) (hn : nsIn c.K mainGlobals x = some (some (.ref f))) (hf : keepIn c.K (.ref f) = true)
    (hl : EvL c σ es ds) (hc : FnK c.K c.prog c.w c.n (.ref f) ds d) (hne : es ≠ []) (hs : backTo pos (starEach es c.env) = es.map fun e => (false, eval e c.env))
    (hd : (x == ("__debug__" : Str)) = false := by decide) : Ev c σ (.Call (.Name x p) es [] pos) d := fun s I Q E k => by
  show wpAny _ _ (do callWith pos (← eval (.Name x p) c.env) [] (backTo pos (starEach es c.env)) (backToKw pos (keywordEach [] c.env))) Q E s
  refine wpAny_bind (name_global I hk hn ?_ hd)
  rw [hs]
  refine callWith_of (P := c.K.In) (by rw [any_starred]; rfl) (keeps_K hf) (evalArgs_all hl s _ _ I hne fun vs s1 f1 i1 => ⟨(I.to f1).ground.K, ?_⟩)
  exact hc c.A c.H s1 vs _ _ I.amb (I.to f1).alive (I.to f1).ground i1 fun v s2 f2 i2 => k v s2 (f1.trans f2) i2
theorem ev_call_builtin {x : Str} {id : String} {p pos : Pos} {es : List Expr} {ds : List D} {d : D} (hk : c.env.kindOf x = some .globalImplicit) (hn : nsIn c.K mainGlobals x = some none) (hb : bootBuiltins x = some (.builtin id))
    (hx : x ≠ "__name__") (hl : EvL c σ es ds) (hc : FnK c.K c.prog c.w c.n (.builtin id) ds d) (hne : es ≠ []) (hs : backTo pos (starEach es c.env) = es.map fun e => (false, eval e c.env))
    (hd : (x == ("__debug__" : Str)) = false := by decide) : Ev c σ (.Call (.Name x p) es [] pos) d := fun s I Q E k => by
  show wpAny _ _ (do callWith pos (← eval (.Name x p) c.env) [] (backTo pos (starEach es c.env)) (backToKw pos (keywordEach [] c.env))) Q E s
  refine wpAny_bind (name_builtin I hk hn hb hx ?_ hd)
  rw [hs]
  refine Calls.callWith_builtin (any_starred _ _) (evalArgs_all hl s _ _ I hne fun vs s1 f1 i1 => ?_)
  exact hc c.A c.H s1 vs _ _ I.amb (I.to f1).alive (I.to f1).ground i1 fun v s2 f2 i2 => k v s2 (f1.trans f2) i2
theorem ev_call_type {x : Str} {T : String} {p pos : Pos} {es : List Expr} {ds : List D} {d : D} (hk : c.env.kindOf x = some .globalImplicit) (hn : nsIn c.K mainGlobals x = some none) (hb : bootBuiltins x = some (.type T))
    (hx : x ≠ "__name__") (hl : EvL c σ es ds) (hc : FnK c.K c.prog c.w c.n (.type T) ds d) (hne : es ≠ []) (hs : backTo pos (starEach es c.env) = es.map fun e => (false, eval e c.env))
    (hd : (x == ("__debug__" : Str)) = false := by decide) : Ev c σ (.Call (.Name x p) es [] pos) d := fun s I Q E k => by
  show wpAny _ _ (do callWith pos (← eval (.Name x p) c.env) [] (backTo pos (starEach es c.env)) (backToKw pos (keywordEach [] c.env))) Q E s
  refine wpAny_bind (name_builtin I hk hn hb hx ?_ hd)
  rw [hs]
  refine PySem.callWith_type (any_starred _ _) (evalArgs_all hl s _ _ I hne fun vs s1 f1 i1 => ?_)
  exact hc c.A c.H s1 vs _ _ I.amb (I.to f1).alive (I.to f1).ground i1 fun v s2 f2 i2 => k v s2 (f1.trans f2) i2
end

-- displays
section
variable {c : Cx} {σ : Vars}
theorem ev_tuple {es : List Expr} {ds : List D} {k : Nat} {pos : Pos} (hl : EvL c σ es ds) (hs : backTo pos (starEach es c.env) = es.map fun e => (false, eval e c.env)) (hz : ds.length ≤ sizeLine) :
    Ev c σ (.Tuple es k pos) (.tup ds) := fun s I Q E q => Tuple_ (by
  rw [hs]
  refine evl_spliced hl s _ _ I fun vs s1 f1 i1 => ?_
  have I1 := I.to f1
  refine wpAny_newObj_type (q _ _ (f1.trans (Kp.heap (Ext.push _ _))) (.tup ⟨_, hid_push I1.alive rfl, rfl, _, rfl⟩ (i1.ext (hid_ext (Ext.push _ _))))) ?_
  show vs.toArray.size ≤ sizeLine
  rw [List.size_toArray, i1.length]; exact hz)
theorem ev_list {es : List Expr} {ds : List D} {pos : Pos} (hl : EvL c σ es ds) (hs : backTo pos (starEach es c.env) = es.map fun e => (false, eval e c.env)) (hz : ds.length ≤ sizeLine) :
    Ev c σ (.List es pos) (.list ds) := fun s I Q E q => List_ (by
  rw [hs]
  refine evl_spliced hl s _ _ I fun vs s1 f1 i1 => ?_
  have I1 := I.to f1
  refine wpAny_newObj_type (q _ _ (f1.trans (Kp.heap (Ext.push _ _))) (.list ⟨_, hid_push I1.alive rfl, rfl, _, rfl⟩ (i1.ext (hid_ext (Ext.push _ _))))) ?_
  show vs.toArray.size ≤ sizeLine
  rw [List.size_toArray, i1.length]; exact hz)
end

-- a def of the text
theorem isAll_lookup {h : Heap} : ∀ (ns : List Str) {ds : List D} {vs : List Value}, IsAll h ds vs → ∀ {x : Str} {d : D}, (ns.zip ds).lookup x = some d → ∃ v, (ns.zip vs).lookup x = some v ∧ Is h d v
  | [], _, _, _, x, d, e => by simp at e
  | n :: ns, _, _, .nil, x, d, e => by simp at e
  | n :: ns, _, _, .cons i r, x, d, e => by
    rw [List.zip_cons_cons, List.lookup_cons] at e ⊢
    cases hb : x == n with
    | true => rw [hb] at e; cases e; exact ⟨_, rfl, i⟩
    | false => rw [hb] at e; exact isAll_lookup ns r e

theorem bindL_get {kindOf : Str → Option NameKind} {x : Str} {v : Value} : ∀ (l : List (Str × Value)) (m : Str → Option Value), (l.map (·.1)).Nodup → kindOf x = some .local → l.lookup x = some v → bindL kindOf l m x = some v
  | [], _, _, _, h => by simp at h
  | (n, u) :: r, m, hn, hk, h => by
    rw [List.lookup_cons] at h
    simp only [List.map_cons, List.nodup_cons] at hn
    cases hb : x == n with
    | true =>
      rw [hb] at h; cases h
      have := eq_of_beq hb; subst this
      unfold bindL
      rw [if_pos hk]
      have : ∀ (l : List (Str × Value)) (m : Str → Option Value), x ∉ l.map (·.1) → bindL kindOf l m x = m x := by
        intro l
        induction l with
        | nil => intro m _; rfl
        | cons p l ih =>
          intro m hm
          obtain ⟨n', u'⟩ := p
          simp only [List.map_cons, List.mem_cons, not_or] at hm
          unfold bindL
          rw [ih _ hm.2]
          split
          · simp [hm.1]
          · rfl
      rw [this r _ hn.1]; simp
    | false =>
      rw [hb] at h
      unfold bindL
      exact bindL_get r _ hn.2 hk h
theorem bindC_get {kindOf : Str → Option NameKind} {x : Str} {v : Value} : ∀ (l : List (Str × Value)) (m : Str → Option Value), (l.map (·.1)).Nodup → kindOf x = some .cell → l.lookup x = some v → bindC kindOf l m x = some v
  | [], _, _, _, h => by simp at h
  | (n, u) :: r, m, hn, hk, h => by
    rw [List.lookup_cons] at h
    simp only [List.map_cons, List.nodup_cons] at hn
    cases hb : x == n with
    | true =>
      rw [hb] at h; cases h
      have := eq_of_beq hb; subst this
      unfold bindC
      rw [if_neg (by rw [hk]; simp)]
      have : ∀ (l : List (Str × Value)) (m : Str → Option Value), x ∉ l.map (·.1) → bindC kindOf l m x = m x := by
        intro l
        induction l with
        | nil => intro m _; rfl
        | cons p l ih =>
          intro m hm
          obtain ⟨n', u'⟩ := p
          simp only [List.map_cons, List.mem_cons, not_or] at hm
          unfold bindC
          rw [ih _ hm.2]
          split
          · rfl
          · simp [hm.1]
      rw [this r _ hn.1]; simp
    | false =>
      rw [hb] at h
      unfold bindC
      exact bindC_get r _ hn.2 hk h

/-- the frame that a call makes -/
noncomputable abbrev cxOf (pu : Bool) (K : Frag) (prog : Program) (w : World) (n : Nat) (A : Around) (H : List Addr) (fd : FuncData) (f : Addr) (s : Shared) : Cx :=
  { K := K, prog := prog, w := w, n := n, A := A.deeper (callEnvC fd s.heap.objs.size f), env := callEnvC fd s.heap.objs.size f,
    H := (s.heap.objs.size :: (cellsFrom (s.heap.objs.size + 1) fd.scope.names []).map (·.2)) ++ H,
    m := s.heap.objs.size :: (cellsFrom (s.heap.objs.size + 1) fd.scope.names []).map (·.2), pure := pu, s₀ := s }

theorem fn_in {pu : Bool} {K : Frag} {prog : Program} {w : World} {n : Nat} {f : Addr} {fd : FuncData} {A : Around} {H : List Addr} {s s₁ : Shared} {ns : List Str} {ds : List D} {vs : List Value}
    (hA : Amb (n + 1) A) (hal : Alive H s.heap) (hg : Gr K s.heap) (hv : IsAll (hideAll s.heap H) ds vs) (hgl : fd.globals = mainGlobals) (hbt : fd.builtins = builtinsNs) (hk : fd.scope.kind = .function)
    (hnd : ns.Nodup) (hcn : ((cellsFrom 0 fd.scope.names []).map (·.1)).Nodup)
    (hkind : ∀ x ∈ ns, fd.scope.names.lookup x = some .local ∨ (fd.scope.names.lookup x = some .cell ∧ ((cellsFrom (s.heap.objs.size + 1) fd.scope.names []).lookup x).isSome = true))
    (hlen : ns.length = ds.length)
    (J : InCallC s (callEnvC fd s.heap.objs.size f).locals (bindL (callEnvC fd s.heap.objs.size f).kindOf (ns.zip vs) fun _ => none) (callEnvC fd s.heap.objs.size f).cells
        (bindC (callEnvC fd s.heap.objs.size f).kindOf (ns.zip vs) fun _ => none) s₁) :
    In (cxOf pu K prog w n A H fd f s) (ns.zip ds) s₁ ∧ Kp s s₁ := by
  have ke : Ext s.heap s₁.heap := J.toInCall.keep
  obtain ⟨h₁, tk, he, _⟩ := J.done
  have kp : Kp s s₁ := ⟨ke, h₁, tk, he⟩
  have hlo : ∀ x a, (x, a) ∈ cellsFrom (s.heap.objs.size + 1) fd.scope.names [] → s.heap.objs.size < a := fun x a hm => J.above x a hm
  have hnone : ∀ a, s.heap.objs.size ≤ a → s.heap.get? a = none := fun a ha => by
    cases e : s.heap.get? a with
    | none => rfl
    | some o => exact absurd (Heap.lt_size e) (Nat.not_lt.mpr ha)
  have hlook : ∀ x a, (x, a) ∈ cellsFrom (s.heap.objs.size + 1) fd.scope.names [] → (cellsFrom (s.heap.objs.size + 1) fd.scope.names []).lookup x = some a :=
    fun x a hm => lookup_of_mem_nodup (cellsFrom_names fd.scope.names 0 (s.heap.objs.size + 1) [] [] rfl ▸ hcn) hm
  have hcell : ∀ x a, (x, a) ∈ cellsFrom (s.heap.objs.size + 1) fd.scope.names [] → ∃ v, s₁.heap.IsCell a v := fun x a hm => ⟨_, J.cell x a (hlook x a hm)⟩
  have hM : ∀ b ∈ (cxOf pu K prog w n A H fd f s).m, s.heap.objs.size ≤ b ∧ ∃ o, s₁.heap.get? b = some o := by
    intro b hb
    rcases List.mem_cons.mp hb with rfl | hb
    · obtain ⟨o, _, _, ho, _⟩ := J.toInCall.ns; exact ⟨Nat.le_refl _, o, ho⟩
    · obtain ⟨p, hp, rfl⟩ := List.mem_map.mp hb
      obtain ⟨v, o, ho, _⟩ := hcell p.1 p.2 hp
      exact ⟨Nat.le_of_lt (hlo p.1 p.2 hp), o, ho⟩
  have hidx : Ext (hideAll s.heap H) (hideAll s₁.heap (cxOf pu K prog w n A H fd f s).H) := fun b o e => by
    refine hideAll_get _ (ke b o (of_hideAll _ e)) fun q => ?_
    rcases List.mem_append.mp q with q | q
    · exact absurd (Heap.lt_size (of_hideAll _ e)) (Nat.not_lt.mpr (hM b q).1)
    · exact hid_not e q
  refine ⟨{ fut := kp.fut, same := fun _ => ⟨h₁, tk, he⟩, amb := hA.deeper _, gr := hg, kind := hk, glob := hgl, blt := hbt, alive := ?_, sub := fun b hb => List.mem_append.mpr (.inl hb), fresh := fun b hb => hnone b (hM b hb).1,
            locals := ⟨List.mem_cons_self, _, J.toInCall.ns⟩, cells := ?_, apart := fun x a y b h1 h2 _ e => name_of_addr J.apart h2 (e ▸ h1), vars := ?_ }, kp⟩
  · intro b hb
    rcases List.mem_append.mp hb with hb | hb
    · exact (hM b hb).2
    · obtain ⟨o, e⟩ := hal b hb; exact ⟨o, ke b o e⟩
  · intro x a hm
    exact ⟨List.mem_append.mpr (.inl (List.mem_cons_of_mem _ (List.mem_map.mpr ⟨(x, a), hm, rfl⟩))), Nat.ne_of_gt (hlo x a hm), hcell x a hm⟩
  · intro x d e
    obtain ⟨v, hv', i⟩ := isAll_lookup ns hv e
    have hx : x ∈ ns := by
      have := mem_of_lookup e
      exact (List.of_mem_zip this).1
    have hndz : ((ns.zip vs).map (·.1)).Nodup := by
      have : (ns.zip vs).map (·.1) = ns := by
        rw [List.map_fst_zip]
        rw [hlen, hv.length]; exact Nat.le_refl _
      rw [this]; exact hnd
    refine ⟨v, ?_, i.ext hidx⟩
    rcases hkind x hx with hl | ⟨hc, hs⟩
    · exact .inl ⟨hl, _, J.toInCall.ns, bindL_get _ _ hndz hl hv'⟩
    · obtain ⟨a, ha⟩ := Option.isSome_iff_exists.mp hs
      refine .inr ⟨.inl hc, a, ha, ?_⟩
      have := J.cell x a ha
      rw [bindC_get _ _ hndz hc hv'] at this
      exact this

/-- a def's contract, by the walk of its body -/
theorem fn_of {K : Frag} {prog : Program} {w : World} {n : Nat} {f : Addr} {fd : FuncData} {body : List Stmt} {ns : List Str} {ds : List D} {d : D} {oc : Value} {od : Option Addr} {osl : Array (Option Value)}
    (hK : K.lookup f = some ⟨oc, od, .func fd, osl⟩) (hcd : codeIn K fd.code fd.qualname = true) (hbody : fd.body = .stmts body) (hgl : fd.globals = mainGlobals) (hbt : fd.builtins = builtinsNs)
    (hbind : ∀ vs : List Value, vs.length = ns.length → bindArgs fd ⟨vs, []⟩ = pure (ns.zip vs)) (hclo : fd.closure = []) (hco : fd.scope.isCoroutine = false) (hgen : fd.scope.isGenerator = false) (hk : fd.scope.kind = .function)
    (hnd : ns.Nodup) (hcn : ((cellsFrom 0 fd.scope.names []).map (·.1)).Nodup)
    (hkind : (ns.all fun y => fd.scope.names.lookup y == some .local || fd.scope.names.lookup y == some .cell) = true)
    (hlen : ns.length = ds.length)
    (walk : ∀ A H s s₁, In (cxOf true K prog w n A H fd f s) (ns.zip ds) s₁ →
      wpAny (model prog w) (cxOf true K prog w n A H fd f s).A (execs body (cxOf true K prog w n A H fd f s).env)
        (fun fl s' => ∃ v, fl = .ret v ∧ Kp s s' ∧ Is (hideAll s'.heap (cxOf true K prog w n A H fd f s).H) d v) (fun _ _ => False) s₁) :
    FnK K prog w (n + 1) (.ref f) ds d := fun A H s vs Q E hA hal hg hv k => by
  have hvl : vs.length = ns.length := by rw [hv.length, hlen]
  have kx : ∀ N, ∀ x ∈ ns, fd.scope.names.lookup x = some .local ∨ (fd.scope.names.lookup x = some .cell ∧ ((cellsFrom N fd.scope.names []).lookup x).isSome = true) := fun N x hx => by
    have := List.all_eq_true.mp hkind x hx
    rcases Bool.or_eq_true_iff.mp this with q | q
    · exact .inl (by simpa using q)
    · have q' : fd.scope.names.lookup x = some .cell := by simpa using q
      exact .inr ⟨q', cellsFrom_some _ _ _ (.inl q')⟩
  refine wpAny_call (codeAny_call_cells hA.room (hg.K _ _ hK) rfl hg.nolimit (codeRec_of hg.K hcd) hbody (hbind vs hvl) hclo (fun x hx => kx _ x.1 (List.of_mem_zip hx).1) (fun s₁ J => ?_) hco hgen hk)
  obtain ⟨I, kp⟩ := fn_in (K := K) (prog := prog) (w := w) (pu := true) hA hal hg hv hgl hbt hk hnd hcn (kx _) hlen J
  refine wpAny_mono (walk A H s s₁ I) (fun fl s' h => ?_) fun _ _ h => h.elim
  obtain ⟨v, rfl, f, i⟩ := h
  exact k v s' f (i.ext (hid_less fun b hb => List.mem_append.mpr (.inr hb)))


/-- one hidden object of the frame's is changed -/
theorem In.upd {c : Cx} {σ : Vars} {s : Shared} (I : In c σ s) {a : Addr} {h : Heap} {tk : Nat} (hH : a ∈ c.H) (hf : c.s₀.heap.get? a = none) (hL : a ≠ c.env.locals)
    (hC : ∀ x b, (x, b) ∈ c.env.cells → b ≠ a) (hs : ∀ b o, b ≠ a → s.heap.get? b = some o → h.get? b = some o) (ho : ∃ o, h.get? a = some o) : In c σ { s with heap := h, toks := tk } where
  fut := ⟨fun b o e => hs b o (fun q => by rw [q, hf] at e; cases e) (I.fut.ext b o e), I.fut.os, I.fut.gens, I.fut.bare⟩
  same := fun hp => let ⟨_, _, e⟩ := I.same hp; ⟨h, tk, by rw [e]⟩
  amb := I.amb
  gr := I.gr
  kind := I.kind
  glob := I.glob
  blt := I.blt
  alive := fun b hb => by
    by_cases e : b = a
    · exact e ▸ ho
    · obtain ⟨o, q⟩ := I.alive b hb; exact ⟨o, hs b o e q⟩
  sub := I.sub
  fresh := I.fresh
  locals := ⟨I.locals.1, let ⟨m, e⟩ := I.locals.2; ⟨m, e.at' fun o q => hs _ o (Ne.symm hL) q⟩⟩
  cells := fun x b hm => let ⟨p, q, v, o, e, r⟩ := I.cells x b hm; ⟨p, q, v, o, hs _ o (hC x b hm) e, r⟩
  apart := I.apart
  vars := fun x d hd => by
    obtain ⟨v, r, i⟩ := I.vars x d hd
    refine ⟨v, ?_, i.ext (hid_extBut fun b o hb e => hs b o (fun q => hb (q ▸ hH)) e)⟩
    rcases r with ⟨k, m, e, f⟩ | ⟨k, b, e, o, f, g⟩
    · exact .inl ⟨k, m, e.at' fun o q => hs _ o (Ne.symm hL) q, f⟩
    · exact .inr ⟨k, b, e, o, hs _ o (hC x b (mem_of_lookup e)) f, g⟩

noncomputable abbrev Cx.more (c : Cx) (I : Addr) : Cx := { c with H := I :: c.H }
noncomputable abbrev Cx.turn (c : Cx) (I : Addr) (s : Shared) : Cx := { c with H := I :: c.H, s₀ := { s with heap := hideAll s.heap c.m } }

theorem In.drop {c : Cx} {I : Addr} {σ : Vars} {s : Shared} (J : In (c.more I) σ s) (hm : ∀ b ∈ c.m, b ∈ c.H) (hc : ∀ x b, (x, b) ∈ c.env.cells → b ∈ c.H) : In c σ s where
  fut := J.fut
  same := J.same
  amb := J.amb
  gr := J.gr
  kind := J.kind
  glob := J.glob
  blt := J.blt
  alive := fun b hb => J.alive b (List.mem_cons_of_mem _ hb)
  sub := hm
  fresh := J.fresh
  locals := J.locals
  cells := fun x b h => ⟨hc x b h, (J.cells x b h).2⟩
  apart := J.apart
  vars := fun x d e => let ⟨v, r, i⟩ := J.vars x d e; ⟨v, r, i.ext (hid_less fun b hb => List.mem_cons_of_mem _ hb)⟩

theorem ext_hid {c : Cx} {σ : Vars} {s : Shared} (I : In c σ s) : Ext c.s₀.heap (hideAll s.heap c.m) := fun b o e =>
  hideAll_get _ (I.fut.ext b o e) fun q => by rw [I.fresh b q] at e; cases e

theorem In.turn {c : Cx} {I : Addr} {σ : Vars} {s : Shared} (J : In (c.more I) σ s) : In (c.turn I s) σ s where
  fut := ⟨hid_of, rfl, fun _ _ e => e, fun e => e⟩
  same := fun _ => ⟨s.heap, s.toks, rfl⟩
  amb := J.amb
  gr := J.gr.ext (ext_hid J)
  kind := J.kind
  glob := J.glob
  blt := J.blt
  alive := J.alive
  sub := J.sub
  fresh := fun b hb => hideAll_none _ hb
  locals := J.locals
  cells := J.cells
  apart := J.apart
  vars := J.vars

theorem In.unturn {c : Cx} {I : Addr} {σ σ' : Vars} {s s' : Shared} (J : In (c.more I) σ s) (J' : In (c.turn I s) σ' s') : In (c.more I) σ' s' where
  fut := ⟨(ext_hid J).trans J'.fut.ext, J'.fut.os.trans J.fut.os, fun i x e => J'.fut.gens i x (J.fut.gens i x e), fun e => J'.fut.bare (J.fut.bare e)⟩
  same := fun hp => by
    obtain ⟨h1, t1, e1⟩ := J.same hp
    obtain ⟨h2, t2, e2⟩ := J'.same hp
    exact ⟨h2, t2, by rw [e2, e1]⟩
  amb := J.amb
  gr := J.gr
  kind := J.kind
  glob := J.glob
  blt := J.blt
  alive := J'.alive
  sub := J.sub
  fresh := J.fresh
  locals := J'.locals
  cells := J'.cells
  apart := J'.apart
  vars := J'.vars

theorem In.forget {c : Cx} {σ : Vars} {s : Shared} {a : Addr} (J : In (c.more a) σ s) {h : Heap} {tk : Nat} (hm : ∀ b ∈ c.m, b ∈ c.H) (hc : ∀ x b, (x, b) ∈ c.env.cells → b ∈ c.H) (ha : a ∉ c.H) (hf : c.s₀.heap.get? a = none)
    (hs : ∀ b o, b ≠ a → s.heap.get? b = some o → h.get? b = some o) : In c σ { s with heap := h, toks := tk } where
  fut := ⟨fun b o e => hs b o (fun q => by rw [q, hf] at e; cases e) (J.fut.ext b o e), J.fut.os, J.fut.gens, J.fut.bare⟩
  same := fun hp => let ⟨_, _, e⟩ := J.same hp; ⟨h, tk, by rw [e]⟩
  amb := J.amb
  gr := J.gr
  kind := J.kind
  glob := J.glob
  blt := J.blt
  alive := fun b hb => let ⟨o, e⟩ := J.alive b (List.mem_cons_of_mem _ hb); ⟨o, hs b o (fun q => ha (q ▸ hb)) e⟩
  sub := hm
  fresh := J.fresh
  locals := ⟨J.locals.1, let ⟨m, e⟩ := J.locals.2; ⟨m, e.at' fun o q => hs _ o (fun z => ha (z ▸ hm _ J.locals.1)) q⟩⟩
  cells := fun x b hb => let ⟨p, q, v, o, e, r⟩ := J.cells x b hb; ⟨hc x b hb, q, v, o, hs b o (fun z => ha (z ▸ hc x b hb)) e, r⟩
  apart := J.apart
  vars := fun x d hd => by
    obtain ⟨v, r, i⟩ := J.vars x d hd
    refine ⟨v, ?_, i.ext fun b o e => hideAll_get _ (hs b o (fun z => hid_not e (by rw [z]; exact List.mem_cons_self)) (of_hideAll _ e)) fun z => hid_not e (List.mem_cons_of_mem _ z)⟩
    rcases r with ⟨k, m, e, f⟩ | ⟨k, b, e, o, f, g⟩
    · exact .inl ⟨k, m, e.at' fun o q => hs _ o (fun z => ha (z ▸ hm _ J.locals.1)) q, f⟩
    · exact .inr ⟨k, b, e, o, hs _ o (fun z => ha (z ▸ hc x b (mem_of_lookup e))) f, g⟩

/-- what an iterator hands out -/
inductive Src (prog : Program) (w : World) (A : Around) (I : Addr) (n : Nat) (H : List Addr) (g : Heap) (it : Nat → D) (h : Heap) : Prop
  | mk (fp : List Addr) (P : Nat → Value → Prop) (St : Nat → Heap → Prop) (W : Walks prog w A I fp [I] n P St) (hob : ∀ i h, St i h → ∃ o, h.get? I = some o) (hP : ∀ i v, i < n → P i v → Is g (it i) v) (hst : St 0 h) (hfp : ∀ b ∈ fp, b = I ∨ b ∉ H) (hal : ∀ b ∈ fp, ∃ o, h.get? b = some o)

noncomputable def Itr (c : Cx) (s : Shared) (v : Value) (n : Nat) (it : Nat → D) : Prop :=
  ∀ (Q E : Value → Shared → Prop), (∀ I s', Kp s s' → s.heap.get? I = none → (∃ o, s'.heap.get? I = some o) → Src c.prog c.w c.A I n c.H (hideAll s.heap c.H) it s'.heap → Q (.ref I) s') →
    wpAny (model c.prog c.w) c.A (pyIter v) Q E s

theorem Src.more {prog : Program} {w : World} {A : Around} {I : Addr} {n : Nat} {H H' : List Addr} {g h h' : Heap} {it : Nat → D} (S : Src prog w A I n H g it h) (k : Ext h h') (hf : ∀ b ∈ H', b ∈ H ∨ h.get? b = none) : Src prog w A I n H' g it h' := by
  obtain ⟨fp, P, St, W, hob, hP, hst, hfp, hal⟩ := S
  refine ⟨fp, P, St, W, hob, hP, W.frame _ _ _ hst fun b _ o e => k b o e, fun b hb => ?_, fun b hb => let ⟨o, e⟩ := hal b hb; ⟨o, k b o e⟩⟩
  rcases hfp b hb with h1 | h1
  · exact .inl h1
  · refine .inr fun q => ?_
    rcases hf b q with h2 | h2
    · exact h1 h2
    · obtain ⟨o, e⟩ := hal b hb; rw [h2] at e; cases e
theorem Src.self {prog : Program} {w : World} {A : Around} {I : Addr} {n : Nat} {H : List Addr} {g : Heap} {it : Nat → D} {s : Shared} {Q E : Value → Shared → Prop} (S : Src prog w A I n H g it s.heap) (h : Q (.ref I) s) :
    wpAny (model prog w) A (pyIter (.ref I)) Q E s := S.casesOn fun _ _ _ W _ _ hst _ _ => W.self 0 s Q E hst h

theorem In.ins {c : Cx} {σ : Vars} {s s' : Shared} {I : Addr} (J : In c σ s) (f : Kp s s') (hI : s.heap.get? I = none) (ho : ∃ o, s'.heap.get? I = some o) : In (c.more I) σ s' ∧ I ∉ c.H ∧ c.s₀.heap.get? I = none := by
  have hH : I ∉ c.H := fun q => by obtain ⟨o, e⟩ := J.alive I q; rw [hI] at e; cases e
  have J' := J.to f
  refine ⟨{ J' with alive := ?_, sub := fun b hb => List.mem_cons_of_mem _ (J.sub b hb), cells := fun x b h => ⟨List.mem_cons_of_mem _ (J'.cells x b h).1, (J'.cells x b h).2⟩, vars := ?_ }, hH, ?_⟩
  · intro b hb
    rcases List.mem_cons.mp hb with rfl | hb
    · exact ho
    · exact J'.alive b hb
  · intro x d e
    obtain ⟨v, r, i⟩ := J.vars x d e
    refine ⟨v, r.ext f.ext, i.ext fun b o q => hideAll_get _ (f.ext b o (of_hideAll _ q)) fun z => ?_⟩
    rcases List.mem_cons.mp z with rfl | z
    · rw [of_hideAll _ q] at hI; cases hI
    · exact hid_not q z
  · cases e : c.s₀.heap.get? I with
    | none => rfl
    | some o => have := J.fut.ext I o e; rw [hI] at this; cases this

inductive LpI (n : Nat) (J : Nat → Vars → Heap → Prop) (c : Cx) (St : Nat → Heap → Prop) (g : Heap) (k : Nat) (s' : Shared) : Prop
  | mk (i : Nat) (σ : Vars) (hi : i ≤ n) (hk : k = n + 1 - i) (hJ : J i σ s'.heap) (hI : In c σ s') (hS : St i s'.heap) (hg : Ext g s'.heap)

section
variable {c : Cx} {s : Shared} {I : Addr} {n : Nat} {it : Nat → D} {g : Heap} {σ₀ : Vars}

theorem for_walk {R : Result → Shared → Prop} {x : Str} {px : Pos} {body : List Stmt} (hI : I ∉ c.H) (hs₀ : c.s₀.heap.get? I = none) (hm : ∀ b ∈ c.m, b ∈ c.H) (hcl : ∀ x b, (x, b) ∈ c.env.cells → b ∈ c.H) (hx : Sto c x)
    (I₀ : In (c.more I) σ₀ s) (hg : Ext g s.heap) (hgn : ∀ b o, g.get? b = some o → b ∉ I :: c.H) (S : Src c.prog c.w c.A I n c.H g it s.heap)
    (J : Nat → Vars → Prop) (hJ : J 0 σ₀)
    (hbody : ∀ i σ s1 s2, i < n → J i σ → In (c.turn I s1) ((x, it i) :: σ) s2 → (∀ σ' s', In (c.turn I s1) σ' s' → In c σ' s') →
      wpAny (model c.prog c.w) c.A (execs body c.env) (fun f s' => match f with
        | .next | .cont => ∃ σ', J (i + 1) σ' ∧ In (c.turn I s1) σ' s'
        | .brk => R (.ok .next) s'
        | .ret v => R (.ok (.ret v)) s') (fun _ _ => False) s2)
    (done : ∀ σ s', J n σ → In c σ s' → R (.ok .next) s') :
    codeAny (model c.prog c.w) c.A (.forLoop (.Name x px) (.ref I) body [] c.env) R s := by
  obtain ⟨fp, P, St, W, hob, hP, hst, hfp, _⟩ := S
  have hLI : c.env.locals ≠ I := fun q => hI (q ▸ hm _ I₀.locals.1)
  have hmI : I ∉ c.m := fun q => hI (hm _ q)
  refine codeAny_forLoop (LpI n (fun i σ _ => J i σ) (c.more I) St g) ?_ (n + 1) ⟨0, σ₀, Nat.zero_le _, rfl, hJ, I₀, hst, hg⟩
  rintro k s' ⟨i, σ, hi, rfl, hJi, Ii, hSi, hgi⟩
  by_cases hlt : i < n
  · refine W.item i s' _ _ hlt hSi fun v h' tk hv hS' hk => ?_
    have I1 : In (c.more I) σ { s' with heap := h', toks := tk } := Ii.upd List.mem_cons_self hs₀ (Ne.symm hLI) (fun x b hb q => hI (q ▸ hcl x b hb)) (fun b o hb e => hk b o (fun q => hb (List.mem_singleton.mp q)) e) (hob _ _ hS')
    have hg1 : Ext g h' := fun b o e => hk b o (fun q => hgn b o e (by rw [List.mem_singleton.mp q]; exact List.mem_cons_self)) (hgi b o e)
    have It := I1.turn
    refine wpAny_assign_Name (It.store (c := c.turn I _) hx ((hP i v hlt hv).ext fun b o e => hideAll_get _ (hg1 b o e) (hgn b o e)) fun s2 I2 => ?_)
    have back : ∀ σ' s', In (c.turn I { s' with heap := h', toks := tk }) σ' s' → True := fun _ _ _ => trivial
    have back' : ∀ σ' s'', In (c.turn I ({ s' with heap := h', toks := tk } : Shared)) σ' s'' → In (c.more I) σ' s'' := fun σ' s'' x => I1.unturn x
    refine wpAny_mono (hbody i σ _ s2 hlt hJi I2 fun σ' s'' x => (back' σ' s'' x).drop hm hcl) (fun f s3 h3 => ?_) fun _ _ q => q.elim
    have fin : (∃ σ', J (i + 1) σ' ∧ In (c.turn I ({ s' with heap := h', toks := tk } : Shared)) σ' s3) → ∃ k', k' < n + 1 - i ∧ LpI n (fun i σ _ => J i σ) (c.more I) St g k' s3 := by
      rintro ⟨σ', hJ', I3⟩
      have hkeep : Ext (hideAll h' c.m) s3.heap := I3.fut.ext
      refine ⟨n + 1 - (i + 1), by omega, i + 1, σ', hlt, rfl, hJ', back' σ' s3 I3, ?_, fun b o e => hkeep b o (hideAll_get _ (hg1 b o e) fun q => hgn b o e (List.mem_cons_of_mem _ (hm _ q)))⟩
      refine W.frame _ _ _ hS' fun b hb o e => hkeep b o (hideAll_get _ e fun q => ?_)
      rcases hfp b hb with rfl | hb'
      · exact hmI q
      · exact hb' (hm _ q)
    cases f with
    | next => exact fin h3
    | cont => exact fin h3
    | brk => exact h3
    | ret v => exact h3
  · have : i = n := by omega
    subst this
    refine W.done s' _ _ hSi fun h' tk hk => wpAny_execs_nil ?_
    refine done σ _ hJi ?_
    -- the iterator goes
    refine { fut := ⟨fun b o e => hk b o (fun q => by rw [List.mem_singleton.mp q, hs₀] at e; cases e) (Ii.fut.ext b o e), Ii.fut.os, Ii.fut.gens, Ii.fut.bare⟩, same := fun hp => let ⟨_, _, e⟩ := Ii.same hp; ⟨h', tk, by rw [e]⟩,
             amb := Ii.amb, gr := Ii.gr, kind := Ii.kind, glob := Ii.glob, blt := Ii.blt, alive := ?_, sub := hm, fresh := Ii.fresh, locals := ⟨Ii.locals.1, ?_⟩, cells := ?_, apart := Ii.apart, vars := ?_ }
    · intro b hb
      obtain ⟨o, e⟩ := Ii.alive b (List.mem_cons_of_mem _ hb)
      exact ⟨o, hk b o (fun q => hI (List.mem_singleton.mp q ▸ hb)) e⟩
    · obtain ⟨m, e⟩ := Ii.locals.2
      exact ⟨m, e.at' fun o q => hk _ o (fun z => hLI (List.mem_singleton.mp z)) q⟩
    · intro x b hb
      obtain ⟨p, q, v, o, e, r⟩ := Ii.cells x b hb
      exact ⟨hcl x b hb, q, v, o, hk b o (fun z => hI (List.mem_singleton.mp z ▸ hcl x b hb)) e, r⟩
    · intro x d hd
      obtain ⟨v, r, i⟩ := Ii.vars x d hd
      refine ⟨v, ?_, i.ext fun b o e => hideAll_get _ (hk b o (fun z => hid_not e (by rw [List.mem_singleton.mp z]; exact List.mem_cons_self)) (of_hideAll _ e)) fun z => hid_not e (List.mem_cons_of_mem _ z)⟩
      rcases r with ⟨k, m, e, f⟩ | ⟨k, b, e, o, f, g⟩
      · exact .inl ⟨k, m, e.at' fun o q => hk _ o (fun z => hLI (List.mem_singleton.mp z)) q, f⟩
      · exact .inr ⟨k, b, e, o, hk _ o (fun z => hI (List.mem_singleton.mp z ▸ hcl x b (mem_of_lookup e))) f, g⟩
end

section
variable {c : Cx} {σ : Vars} {s : Shared} {Q : Flow → Shared → Prop} {rest : List Stmt}
/-- a for over what an expression hands out -/
theorem x_for {x : Str} {px pos : Pos} {iter : Expr} {body : List Stmt} {d : D} {n : Nat} {it : Nat → D} {E : Value → Shared → Prop} (I : In c σ s) (hx : Sto c x) (he : Ev c σ iter d)
    (hit : ∀ s v, In c σ s → Is (hideAll s.heap c.H) d v → Itr c s v n it)
    (J : Nat → Vars → Prop) (hJ : J 0 σ)
    (hbody : ∀ i σ I s1 s2, i < n → J i σ → In (c.turn I s1) ((x, it i) :: σ) s2 → (∀ σ' s', In (c.turn I s1) σ' s' → In c σ' s') →
      wpAny (model c.prog c.w) c.A (execs body c.env) (fun f s' => match f with
        | .next | .cont => ∃ σ', J (i + 1) σ' ∧ In (c.turn I s1) σ' s'
        | .brk => wpAny (model c.prog c.w) c.A (execs rest c.env) Q E s'
        | .ret v => Q (.ret v) s') (fun _ _ => False) s2)
    (done : ∀ σ s', J n σ → In c σ s' → wpAny (model c.prog c.w) c.A (execs rest c.env) Q E s')
    (hs : ∀ x, foldedSetIterable iter c.env x = pure x := by intro _; rfl) :
    wpAny (model c.prog c.w) c.A (execs (.For (.Name x px) iter body [] pos :: rest) c.env) Q E s := by
  refine wpAny_execs_cons (wpAny_For (he s I _ _ fun v s1 f1 i1 => ?_) hs)
  have I1 := I.to f1
  refine hit s1 v I1 i1 _ _ fun Ia s2 f2 hn ho S => ?_
  obtain ⟨I2, hI, hs₀⟩ := I1.ins f2 hn ho
  refine for_walk (σ₀ := σ) (g := hideAll s1.heap c.H) hI hs₀ I.sub (fun x b h => (I.cells x b h).1) hx I2 (fun b o e => f2.ext b o (of_hideAll _ e)) (fun b o e q => ?_) S J hJ ?_ ?_
  · rcases List.mem_cons.mp q with rfl | q
    · rw [of_hideAll _ e] at hn; cases hn
    · exact hid_not e q
  · intro i σ' t1 t2 hlt hJi It back
    refine wpAny_mono (hbody i σ' Ia t1 t2 hlt hJi It back) (fun f s' h => ?_) fun _ _ h => h
    cases f <;> exact h
  · exact done

theorem x_while {test : Expr} {body : List Stmt} {pos : Pos} {E : Value → Shared → Prop} (I : In c σ s) (J : Nat → Vars → Prop) {k₀ : Nat} (hJ : J k₀ σ)
    (hturn : ∀ k σ, J k σ → ∃ b, Tst c σ test b ∧
      (b = true → ∀ s, In c σ s → wpAny (model c.prog c.w) c.A (execs body c.env) (fun f s' => match f with
        | .next | .cont => ∃ k' σ', k' < k ∧ J k' σ' ∧ In c σ' s'
        | .brk => wpAny (model c.prog c.w) c.A (execs rest c.env) Q E s'
        | .ret v => Q (.ret v) s') (fun _ _ => False) s) ∧
      (b = false → ∀ s, In c σ s → wpAny (model c.prog c.w) c.A (execs rest c.env) Q E s)) :
    wpAny (model c.prog c.w) c.A (execs (.While test body [] pos :: rest) c.env) Q E s := by
  refine wpAny_execs_cons (wpAny_While (codeAny_whileLoop (fun k s' => ∃ σ, J k σ ∧ In c σ s') ?_ k₀ ⟨σ, hJ, I⟩))
  rintro k s' ⟨σ', hJ', I'⟩
  obtain ⟨b, ht, h1, h2⟩ := hturn k σ' hJ'
  refine ht s' I' _ _ fun s2 f2 => ?_
  cases b with
  | true =>
    rw [if_pos rfl]
    refine wpAny_mono (h1 rfl s2 (I'.to f2)) (fun f s3 h3 => ?_) fun _ _ h => h.elim
    have fin : (∃ k' σ', k' < k ∧ J k' σ' ∧ In c σ' s3) → ∃ m, m < k ∧ ∃ σ, J m σ ∧ In c σ s3 := fun ⟨k', σ', a, b, d⟩ => ⟨k', a, σ', b, d⟩
    cases f with
    | next => exact fin h3
    | cont => exact fin h3
    | brk => exact h3
    | ret v => exact h3
  | false =>
    rw [if_neg Bool.false_ne_true]
    exact wpAny_execs_nil (h2 rfl s2 (I'.to f2))
end

-- sources
section
variable {c : Cx} {s : Shared}
theorem itr_list {ds : List D} {v : Value} (hA : c.A.handled = none) (i : Is (hideAll s.heap c.H) (.list ds) v) : Itr c s v ds.length (fun j => ds.getD j .none) := fun Q E k => by
  obtain ⟨l, vs, rfl, hl, ha⟩ := i.list_inv
  have hl' := isList_ext hid_of hl
  refine wpAny_pyIter_list hl' ?_
  obtain ⟨o, ho, _⟩ := id hl
  have hlH : l ∉ c.H := hid_not ho
  have hlt : l < s.heap.objs.size := Heap.lt_size (of_hideAll _ ho)
  have W := Walks.list (prog := c.prog) (w := c.w) hA s.heap.objs.size l (Nat.ne_of_lt hlt) vs.toArray
  have hn : vs.toArray.size = ds.length := by rw [List.size_toArray, ha.length]
  rw [hn] at W
  refine k _ _ (Kp.heap (Ext.push _ _)) ?_ ⟨_, Heap.get?_push_size _ rfl⟩ ⟨_, _, _, W, fun j h x => ?_, fun j v hj hv => ?_, ⟨⟨_, Heap.get?_push_size _ rfl, rfl, rfl⟩, hl'.push _⟩, fun b hb => ?_, fun b hb => ?_⟩
  · cases e : s.heap.get? s.heap.objs.size with
    | none => rfl
    | some o => exact absurd (Heap.lt_size e) (Nat.lt_irrefl _)
  · obtain ⟨⟨o, e, _⟩, _⟩ := x; exact ⟨o, e⟩
  · obtain ⟨v', hv', iv⟩ := ha.get j (ds.getD j .none) (by simp [List.getD, hj])
    have : vs.toArray[j]? = some v' := by simpa using hv'
    rw [this] at hv; cases hv; exact iv
  · rcases List.mem_cons.mp hb with rfl | hb
    · exact .inl rfl
    · exact .inr (List.mem_singleton.mp hb ▸ hlH)
  · rcases List.mem_cons.mp hb with rfl | hb
    · exact ⟨_, Heap.get?_push_size _ rfl⟩
    · obtain ⟨o, e, _⟩ := hl'; rw [List.mem_singleton.mp hb]; exact ⟨o, Heap.get?_push_of_some _ e⟩

theorem itr_range {a b st : Int} {n : Nat} {v : Value} (hA : c.A.handled = none) (hsm : Builtin.Range.small a b st = true) (hn : Builtin.Range.rangeSize a b st = n) (i : Is (hideAll s.heap c.H) (.range a b st) v) :
    Itr c s v n (fun j => .int (a + j * st)) := fun Q E k => by
  cases i with
  | range hr =>
    refine wpAny_pyIter_range (hid_of _ _ hr) hsm ?_
    refine k _ _ (Kp.heap (Ext.push _ _)) ?_ ⟨_, Heap.get?_push_size _ rfl⟩ ⟨_, _, _, Walks.range hA _ a st n, fun j h x => ⟨_, x⟩, ?_, ?_, fun b hb => .inl (List.mem_singleton.mp hb), fun b hb => ⟨_, List.mem_singleton.mp hb ▸ Heap.get?_push_size _ rfl⟩⟩
    · cases e : s.heap.get? s.heap.objs.size with
      | none => rfl
      | some o => exact absurd (Heap.lt_size e) (Nat.lt_irrefl _)
    · rintro j v hj ⟨t, rfl⟩; exact .int _ t
    · show IsRangeIter _ _ (a + ((0 : Nat) : Int) * st) ((n : Int) - ((0 : Nat) : Int)) st
      have e1 : a + ((0 : Nat) : Int) * st = a := by simp
      have e2 : (n : Int) - ((0 : Nat) : Int) = Builtin.Range.rangeSize a b st := by rw [hn]; simp
      rw [e1, e2]
      exact Heap.get?_push_size _ rfl

theorem itr_bytes {b : Array UInt8} {v : Value} (hA : c.A.handled = none) (i : Is (hideAll s.heap c.H) (.bytes b) v) : Itr c s v b.size (fun j => .int ((b.getD j 0).toNat : Int)) := fun Q E k => by
  obtain ⟨t, rfl⟩ := i.bytes_inv
  refine KBw.pyIter_bytes (k _ _ (Kp.heap (Ext.push _ _)) ?_ ⟨_, Heap.get?_push_size _ rfl⟩ ⟨_, _, _, KBw.walks hA _ b t, fun j h x => ?_, ?_, ⟨_, Heap.get?_push_size _ rfl, rfl, rfl⟩, fun b hb => .inl (List.mem_singleton.mp hb), fun b hb => ⟨_, List.mem_singleton.mp hb ▸ Heap.get?_push_size _ rfl⟩⟩)
  · cases e : s.heap.get? s.heap.objs.size with
    | none => rfl
    | some o => exact absurd (Heap.lt_size e) (Nat.lt_irrefl _)
  · obtain ⟨o, e, _⟩ := x; exact ⟨o, e⟩
  · rintro j v hj ⟨x, u, hx, rfl⟩
    have : b.getD j 0 = x := by simp [Array.getD, hj]; simpa [hj] using hx
    show Is _ (D.int ((b.getD j 0).toNat : Int)) _
    rw [this]; exact .int _ u
end


noncomputable def closL (cells : List (Str × Addr)) : List (Str × NameKind) → List (Str × Addr) → List (Str × Addr)
  | [], acc => acc
  | (n, k) :: r, acc => if k == .free then closL cells r ((n, (cells.lookup n).getD 0) :: acc) else closL cells r acc

theorem closureFor_closL {scope : Scope} {env : Env} (h : (scope.names.all fun p => !(p.2 == .free) || (env.cells.lookup p.1).isSome) = true) : closureFor scope env = pure (closL env.cells scope.names []) := by
  unfold closureFor
  have key : ∀ (names : List (Str × NameKind)) (acc : List (Str × Addr)), (names.all fun p => !(p.2 == .free) || (env.cells.lookup p.1).isSome) = true →
      (forIn names acc fun x r => match x with | (name, kind) => if (kind == NameKind.free) = true then do let __do_lift ← cellOf env name; pure (ForInStep.yield ((name, __do_lift) :: r)) else pure (ForInStep.yield r) : Sem (List (Str × Addr))) = pure (closL env.cells names acc) := by
    intro names
    induction names with
    | nil => intro acc _; rfl
    | cons p r ih =>
      intro acc hp
      obtain ⟨n, k⟩ := p
      rw [List.all_cons, Bool.and_eq_true] at hp
      rw [List.forIn_cons]
      unfold closL
      cases hk : k == NameKind.free with
      | false => simp only [hk, Bool.false_eq_true, if_false]; exact ih acc hp.2
      | true =>
        simp only [hk, if_true]
        have h1 := hp.1
        simp only [hk, Bool.not_true, Bool.false_or] at h1
        obtain ⟨a, ha⟩ := Option.isSome_iff_exists.mp h1
        unfold cellOf
        simp only [ha]
        exact ih _ hp.2
  show (forIn scope.names [] _ >>= fun r => pure r) = _
  rw [key _ [] h]; rfl

theorem closL_get {cells : List (Str × Addr)} {x : Str} {a : Addr} (hx : cells.lookup x = some a) : ∀ (names : List (Str × NameKind)) (acc : List (Str × Addr)), names.lookup x = some .free ∨ acc.lookup x = some a → (closL cells names acc).lookup x = some a
  | [], acc, h => by
    rcases h with h | h
    · simp at h
    · exact h
  | (n, k) :: r, acc, h => by
    unfold closL
    by_cases hk : (k == NameKind.free) = true
    · rw [if_pos hk]
      by_cases hn : (x == n) = true
      · have := eq_of_beq hn; subst this
        exact closL_get hx r _ (.inr (by rw [List.lookup_cons, hn, hx]; rfl))
      · refine closL_get hx r _ ?_
        rcases h with h | h
        · rw [List.lookup_cons] at h; simp only [hn] at h; exact .inl h
        · right; rw [List.lookup_cons]; simp only [hn]; exact h
    · rw [if_neg hk]
      refine closL_get hx r _ ?_
      rcases h with h | h
      · rw [List.lookup_cons] at h
        cases hn : x == n with
        | true => rw [hn] at h; cases h; exact absurd rfl hk
        | false => rw [hn] at h; exact .inl h
      · exact .inr h
theorem closL_mem {cells : List (Str × Addr)} {x : Str} {a : Addr} : ∀ (names : List (Str × NameKind)) (acc : List (Str × Addr)), (names.all fun p => !(p.2 == .free) || (cells.lookup p.1).isSome) = true → (x, a) ∈ closL cells names acc → (x, a) ∈ cells ∨ (x, a) ∈ acc
  | [], acc, _, h => .inr h
  | (n, k) :: r, acc, hp, h => by
    rw [List.all_cons, Bool.and_eq_true] at hp
    unfold closL at h
    by_cases hk : (k == NameKind.free) = true
    · rw [if_pos hk] at h
      rcases closL_mem r _ hp.2 h with h | h
      · exact .inl h
      · rcases List.mem_cons.mp h with e | h
        · have h1 := hp.1
          simp only [hk, Bool.not_true, Bool.false_or] at h1
          obtain ⟨b, hb⟩ := Option.isSome_iff_exists.mp h1
          rw [hb] at e; cases e
          exact .inl (mem_of_lookup hb)
        · exact .inr h
    · rw [if_neg hk] at h
      exact closL_mem r acc hp.2 h

theorem lookup_relabel_free {env : Env} : ∀ {names : List (Str × NameKind)} {x : Str}, names.lookup x = some .free →
    (names.map fun (n, k) => if (k == NameKind.free && env.scope.kind == .function && env.kindOf n == some .cell) then (n, NameKind.cell) else (n, k)).lookup x = some .cell ∨
    (names.map fun (n, k) => if (k == NameKind.free && env.scope.kind == .function && env.kindOf n == some .cell) then (n, NameKind.cell) else (n, k)).lookup x = some .free
  | [], x, h => by simp at h
  | (n, k) :: r, x, h => by
    rw [List.lookup_cons] at h
    show List.lookup x ((if (k == NameKind.free && env.scope.kind == .function && env.kindOf n == some .cell) = true then (n, NameKind.cell) else (n, k)) :: _) = _ ∨
      List.lookup x ((if (k == NameKind.free && env.scope.kind == .function && env.kindOf n == some .cell) = true then (n, NameKind.cell) else (n, k)) :: _) = _
    cases hx : x == n with
    | true =>
      rw [hx] at h; cases h
      split
      · exact .inl (by rw [List.lookup_cons, hx])
      · exact .inr (by rw [List.lookup_cons, hx])
    | false =>
      rw [hx] at h
      have ih := lookup_relabel_free (env := env) h
      split
      · rw [List.lookup_cons, hx]; exact ih
      · rw [List.lookup_cons, hx]; exact ih

noncomputable abbrev Cx.comp (c : Cx) (scope : Scope) (C Da : Addr) (s : Shared) : Cx :=
  { c with env := compEnvC scope (closL c.env.cells scope.names []) C c.env, H := C :: Da :: c.H, m := [C, Da], pure := true, s₀ := s }

noncomputable def freeVars (scope : Scope) (σ : Vars) : Vars := σ.filter fun p => scope.names.lookup p.1 == some .free && !(p.1 == ("__classdict__" : Str))
theorem freeVars_get {scope : Scope} : ∀ {σ : Vars} {x : Str} {d : D}, (freeVars scope σ).lookup x = some d → σ.lookup x = some d ∧ scope.names.lookup x = some .free ∧ (x == ("__classdict__" : Str)) = false
  | [], x, d, h => by simp [freeVars] at h
  | (y, e) :: r, x, d, h => by
    unfold freeVars at h
    rw [List.filter_cons] at h
    by_cases hp : (scope.names.lookup y == some .free && !(y == ("__classdict__" : Str))) = true
    · rw [if_pos hp, List.lookup_cons] at h
      rw [List.lookup_cons]
      cases hx : x == y with
      | true =>
        rw [hx] at h; cases h
        have := eq_of_beq hx; subst this
        rw [Bool.and_eq_true] at hp
        exact ⟨rfl, by simpa using hp.1, by simpa using hp.2⟩
      | false => rw [hx] at h; exact freeVars_get (σ := r) h
    · rw [if_neg hp] at h
      have := freeVars_get (σ := r) h
      refine ⟨?_, this.2⟩
      rw [List.lookup_cons]
      cases hx : x == y with
      | true =>
        have := eq_of_beq hx; subst this
        exact absurd (by rw [Bool.and_eq_true]; exact ⟨by simp [this.2.1], by simp [this.2.2]⟩) hp
      | false => exact this.1

structure CS (c : Cx) (Da : Addr) (σ : Vars) (ds : List D) (s : Shared) : Prop where
  inn : In c σ s
  acc : ∃ vs : List Value, s.heap.IsList Da vs.toArray ∧ IsAll (hideAll s.heap c.H) ds vs
theorem CS.to {c : Cx} {Da : Addr} {σ : Vars} {ds : List D} {s s' : Shared} (x : CS c Da σ ds s) (f : Kp s s') : CS c Da σ ds s' :=
  ⟨x.inn.to f, let ⟨vs, a, b⟩ := x.acc; ⟨vs, isList_ext f.ext a, b.ext (hid_ext f.ext)⟩⟩

inductive LpC (n : Nat) (J : Nat → Vars → List D → Prop) (c : Cx) (Da : Addr) (St : Nat → Heap → Prop) (g : Heap) (k : Nat) (s' : Shared) : Prop
  | mk (i : Nat) (σ : Vars) (ds : List D) (hi : i ≤ n) (hk : k = n + 1 - i) (hJ : J i σ ds) (hC : CS c Da σ ds s') (hS : St i s'.heap) (hg : Ext g s'.heap)


theorem In.store_cellD {c : Cx} {σ : Vars} {s : Shared} {x : Str} {a : Addr} {v : Value} {d : D} {Q : Unit → Shared → Prop} {E : Value → Shared → Prop} (I : In c σ s)
    (hx : c.env.kindOf x = some .cell) (hc : c.env.cells.lookup x = some a) (ha : a ∈ c.m) (i : Is (hideAll s.heap c.H) d v) (k : ∀ s', In c ((x, d) :: σ) s' → (∀ b, b ≠ a → s'.heap.get? b = s.heap.get? b) → Q () s') :
    wpAny (model c.prog c.w) c.A (storeName c.env x v) Q E s := by
  obtain ⟨hLm, m, hm⟩ := I.locals
  have haH := I.sub _ ha
  obtain ⟨_, hne, v₀, hv₀⟩ := I.cells x a (mem_of_lookup hc)
  refine wpAny_storeName_cell I.kind hx hc hv₀ fun h' hn hs => k _ ?_ hs.2
  have but : ∀ b o, b ∉ c.H → s.heap.get? b = some o → h'.get? b = some o := fun b o hb e => (hs.2 b fun q => hb (q ▸ haH)).trans e
  have hid := hid_extBut but
  refine { fut := futBut I.fut (I.fresh _ ha) hs.2, same := fun h => let ⟨h1, tk1, e⟩ := I.same h; ⟨h', _, by rw [e]⟩, amb := I.amb, gr := I.gr, kind := I.kind, glob := I.glob, blt := I.blt, alive := ?_, sub := I.sub, fresh := I.fresh, locals := ⟨hLm, m, hm.sameBut hs (Ne.symm hne)⟩, cells := ?_, apart := I.apart, vars := ?_ }
  · intro b hb
    by_cases e : b = a
    · obtain ⟨o, ho, _⟩ := hn; exact ⟨o, e ▸ ho⟩
    · obtain ⟨o, ho⟩ := I.alive b hb; exact ⟨o, (hs.2 b e).trans ho⟩
  · intro y b hy
    obtain ⟨p, q, v, r⟩ := I.cells y b hy
    by_cases e : b = a
    · exact ⟨p, q, _, e ▸ hn⟩
    · exact ⟨p, q, v, r.sameBut hs e⟩
  · intro y d' e
    rw [List.lookup_cons] at e
    cases hb : y == x with
    | true =>
      rw [hb] at e; cases e
      have := eq_of_beq hb; subst this
      exact ⟨v, .inr ⟨.inl hx, a, hc, hn⟩, i.ext hid⟩
    | false =>
      rw [hb] at e
      have hne' : y ≠ x := fun q => by rw [q] at hb; simp at hb
      obtain ⟨v', r, i'⟩ := I.vars y d' e
      refine ⟨v', ?_, i'.ext hid⟩
      rcases r with ⟨p, m', hm', e'⟩ | ⟨p, b, e', f⟩
      · exact .inl ⟨p, m', hm'.sameBut hs (Ne.symm hne), e'⟩
      · refine .inr ⟨p, b, e', f.sameBut hs fun q => hne' ?_⟩
        exact I.apart x a y b (mem_of_lookup hc) (mem_of_lookup e') ha q

theorem In.storeD {c : Cx} {σ : Vars} {s : Shared} {x : Str} {v : Value} {d : D} {Da : Addr} {Q : Unit → Shared → Prop} {E : Value → Shared → Prop} (I : In c σ s)
    (hx : Sto c x) (hDL : Da ≠ c.env.locals) (hDc : ∀ x b, (x, b) ∈ c.env.cells → b ≠ Da) (i : Is (hideAll s.heap c.H) d v)
    (k : ∀ s', In c ((x, d) :: σ) s' → Ext (hideAll s.heap c.H) (hideAll s'.heap c.H) → s'.heap.get? Da = s.heap.get? Da → Q () s') :
    wpAny (model c.prog c.w) c.A (storeName c.env x v) Q E s := by
  rcases hx with hx | ⟨hx, a, hc, ha⟩
  · exact I.store_local hx i fun s' I' hb => k s' I' (hid_extBut fun b o hH e => (hb b fun q => hH (q ▸ I.sub _ I.locals.1)).trans e) (hb Da hDL)
  · refine I.store_cellD hx hc ha i fun s' I' hb => k s' I' (hid_extBut fun b o hH e => (hb b fun q => hH (q ▸ I.sub _ ha)).trans e) (hb Da fun q => hDc x a (mem_of_lookup hc) q.symm)

section
variable {c : Cx} {s : Shared} {I Da : Addr} {n : Nat} {it : Nat → D} {g : Heap} {σ₀ : Vars} {ds₀ : List D}

/-- one level of a list comprehension -/
theorem comp_walkC {R : Result → Shared → Prop} {elt : Expr} {gens : List Comprehension} {scope : Scope} {pos : Pos} {dp : Nat} {x : Str} {px ipos : Pos} {post : Sem Fin} (hI : I ∉ c.H) (hs₀ : c.s₀.heap.get? I = none) (hDH : Da ∈ c.H) (hDL : Da ≠ c.env.locals)
    (hm : ∀ b ∈ c.m, b ∈ c.H) (hcl : ∀ x b, (x, b) ∈ c.env.cells → b ∈ c.H) (hDc : ∀ x b, (x, b) ∈ c.env.cells → b ≠ Da) (hx : Sto c x)
    (hcode : compTurn (.ListComp elt gens scope pos) dp (.ref I) (.ref Da) c.env = (standAt ipos >>= fun _ => pyNext (.ref I) >>= fun r => match r with
      | none => pure (.done .next)
      | some v => letOwnedTupleGo (.Name x px) (.ref I) v >>= fun _ => assign (.Name x px) c.env v >>= fun _ => post))
    (I₀ : CS (c.more I) Da σ₀ ds₀ s) (hg : Ext g s.heap) (hgn : ∀ b o, g.get? b = some o → b ∉ I :: c.H) (S : Src c.prog c.w c.A I n c.H g it s.heap)
    (J : Nat → Vars → List D → Prop) (hJ : J 0 σ₀ ds₀)
    (hturn : ∀ i σ ds s1 s2, i < n → J i σ ds → CS (c.turn I s1) Da ((x, it i) :: σ) ds s2 →
      wpAny (model c.prog c.w) c.A post (fun fin s' => fin = .again (.compLoop (.ListComp elt gens scope pos) dp (.ref I) (.ref Da) c.env) ∧ ∃ σ' ds', J (i + 1) σ' ds' ∧ CS (c.turn I s1) Da σ' ds' s') (fun _ _ => False) s2)
    (done : ∀ σ ds s', J n σ ds → CS c Da σ ds s' → R (.ok .next) s') :
    codeAny (model c.prog c.w) c.A (.compLoop (.ListComp elt gens scope pos) dp (.ref I) (.ref Da) c.env) R s := by
  obtain ⟨fp, P, St, W, hob, hP, hst, hfp, _⟩ := S
  have hLI : c.env.locals ≠ I := fun q => hI (q ▸ hm _ I₀.inn.locals.1)
  have hmI : I ∉ c.m := fun q => hI (hm _ q)
  have hDI : Da ≠ I := fun q => hI (q ▸ hDH)
  refine codeAny_loop rfl (LpC n J (c.more I) Da St g) (fun k s' hI' => ?_) (n + 1) ⟨0, σ₀, ds₀, Nat.zero_le _, rfl, hJ, I₀, hst, hg⟩
  obtain ⟨i, σ, ds, hi, rfl, hJi, Ci, hSi, hgi⟩ := hI'
  show wpAny _ c.A ((compTurn (.ListComp elt gens scope pos) dp (.ref I) (.ref Da) c.env).onRaise (fun x => do noteFrame x c.env; theTreesLotGoes x)) _ _ s'
  refine wpAny_noted ?_
  rw [hcode]
  refine wpAny_bind (wpAny_standAt (wpAny_bind ?_))
  have Ii := Ci.inn
  by_cases hlt : i < n
  · refine W.item i s' _ _ hlt hSi fun v h' tk hv hS' hk => ?_
    have hkD : ∀ b o, b ≠ I → s'.heap.get? b = some o → h'.get? b = some o := fun b o hb e => hk b o (fun q => hb (List.mem_singleton.mp q)) e
    have I1 : In (c.more I) σ { s' with heap := h', toks := tk } := Ii.upd List.mem_cons_self hs₀ (Ne.symm hLI) (fun x b hb q => hI (q ▸ hcl x b hb)) hkD (hob _ _ hS')
    have hg1 : Ext g h' := fun b o e => hk b o (fun q => hgn b o e (by rw [List.mem_singleton.mp q]; exact List.mem_cons_self)) (hgi b o e)
    have It := I1.turn
    obtain ⟨vs, hvs, hall⟩ := Ci.acc
    have hacc1 : (h').IsList Da vs.toArray ∧ IsAll (hideAll h' (I :: c.H)) ds vs :=
      ⟨let ⟨o, e, r⟩ := hvs; ⟨o, hkD _ _ hDI e, r⟩, hall.ext (hid_extBut fun b o hb e => hkD b o (fun q => hb (q ▸ List.mem_cons_self)) e)⟩
    refine wpAny_bind (wpAny_of_eq (a := ()) rfl (wpAny_bind (wpAny_assign_Name (It.storeD (c := c.turn I _) hx hDL hDc ((hP i v hlt hv).ext fun b o e => hideAll_get _ (hg1 b o e) (hgn b o e)) fun s2 I2 he2 hb2 => ?_))))
    have hLH : c.env.locals ∈ c.H := hm _ I₀.inn.locals.1
    have C2 : CS (c.turn I ({ s' with heap := h', toks := tk } : Shared)) Da ((x, it i) :: σ) ds s2 :=
      ⟨I2, vs, let ⟨o, e, r⟩ := hacc1.1; ⟨o, hb2.trans e, r⟩, hacc1.2.ext he2⟩
    refine wpAny_mono (hturn i σ ds _ s2 hlt hJi C2) (fun fin s3 h3 => ?_) fun _ _ q => q.elim
    obtain ⟨rfl, σ', ds', hJ', C3⟩ := h3
    have I3 := C3.inn
    have hkeep : Ext (hideAll h' c.m) s3.heap := I3.fut.ext
    refine ⟨rfl, n + 1 - (i + 1), by omega, i + 1, σ', ds', hlt, rfl, hJ', ⟨I1.unturn I3, C3.acc⟩, ?_, fun b o e => hkeep b o (hideAll_get _ (hg1 b o e) fun q => hgn b o e (List.mem_cons_of_mem _ (hm _ q)))⟩
    refine W.frame _ _ _ hS' fun b hb o e => hkeep b o (hideAll_get _ e fun q => ?_)
    rcases hfp b hb with rfl | hb'
    · exact hmI q
    · exact hb' (hm _ q)
  · have : i = n := by omega
    subst this
    refine W.done s' _ _ hSi fun h' tk hk => ?_
    refine wpAny_pure (done σ ds _ hJi ⟨?_, ?_⟩)
    · refine { fut := ⟨fun b o e => hk b o (fun q => by rw [List.mem_singleton.mp q, hs₀] at e; cases e) (Ii.fut.ext b o e), Ii.fut.os, Ii.fut.gens, Ii.fut.bare⟩, same := fun hp => let ⟨_, _, e⟩ := Ii.same hp; ⟨h', tk, by rw [e]⟩,
               amb := Ii.amb, gr := Ii.gr, kind := Ii.kind, glob := Ii.glob, blt := Ii.blt, alive := ?_, sub := hm, fresh := Ii.fresh, locals := ⟨Ii.locals.1, ?_⟩, cells := ?_, apart := Ii.apart, vars := ?_ }
      · intro b hb
        obtain ⟨o, e⟩ := Ii.alive b (List.mem_cons_of_mem _ hb)
        exact ⟨o, hk b o (fun q => hI (List.mem_singleton.mp q ▸ hb)) e⟩
      · obtain ⟨m, e⟩ := Ii.locals.2
        exact ⟨m, e.at' fun o q => hk _ o (fun z => hLI (List.mem_singleton.mp z)) q⟩
      · intro x b hb
        obtain ⟨p, q, v, o, e, r⟩ := Ii.cells x b hb
        exact ⟨hcl x b hb, q, v, o, hk b o (fun z => hI (List.mem_singleton.mp z ▸ hcl x b hb)) e, r⟩
      · intro x d hd
        obtain ⟨v, r, i⟩ := Ii.vars x d hd
        refine ⟨v, ?_, i.ext fun b o e => hideAll_get _ (hk b o (fun z => hid_not e (by rw [List.mem_singleton.mp z]; exact List.mem_cons_self)) (of_hideAll _ e)) fun z => hid_not e (List.mem_cons_of_mem _ z)⟩
        rcases r with ⟨k, m, e, f⟩ | ⟨k, b, e, o, f, g⟩
        · exact .inl ⟨k, m, e.at' fun o q => hk _ o (fun z => hLI (List.mem_singleton.mp z)) q, f⟩
        · exact .inr ⟨k, b, e, o, hk _ o (fun z => hI (List.mem_singleton.mp z ▸ hcl x b (mem_of_lookup e))) f, g⟩
    · obtain ⟨vs, ⟨o, e, r⟩, hall⟩ := Ci.acc
      exact ⟨vs, ⟨o, hk _ _ (fun q => hDI (List.mem_singleton.mp q)) e, r⟩, hall.ext fun b o e => hideAll_get _ (hk b o (fun z => hid_not e (by rw [List.mem_singleton.mp z]; exact List.mem_cons_self)) (of_hideAll _ e)) fun z => hid_not e (List.mem_cons_of_mem _ z)⟩

/-- what a turn gives out -/
theorem cs_append {σ : Vars} {ds : List D} {d : D} {v : Value} {Q E : Value → Shared → Prop} (C : CS c Da σ ds s) (hDm : Da ∈ c.m) (hDL : Da ≠ c.env.locals) (hDc : ∀ x b, (x, b) ∈ c.env.cells → b ≠ Da)
    (i : Is (hideAll s.heap c.H) d v) (hz : ds.length ≤ sizeLine) (k : ∀ u s', CS c Da σ (ds ++ [d]) s' → Q u s') :
    wpAny (model c.prog c.w) c.A (call (.builtin "list.append") [.ref Da, v]) Q E s := by
  obtain ⟨vs, hvs, hall⟩ := C.acc
  have hDH := C.inn.sub _ hDm
  refine wpAny_list_append (hsz := by rw [List.size_toArray, hall.length]; exact hz) hvs fun h' hl' hs' => k _ _ ⟨?_, vs ++ [v], ?_, ?_⟩
  · exact C.inn.upd (tk := s.toks) hDH (C.inn.fresh _ hDm) hDL hDc (fun b o hb e => (hs'.2 b hb).trans e) (let ⟨o, e, _⟩ := hl'; ⟨o, e⟩)
  · have : vs.toArray.push v = (vs ++ [v]).toArray := by simp
    exact this ▸ hl'
  · exact (hall.append (.cons i .nil)).ext (hid_extBut fun b o hb e => (hs'.2 b fun q => hb (q ▸ hDH)).trans e)
end

noncomputable abbrev testsOf (ifs : List Expr) (env : Env) : Sem Bool := forIn ifs true fun c r => if r = true then do let ok ← isTrue c env (eval c env); pure (ForInStep.yield ok) else pure (ForInStep.yield r)
noncomputable abbrev emitOf (elt : Expr) (acc : Value) (env : Env) (C : Code) : Sem Fin := (eval elt env >>= fun v => call (.builtin "list.append") [acc, v] >>= fun _ => pure ()) >>= fun (_ : Unit) => again C

theorem compTurn_1 (elt iter : Expr) (x : Str) (px : Pos) (ifs : List Expr) (scope : Scope) (pos : Pos) (it acc : Value) (env : Env) :
    compTurn (.ListComp elt [⟨.Name x px, iter, ifs, 0⟩] scope pos) 0 it acc env = (standAt iter.pos >>= fun _ => pyNext it >>= fun r => match r with
      | none => pure (.done .next)
      | some v => letOwnedTupleGo (.Name x px) it v >>= fun _ => assign (.Name x px) env v >>= fun _ =>
        (testsOf ifs env >>= fun ok => if ok = true then emitOf elt acc env (.compLoop (.ListComp elt [⟨.Name x px, iter, ifs, 0⟩] scope pos) 0 it acc env)
          else again (.compLoop (.ListComp elt [⟨.Name x px, iter, ifs, 0⟩] scope pos) 0 it acc env))) := by
  rfl
theorem compTurn_20 (elt iter iter2 : Expr) (x y : Str) (px py : Pos) (ifs : List Expr) (scope : Scope) (pos : Pos) (it acc : Value) (env : Env) :
    compTurn (.ListComp elt [⟨.Name x px, iter, [], 0⟩, ⟨.Name y py, iter2, ifs, 0⟩] scope pos) 0 it acc env = (standAt iter.pos >>= fun _ => pyNext it >>= fun r => match r with
      | none => pure (.done .next)
      | some v => letOwnedTupleGo (.Name x px) it v >>= fun _ => assign (.Name x px) env v >>= fun _ =>
        (eval iter2 env >>= fun w => standAt iter2.pos >>= fun _ => foldedSetIterable iter2 env w >>= fun w => holding [w] (pyIter w) >>= fun it2 =>
          runOwn (.compStart (.ListComp elt [⟨.Name x px, iter, [], 0⟩, ⟨.Name y py, iter2, ifs, 0⟩] scope pos) 1 it2 acc env) env >>= fun _ =>
          again (.compLoop (.ListComp elt [⟨.Name x px, iter, [], 0⟩, ⟨.Name y py, iter2, ifs, 0⟩] scope pos) 0 it acc env))) := by
  rfl
theorem compTurn_21 (elt iter iter2 : Expr) (x y : Str) (px py : Pos) (ifs : List Expr) (scope : Scope) (pos : Pos) (it acc : Value) (env : Env) :
    compTurn (.ListComp elt [⟨.Name x px, iter, [], 0⟩, ⟨.Name y py, iter2, ifs, 0⟩] scope pos) 1 it acc env = (standAt iter2.pos >>= fun _ => pyNext it >>= fun r => match r with
      | none => pure (.done .next)
      | some v => letOwnedTupleGo (.Name y py) it v >>= fun _ => assign (.Name y py) env v >>= fun _ =>
        (testsOf ifs env >>= fun ok => if ok = true then emitOf elt acc env (.compLoop (.ListComp elt [⟨.Name x px, iter, [], 0⟩, ⟨.Name y py, iter2, ifs, 0⟩] scope pos) 1 it acc env)
          else again (.compLoop (.ListComp elt [⟨.Name x px, iter, [], 0⟩, ⟨.Name y py, iter2, ifs, 0⟩] scope pos) 1 it acc env))) := by
  rfl

section
variable {prog : Program} {w : World} {A : Around} {E : Value → Shared → Prop} {R : Result → Shared → Prop} {s : Shared}
theorem codeAny_compStart_1 {elt : Expr} {g0 g1 : Comprehension} {scope pos it acc env} (h1 : g1.is_async = 0)
    (h0 : codeAny (model prog w) A (.compLoop (.ListComp elt [g0, g1] scope pos) 1 it acc env) R s)
    (h : wpAny (model prog w) A (pyIter it) (fun it' s' => codeAny (model prog w) A (.compLoop (.ListComp elt [g0, g1] scope pos) 1 it' acc env) R s')
      (notedBy (model prog w) A env fun x s' => R (.error x) s') s) :
    codeAny (model prog w) A (.compStart (.ListComp elt [g0, g1] scope pos) 1 it acc env) R s := by
  obtain ⟨t1, i1, f1, a1⟩ := g1
  cases h1
  refine codeAny_of_tree ?_
  show wpAny _ _ ((compStart (.ListComp elt [g0, ⟨t1, i1, f1, 0⟩] scope pos) 1 it acc env).onRaise (fun x => do noteFrame x env; standAt theWindowsPlace)) _ _ s
  refine wpAny_notedAt ?_
  unfold compStart
  show wpAny _ _ (ask >>= _) _ _ s
  refine wpAny_bind (wpAny_askSetting (wpAny_ite ?_))
  split
  · first
      | exact wpAny_bind (wpAny_pure (wpAny_pure (And.intro rfl h0)))
      | exact wpAny_pure (And.intro rfl h0)
  · first
      | exact wpAny_bind (wpAny_rule (wpAny_bind (wpAny_standAt (wpAny_bind (wpAny_mono h (fun it' s' h' => wpAny_pure (And.intro rfl h')) fun _ _ x => x)))))
      | (refine wpAny_bind (wpAny_rule ?_); show wpAny _ _ (standAt i1.pos >>= _) _ _ s; exact wpAny_bind (wpAny_standAt (wpAny_bind (wpAny_mono h (fun it' s' h' => wpAny_pure (And.intro rfl h')) fun _ _ x => x))))
end


structure ScOk (c : Cx) (scope : Scope) : Prop where
  nloc : (scope.names.all fun p => !(p.2 == .free) || !(c.env.kindOf p.1 == some .local)) = true
  clos : (scope.names.all fun p => !(p.2 == .free) || (c.env.cells.lookup p.1).isSome) = true
  cell : ∀ y ∈ scope.names, y.2 ≠ .cell
  kind : scope.kind = .function
  names : ∀ x ∈ scope.names, x.2 = .local → scope.names.lookup x.1 = some .local

noncomputable def CompRun (c : Cx) (σ : Vars) (elt : Expr) (gens : List Comprehension) (scope : Scope) (pos : Pos) (n : Nat) (it : Nat → D) (ds : List D) : Prop :=
  ∀ (I C Da : Addr) (s1 s4 : Shared) (g : Heap) (R : Result → Shared → Prop), CS ((c.comp scope C Da s1).more I) Da (freeVars scope σ) [] s4 →
    I ∉ (c.comp scope C Da s1).H → s1.heap.get? I = none → Da ≠ C → (∀ x b, (x, b) ∈ (c.comp scope C Da s1).env.cells → b ∈ (c.comp scope C Da s1).H ∧ b ≠ Da) →
    Ext g s4.heap → (∀ b o, g.get? b = some o → b ∉ I :: (c.comp scope C Da s1).H) → Src c.prog c.w c.A I n (c.comp scope C Da s1).H g it s4.heap →
    (∀ σ' s', CS (c.comp scope C Da s1) Da σ' ds s' → R (.ok .next) s') →
    codeAny (model c.prog c.w) c.A (.compStart (.ListComp elt gens scope pos) 0 (.ref I) (.ref Da) (c.comp scope C Da s1).env) R s4

noncomputable abbrev Cx.hid (c : Cx) (X : List Addr) : Cx := { c with H := X ++ c.H }

noncomputable def CompRunG (c : Cx) (X : List Addr) (σ : Vars) (elt : Expr) (gens : List Comprehension) (scope : Scope) (pos : Pos) (Sp : Addr → List Addr → Heap → Heap → Prop) (ds : List D) : Prop :=
  ∀ (I C Da : Addr) (s1 s4 : Shared) (g : Heap) (R : Result → Shared → Prop), CS (((c.hid X).comp scope C Da s1).more I) Da (freeVars scope σ) [] s4 →
    I ∉ ((c.hid X).comp scope C Da s1).H → s1.heap.get? I = none → Da ≠ C → (∀ x b, (x, b) ∈ ((c.hid X).comp scope C Da s1).env.cells → b ∈ ((c.hid X).comp scope C Da s1).H ∧ b ≠ Da) →
    Ext g s4.heap → (∀ b o, g.get? b = some o → b ∉ I :: ((c.hid X).comp scope C Da s1).H) → Sp I ((c.hid X).comp scope C Da s1).H g s4.heap → (∀ x ∈ X, s1.heap.get? x = none ∧ x ≠ C ∧ x ≠ Da ∧ ∀ y b, (y, b) ∈ ((c.hid X).comp scope C Da s1).env.cells → b ≠ x) →
    (∀ σ' s', CS (c.comp scope C Da s1) Da σ' ds s' → R (.ok .next) s') →
    codeAny (model c.prog c.w) c.A (.compStart (.ListComp elt gens scope pos) 0 (.ref I) (.ref Da) (c.comp scope C Da s1).env) R s4

theorem none_of_ge {h : Heap} {a : Addr} (ha : h.objs.size ≤ a) : h.get? a = none := by
  cases e : h.get? a with
  | none => rfl
  | some o => exact absurd (Heap.lt_size e) (Nat.not_lt.mpr ha)

/-- a comprehension, its iterator in hand -/
theorem comp_tail {c : Cx} {σ : Vars} {elt : Expr} {gens : List Comprehension} {scope : Scope} {pos : Pos} {Sp : Addr → List Addr → Heap → Heap → Prop} {ds : List D} {s s1 s2 : Shared} {Ia : Addr} (X : List Addr)
    (I1 : In c σ s1) (f1 : Kp s s1) (f2 : Kp s1 s2) (hn : s1.heap.get? Ia = none) (ho : ∃ o, s2.heap.get? Ia = some o) (hX : ∀ x ∈ X, s1.heap.get? x = none ∧ ∃ o, s2.heap.get? x = some o) (hIX : Ia ∉ X) (S : Sp Ia (X ++ c.H) (hideAll s1.heap c.H) s2.heap)
    (hmore : ∀ Ia H H' g h h', Sp Ia H g h → Ext h h' → (∀ b ∈ H', b ∈ H ∨ h.get? b = none) → Sp Ia H' g h') (ok : ScOk c scope)
    (run : CompRunG c X σ elt gens scope pos Sp ds) {use : Option (Value → Sem Unit)} {Q E : Value → Shared → Prop}
    (fin : ∀ C Da s', In (c.more C) σ s' → C ≠ c.env.locals → C ∉ c.H → c.s₀.heap.get? C = none → Is (hideAll s'.heap (C :: c.H)) (.list ds) (.ref Da) → (∀ h', Heap.SameBut C s'.heap h' → Kp s { s' with heap := h' } ∧ Is (hideAll h' c.H) (.list ds) (.ref Da)) → (∃ m, s'.heap.Ns C m) →
      compPost (model c.prog c.w) c.A E use Q (.ref Da) C (.ok .next) s') :
    wpAny (model c.prog c.w) c.A (newList []) (fun acc s₃ => wpAny (model c.prog c.w) c.A (newFunctionEnv scope c.env.globals (closL c.env.cells scope.names []) [] c.env.qual none .none (some c.env)) (fun cenv s₄ =>
      codeAny (model c.prog c.w) c.A (.compStart (.ListComp elt gens scope pos) 0 (.ref Ia) acc { cenv with scope := relabel scope c.env }) (compPost (model c.prog c.w) c.A E use Q acc cenv.locals) s₄) E s₃) E s2 := by
  obtain ⟨I2, hI, hs₀⟩ := I1.ins f2 hn ho
  have hXH : ∀ b ∈ X ++ c.H, ∃ o, s2.heap.get? b = some o := fun b hb => by
    rcases List.mem_append.mp hb with hb | hb
    · exact (hX b hb).2
    · obtain ⟨o, e⟩ := I1.alive b hb; exact ⟨o, f2.ext _ _ e⟩
  have hgX : ∀ b o, (hideAll s1.heap c.H).get? b = some o → b ∉ X ++ c.H := fun b o e q => by
    rcases List.mem_append.mp q with q | q
    · have e' := of_hideAll _ e
      rw [(hX b q).1] at e'; cases e'
    · exact hid_not e q
  refine wpAny_newObj_type (wpAny_newFunctionEnv ok.cell (by intro y hy; simp at hy) (fun h₁ hns₁ hsb₁ => ?_) ok.kind)
  dsimp only at hns₁ hsb₁ ⊢
  generalize hH2 : s2.heap.push { cls := .type "list", dict := none, data := .seq ([] : List Value).toArray } = H2 at hns₁ hsb₁ ⊢
  have hC : H2.objs.size = s2.heap.objs.size + 1 := by rw [← hH2, Heap.size_push]
  have hDC : s2.heap.objs.size ≠ H2.objs.size := by rw [hC]; exact Nat.ne_of_lt (Nat.lt_succ_self _)
  have k24 : Ext s2.heap h₁ := fun b o e => hsb₁.extBut b o (by rw [hC]; exact Nat.ne_of_lt (Nat.lt_succ_of_lt (Heap.lt_size e))) (Heap.get?_push_of_some _ (hH2 ▸ Heap.get?_push_of_some _ e))
  have nD : ∀ {h : Heap}, Ext h s2.heap → h.get? s2.heap.objs.size = none := fun k => by
    rename_i h
    cases e : h.get? s2.heap.objs.size with
    | none => rfl
    | some o => exact absurd (Heap.lt_size (k _ _ e)) (Nat.lt_irrefl _)
  have nC : ∀ {h : Heap}, Ext h s2.heap → h.get? H2.objs.size = none := fun k => by
    rename_i h
    cases e : h.get? H2.objs.size with
    | none => rfl
    | some o => have := Heap.lt_size (k _ _ e); rw [hC] at this; exact absurd this (Nat.not_lt.mpr (Nat.le_succ _))
  have hCX : H2.objs.size ∉ X ++ c.H := fun q => by obtain ⟨o, e⟩ := hXH _ q; rw [nC (Ext.refl _)] at e; cases e
  have hDX : s2.heap.objs.size ∉ X ++ c.H := fun q => by obtain ⟨o, e⟩ := hXH _ q; rw [nD (Ext.refl _)] at e; cases e
  have hCH : H2.objs.size ∉ c.H := fun q => hCX (List.mem_append.mpr (.inr q))
  have hDH : s2.heap.objs.size ∉ c.H := fun q => hDX (List.mem_append.mpr (.inr q))
  have hIlt : Ia < s2.heap.objs.size := let ⟨o, e⟩ := ho; Heap.lt_size e
  have hIC : Ia ≠ H2.objs.size := by rw [hC]; exact Nat.ne_of_lt (Nat.lt_succ_of_lt hIlt)
  have hID : Ia ≠ s2.heap.objs.size := Nat.ne_of_lt hIlt
  have hLC : H2.objs.size ≠ c.env.locals := fun q => hCH (q ▸ I1.sub _ I1.locals.1)
  have hcells : ∀ x b, (x, b) ∈ closL c.env.cells scope.names [] → (x, b) ∈ c.env.cells := fun x b h => (closL_mem _ _ ok.clos h).elim id fun z => nomatch z
  have kp4 : Kp s1 { s2 with heap := h₁, toks := s2.toks + ([] : List (Str × Value)).length } := f2.trans (Kp.heap k24)
  have hacc : h₁.get? s2.heap.objs.size = some { cls := .type "list", dict := none, data := .seq ([] : List Value).toArray } :=
    hsb₁.extBut _ _ hDC (Heap.get?_push_of_some _ (hH2 ▸ Heap.get?_push_size _ rfl))
  have hCal : ∃ o, h₁.get? H2.objs.size = some o := let ⟨o, _, _, e, _⟩ := hns₁; ⟨o, e⟩
  have inn : In (((c.hid X).comp scope H2.objs.size s2.heap.objs.size s1).more Ia) (freeVars scope σ) { s2 with heap := h₁, toks := s2.toks + ([] : List (Str × Value)).length } := by
    refine { fut := kp4.fut, same := fun _ => kp4.same, amb := I1.amb, gr := I1.ground, kind := ?_, glob := I1.glob, blt := I1.blt, alive := ?_, sub := ?_, fresh := ?_, locals := ⟨List.mem_cons_self, _, hns₁⟩, cells := ?_, apart := ?_, vars := ?_ }
    · exact ok.kind
    · intro b hb
      rcases List.mem_cons.mp hb with rfl | hb
      · obtain ⟨o, e⟩ := ho; exact ⟨o, k24 _ _ e⟩
      rcases List.mem_cons.mp hb with rfl | hb
      · exact hCal
      rcases List.mem_cons.mp hb with rfl | hb
      · exact ⟨_, hacc⟩
      · obtain ⟨o, e⟩ := hXH b hb; exact ⟨o, k24 _ _ e⟩
    · intro b hb
      rcases List.mem_cons.mp hb with rfl | hb
      · exact List.mem_cons_of_mem _ List.mem_cons_self
      · rw [List.mem_singleton.mp hb]; exact List.mem_cons_of_mem _ (List.mem_cons_of_mem _ List.mem_cons_self)
    · intro b hb
      rcases List.mem_cons.mp hb with rfl | hb
      · exact nC f2.ext
      · rw [List.mem_singleton.mp hb]; exact nD f2.ext
    · intro x b hb
      obtain ⟨p, q, v, r⟩ := I1.cells x b (hcells x b hb)
      exact ⟨List.mem_cons_of_mem _ (List.mem_cons_of_mem _ (List.mem_cons_of_mem _ (List.mem_append.mpr (.inr p)))), fun (z : b = H2.objs.size) => hCH (z ▸ p), v, (r.keeps f2.ext).keeps k24⟩
    · intro x a y b h1 h2 hm e
      have hp := (I1.cells x a (hcells x a h1)).1
      rcases List.mem_cons.mp hm with rfl | hm
      · exact absurd hp hCH
      · rw [List.mem_singleton.mp hm] at hp; exact absurd hp hDH
    · intro x d hd
      obtain ⟨e1, e2, e3⟩ := freeVars_get hd
      obtain ⟨v, r, i⟩ := I1.vars x d e1
      refine ⟨v, ?_, i.ext fun b o e => hideAll_get _ (k24 _ _ (f2.ext _ _ (of_hideAll _ e))) fun z => ?_⟩
      · have hrl := lookup_relabel_free (env := c.env) e2
        have hin : (c.env.cells.lookup x).isSome = true := by
          have := List.all_eq_true.mp ok.clos (x, .free) (mem_of_lookup e2)
          simpa using this
        obtain ⟨a, ha⟩ := Option.isSome_iff_exists.mp hin
        have hfree : ∃ a, c.env.cells.lookup x = some a ∧ s1.heap.IsCell a (some v) := by
          rcases r with ⟨k, m, f, g⟩ | ⟨_, b, f, g⟩
          · have := List.all_eq_true.mp ok.nloc (x, .free) (mem_of_lookup e2)
            simp [k] at this
          · exact ⟨b, f, g⟩
        obtain ⟨b, f, g⟩ := hfree
        refine .inr ⟨?_, b, closL_get f _ _ (.inl e2), (g.keeps f2.ext).keeps k24⟩
        rcases hrl with h | h
        · exact .inl h
        · exact .inr ⟨h, e3⟩
      · rcases List.mem_cons.mp z with rfl | z
        · rw [of_hideAll _ e] at hn; cases hn
        rcases List.mem_cons.mp z with rfl | z
        · have := of_hideAll _ e; rw [nC f2.ext] at this; cases this
        rcases List.mem_cons.mp z with rfl | z
        · have := of_hideAll _ e; rw [nD f2.ext] at this; cases this
        · exact hgX _ _ e z
  refine run Ia H2.objs.size s2.heap.objs.size s1 _ (hideAll s1.heap c.H) _ ⟨inn, [], ⟨_, hacc, rfl, _, rfl⟩, .nil⟩ ?_ hn hDC ?_ (fun b o e => k24 _ _ (f2.ext _ _ (of_hideAll _ e))) ?_ (hmore _ _ _ _ _ _ S k24 ?_) (fun x hx => ⟨(hX x hx).1, fun q => hCX (q ▸ List.mem_append.mpr (.inl hx)), fun q => hDX (q ▸ List.mem_append.mpr (.inl hx)), fun y b hb q => ?_⟩) ?_
  · intro q
    rcases List.mem_cons.mp q with h | q
    · exact hIC h
    rcases List.mem_cons.mp q with h | q
    · exact hID h
    · rcases List.mem_append.mp q with q | q
      · exact hIX q
      · exact hI q
  · intro x b hb
    obtain ⟨p, _⟩ := I1.cells x b (hcells x b hb)
    exact ⟨List.mem_cons_of_mem _ (List.mem_cons_of_mem _ (List.mem_append.mpr (.inr p))), fun z => hDH (z ▸ p)⟩
  · intro b o e q
    rcases List.mem_cons.mp q with rfl | q
    · rw [of_hideAll _ e] at hn; cases hn
    rcases List.mem_cons.mp q with rfl | q
    · have := of_hideAll _ e; rw [nC f2.ext] at this; cases this
    rcases List.mem_cons.mp q with rfl | q
    · have := of_hideAll _ e; rw [nD f2.ext] at this; cases this
    · exact hgX _ _ e q
  · intro b hb
    rcases List.mem_cons.mp hb with rfl | hb
    · exact .inr (nC (Ext.refl _))
    rcases List.mem_cons.mp hb with rfl | hb
    · exact .inr (nD (Ext.refl _))
    · exact .inl hb
  · obtain ⟨_, _, v, o, e, _⟩ := I1.cells y b (hcells y b hb)
    rw [q, (hX x hx).1] at e; cases e
  · intro σ' s' CS'
    have kp' : Kp s1 s' := CS'.inn.kp rfl
    obtain ⟨vs, hl, ha⟩ := CS'.acc
    have after : ∀ h', Heap.SameBut H2.objs.size s'.heap h' → Is (hideAll h' c.H) (.list ds) (.ref s2.heap.objs.size) := fun h' hb => by
      obtain ⟨o, e, r⟩ := hl
      refine .list ⟨o, hideAll_get _ ((hb.2 _ hDC).trans e) hDH, r⟩ (ha.ext fun b o e => hideAll_get _ ((hb.2 b fun z => ?_).trans (of_hideAll _ e)) fun z => ?_)
      · exact hid_not e (by rw [z]; exact List.mem_cons_self)
      · exact hid_not e (List.mem_cons_of_mem _ (List.mem_cons_of_mem _ z))
    have hal' : ∃ o, s'.heap.get? H2.objs.size = some o := let ⟨_, m, o, _, _, e, _⟩ := CS'.inn.locals; ⟨o, e⟩
    obtain ⟨IC, _, hC₀⟩ := I1.ins kp' (nC f2.ext) hal'
    have hiC : Is (hideAll s'.heap (H2.objs.size :: c.H)) (.list ds) (.ref s2.heap.objs.size) := by
      obtain ⟨o, e, r⟩ := hl
      refine .list ⟨o, hideAll_get _ e fun q => ?_, r⟩ (ha.ext (hid_less fun b hb => ?_))
      · rcases List.mem_cons.mp q with q | q
        · exact hDC q
        · exact hDH q
      · rcases List.mem_cons.mp hb with rfl | hb
        · exact List.mem_cons_self
        · exact List.mem_cons_of_mem _ (List.mem_cons_of_mem _ hb)
    refine fin H2.objs.size s2.heap.objs.size s' IC hLC hCH hC₀ hiC (fun h' hb => ⟨f1.trans ?_, after h' hb⟩) (let ⟨_, m, e⟩ := CS'.inn.locals; ⟨m, e⟩)
    obtain ⟨h3, t3, e3⟩ := kp'.same
    refine ⟨fun b o e => (hb.2 b fun z => ?_).trans (kp'.ext b o e), h', s'.toks, by rw [e3]⟩
    rw [z, nC f2.ext] at e; cases e

theorem comp_core {c : Cx} {σ : Vars} {elt target iter : Expr} {ifs : List Expr} {rest : List Comprehension} {scope : Scope} {pos : Pos} {d : D} {n : Nat} {it : Nat → D} {ds : List D} {s : Shared}
    (I : In c σ s) (he : Ev c σ iter d) (hit : ∀ s v, In c σ s → Is (hideAll s.heap c.H) d v → Itr c s v n it) (ok : ScOk c scope)
    (run : CompRun c σ elt (⟨target, iter, ifs, 0⟩ :: rest) scope pos n it ds) {use : Option (Value → Sem Unit)} {Q E : Value → Shared → Prop}
    (fin : ∀ C Da s', In (c.more C) σ s' → C ≠ c.env.locals → C ∉ c.H → c.s₀.heap.get? C = none → Is (hideAll s'.heap (C :: c.H)) (.list ds) (.ref Da) → (∀ h', Heap.SameBut C s'.heap h' → Kp s { s' with heap := h' } ∧ Is (hideAll h' c.H) (.list ds) (.ref Da)) → (∃ m, s'.heap.Ns C m) →
      compPost (model c.prog c.w) c.A E use Q (.ref Da) C (.ok .next) s')
    (hs : ∀ x, foldedSetIterable iter c.env x = pure x := by intro _; rfl) :
    wpAny (model c.prog c.w) c.A (comprehension (.ListComp elt (⟨target, iter, ifs, 0⟩ :: rest) scope pos) scope c.env (firstIterPos (⟨target, iter, ifs, 0⟩ :: rest) pos) (newList []) false (eval iter c.env) use) Q E s := by
  refine wpAny_comprehension_free (use := use) rfl hs (closureFor_closL ok.clos) ok.kind ok.names (he s I _ _ fun v s1 f1 i1 => ?_)
  refine hit s1 v (I.to f1) i1 _ _ fun Ia s2 f2 hn ho S => ?_
  exact comp_tail [] (Sp := fun I H g h => Src c.prog c.w c.A I n H g it h) (I.to f1) f1 f2 hn ho (fun _ h => nomatch h) (fun h => nomatch h) S (fun _ _ _ _ _ _ S k hb => S.more k hb) ok (fun I C Da s1 s4 g R h1 h2 h3 h4 h5 h6 h7 h8 _ h9 => run I C Da s1 s4 g R h1 h2 h3 h4 h5 h6 h7 h8 h9) fin

theorem ev_comp {c : Cx} {σ : Vars} {elt target iter : Expr} {ifs : List Expr} {rest : List Comprehension} {scope : Scope} {pos : Pos} {d : D} {n : Nat} {it : Nat → D} {ds : List D}
    (he : Ev c σ iter d) (hit : ∀ s v, In c σ s → Is (hideAll s.heap c.H) d v → Itr c s v n it) (ok : ScOk c scope)
    (run : CompRun c σ elt (⟨target, iter, ifs, 0⟩ :: rest) scope pos n it ds) (hs : ∀ x, foldedSetIterable iter c.env x = pure x := by intro _; rfl) :
    Ev c σ (.ListComp elt (⟨target, iter, ifs, 0⟩ :: rest) scope pos) (.list ds) := fun s I Q E k => by
  rw [eval_ListComp]
  refine comp_core I he hit ok run (use := none) (fun C Da s' I' _ _ _ _ h hm => ?_) hs
  obtain ⟨m, hm⟩ := hm
  exact ⟨m, hm, fun h' hb => let ⟨a, b⟩ := h h' hb; k _ _ a b⟩

theorem x_assign_comp {c : Cx} {σ : Vars} {s : Shared} {Q : Flow → Shared → Prop} {E : Value → Shared → Prop} {rst : List Stmt} {elt target iter : Expr} {ifs : List Expr} {rest : List Comprehension} {scope : Scope} {pos : Pos} {d : D} {n : Nat} {it : Nat → D} {ds : List D} {x : Str} {p p' : Pos}
    (I : In c σ s) (he : Ev c σ iter d) (hit : ∀ s v, In c σ s → Is (hideAll s.heap c.H) d v → Itr c s v n it) (ok : ScOk c scope)
    (run : CompRun c σ elt (⟨target, iter, ifs, 0⟩ :: rest) scope pos n it ds) (hx : c.env.kindOf x = some .local)
    (k : ∀ s', In c ((x, .list ds) :: σ) s' → wpAny (model c.prog c.w) c.A (execs rst c.env) Q E s')
    (hsw : swapsWith (.ListComp elt (⟨target, iter, ifs, 0⟩ :: rest) scope pos) (some (.Name x p)) p'.line c.env = pure true)
    (hs : ∀ x, foldedSetIterable iter c.env x = pure x := by intro _; rfl) :
    wpAny (model c.prog c.w) c.A (execs (.Assign [.Name x p] (.ListComp elt (⟨target, iter, ifs, 0⟩ :: rest) scope pos) p' :: rst) c.env) Q E s := by
  refine wpAny_execs_cons ?_
  rw [exec_Assign_Name_used _ _ _ _ hsw]
  refine wpAny_bind (wpAny_standAt (wpAny_bind ?_))
  show wpAny _ _ (do let _ ← comprehension (.ListComp elt (⟨target, iter, ifs, 0⟩ :: rest) scope pos) scope c.env (firstIterPos (⟨target, iter, ifs, 0⟩ :: rest) pos) (newList []) false (eval iter c.env) (some (assign (.Name x p) c.env))) _ _ s
  refine wpAny_bind (wpAny_mono (comp_core (use := some (assign (.Name x p) c.env)) (Q := fun _ s' => wpAny (model c.prog c.w) c.A (execs rst c.env) Q E s') (E := E) I he hit ok run (fun C Da s' I' hLC hCH hC₀ hi h hm => ?_) hs) (fun _ s' hq => wpAny_pure (wpAny_pure hq)) fun _ _ e => e)
  show wpAny _ _ (assign (.Name x p) c.env (.ref Da)) _ _ _
  refine wpAny_assign_Name (I'.store_local (c := c.more C) hx hi fun s'' I'' hb => ?_)
  obtain ⟨m, hm⟩ := hm
  refine ⟨m, hm.at' fun o e => (hb C hLC).trans e, fun h' hb' => k _ ?_⟩
  have hcells : ∀ x b, (x, b) ∈ c.env.cells → b ∈ c.H := fun x b h => (I.cells x b h).1
  exact I''.forget I.sub hcells hCH hC₀ fun b o hb e => (hb'.2 b hb).trans e


noncomputable def TstL (c : Cx) (σ : Vars) (ifs : List Expr) (b : Bool) : Prop := ∀ s, In c σ s → ∀ (Q : Bool → Shared → Prop) (E : Value → Shared → Prop), (∀ s', Kp s s' → Q b s') → wpAny (model c.prog c.w) c.A (testsOf ifs c.env) Q E s
theorem tstl_nil {c : Cx} {σ : Vars} : TstL c σ [] true := fun s I Q E k => wpAny_tests_nil (k s (Kp.refl s))
theorem tstl_one {c : Cx} {σ : Vars} {e : Expr} {b : Bool} (h : Tst c σ e b) : TstL c σ [e] b := fun s I Q E k => wpAny_tests_one (h s I Q E k)

noncomputable def outs (out : Nat → List D) (n : Nat) : List D := (List.range n).flatMap out
theorem outs_zero (out : Nat → List D) : outs out 0 = [] := rfl
theorem outs_succ (out : Nat → List D) (n : Nat) : outs out (n + 1) = outs out n ++ out n := by
  unfold outs
  rw [List.range_succ, List.flatMap_append]
  simp
theorem outs_len (out : Nat → List D) (m : Nat) : ∀ n, (∀ i, i < n → (out i).length ≤ m) → (outs out n).length ≤ n * m
  | 0, _ => by simp [outs]
  | n + 1, h => by
    rw [outs_succ, List.length_append, Nat.succ_mul]
    have := outs_len out m n fun i hi => h i (Nat.lt_succ_of_lt hi)
    have := h n (Nat.lt_succ_self n)
    omega

theorem CS.weaken {c : Cx} {Da : Addr} {σ σ' : Vars} {ds : List D} {s : Shared} (x : CS c Da σ ds s) (h : ∀ y d, σ'.lookup y = some d → σ.lookup y = some d) : CS c Da σ' ds s := ⟨x.inn.weaken h, x.acc⟩
theorem freeVars_cons {scope : Scope} {σ : Vars} {x : Str} {v : D} (hx : scope.names.lookup x = some .local) : ∀ y d, (freeVars scope σ).lookup y = some d → ((x, v) :: freeVars scope σ).lookup y = some d := fun y d h => by
  rw [List.lookup_cons]
  cases hy : y == x with
  | true =>
    have := eq_of_beq hy; subst this
    have := (freeVars_get h).2.1
    rw [hx] at this; cases this
  | false => exact h

section
variable {c : Cx} {σ : Vars} {elt iter : Expr} {x : Str} {px : Pos} {ifs : List Expr} {scope : Scope} {pos : Pos} {n : Nat} {it : Nat → D}

theorem run_1 (ok : ScOk c scope) (hx : scope.names.lookup x = some .local) (out : Nat → List D) (hz : n ≤ sizeLine)
    (turn : ∀ i I C Da s1 s2, i < n → ∃ b, TstL ((c.comp scope C Da s1).turn I s2) ((x, it i) :: freeVars scope σ) ifs b ∧
      (b = true → ∃ d, Ev ((c.comp scope C Da s1).turn I s2) ((x, it i) :: freeVars scope σ) elt d ∧ out i = [d]) ∧ (b = false → out i = [])) :
    CompRun c σ elt [⟨.Name x px, iter, ifs, 0⟩] scope pos n it (outs out n) := by
  intro I C Da s1 s4 g R C4 hI hn hDC hcl hg hgn S done
  have hlen : ∀ i, i ≤ n → (outs out i).length ≤ n := fun i hi => by
    have := outs_len out 1 i fun j hj => by
      obtain ⟨b, _, h1, h2⟩ := turn j I C Da s1 s1 (Nat.lt_of_lt_of_le hj hi)
      cases b with
      | true => obtain ⟨d, _, e⟩ := h1 rfl; rw [e]; exact Nat.le_refl _
      | false => rw [h2 rfl]; exact Nat.zero_le _
    omega
  have hm : ∀ b ∈ (c.comp scope C Da s1).m, b ∈ (c.comp scope C Da s1).H := fun b hb => by
    rcases List.mem_cons.mp hb with rfl | hb
    · exact List.mem_cons_self
    · rw [List.mem_singleton.mp hb]; exact List.mem_cons_of_mem _ List.mem_cons_self
  have loop : codeAny (model c.prog c.w) c.A (.compLoop (.ListComp elt [⟨.Name x px, iter, ifs, 0⟩] scope pos) 0 (.ref I) (.ref Da) (c.comp scope C Da s1).env) R s4 := by
    refine comp_walkC (c := c.comp scope C Da s1) hI hn (List.mem_cons_of_mem _ List.mem_cons_self) hDC hm (fun x b h => (hcl x b h).1) (fun x b h => (hcl x b h).2) (.inl (lookup_relabel_local hx)) (compTurn_1 ..) C4 hg hgn S
      (fun i σ' ds' => σ' = freeVars scope σ ∧ ds' = outs out i) ⟨rfl, rfl⟩ ?_ (fun σ' ds' s' e C' => done σ' s' (e.2 ▸ C'))
    rintro i σ' ds' t1 t2 hlt ⟨rfl, rfl⟩ C2
    obtain ⟨b, ht, h1, h2⟩ := turn i I C Da s1 t1 hlt
    refine wpAny_bind (ht t2 C2.inn _ _ fun s3 f3 => ?_)
    have C3 := C2.to f3
    cases b with
    | false =>
      rw [if_neg Bool.false_ne_true]
      refine wpAny_pure ⟨rfl, _, _, ⟨rfl, rfl⟩, ?_⟩
      rw [outs_succ, h2 rfl, List.append_nil]
      exact C3.weaken (freeVars_cons hx)
    | true =>
      rw [if_pos rfl]
      obtain ⟨d, hd, e⟩ := h1 rfl
      refine wpAny_bind (wpAny_bind (hd s3 C3.inn _ _ fun v s5 f5 i5 => wpAny_bind (cs_append (c := (c.comp scope C Da s1).turn I t1) (C3.to f5) (List.mem_cons_of_mem _ List.mem_cons_self) hDC (fun x b h => (hcl x b h).2) i5
        (Nat.le_trans (hlen i (Nat.le_of_lt hlt)) hz) fun u s6 C6 => wpAny_pure (wpAny_pure ⟨rfl, _, _, ⟨rfl, rfl⟩, ?_⟩))))
      rw [outs_succ, e]
      exact C6.weaken (freeVars_cons hx)
  exact codeAny_compStart_list loop (S.self loop)

theorem run_2 {y : Str} {py : Pos} {iter2 : Expr} {n2 : Nat → Nat} {it2 : Nat → Nat → D} {d2 : Nat → D} (ok : ScOk c scope) (hx : scope.names.lookup x = some .local) (hy : scope.names.lookup y = some .local) (hxy : (x == y) = false) (out : Nat → Nat → List D) (mx : Nat) (hz : n * mx ≤ sizeLine)
    (hmx : ∀ i, i < n → n2 i ≤ mx)
    (he2 : ∀ i I C Da s1 s2, i < n → Ev ((c.comp scope C Da s1).turn I s2) ((x, it i) :: freeVars scope σ) iter2 (d2 i))
    (hit2 : ∀ i I C Da s1 s2 s v, i < n → In ((c.comp scope C Da s1).turn I s2) ((x, it i) :: freeVars scope σ) s → Is (hideAll s.heap ((c.comp scope C Da s1).turn I s2).H) (d2 i) v → Itr ((c.comp scope C Da s1).turn I s2) s v (n2 i) (it2 i))
    (hs2 : ∀ C v, foldedSetIterable iter2 (compEnvC scope (closL c.env.cells scope.names []) C c.env) v = pure v)
    (turn : ∀ i j I C Da s1 s2 I2 s3, i < n → j < n2 i → ∃ b, TstL (((c.comp scope C Da s1).turn I s2).turn I2 s3) ((y, it2 i j) :: (x, it i) :: freeVars scope σ) ifs b ∧
      (b = true → ∃ d, Ev (((c.comp scope C Da s1).turn I s2).turn I2 s3) ((y, it2 i j) :: (x, it i) :: freeVars scope σ) elt d ∧ out i j = [d]) ∧ (b = false → out i j = [])) :
    CompRun c σ elt [⟨.Name x px, iter, [], 0⟩, ⟨.Name y py, iter2, ifs, 0⟩] scope pos n it (outs (fun i => outs (out i) (n2 i)) n) := by
  intro I C Da s1 s4 g R C4 hI hn hDC hcl hg hgn S done
  have hin : ∀ i, i < n → ∀ j, j ≤ n2 i → (outs (out i) j).length ≤ mx := fun i hi j hj => by
    have := outs_len (out i) 1 j fun k hk => by
      obtain ⟨b, _, h1, h2⟩ := turn i k I C Da s1 s1 I s1 hi (Nat.lt_of_lt_of_le hk hj)
      cases b with
      | true => obtain ⟨d, _, e⟩ := h1 rfl; rw [e]; exact Nat.le_refl _
      | false => rw [h2 rfl]; exact Nat.zero_le _
    have := hmx i hi
    omega
  have hlen : ∀ i, i < n → ∀ j, j ≤ n2 i → (outs (fun i => outs (out i) (n2 i)) i ++ outs (out i) j).length ≤ sizeLine := fun i hi j hj => by
    have h1 := outs_len (fun i => outs (out i) (n2 i)) mx i fun k hk => hin k (Nat.lt_trans hk hi) (n2 k) (Nat.le_refl _)
    have h2 := hin i hi j hj
    rw [List.length_append]
    have : i * mx + mx ≤ n * mx := by rw [← Nat.succ_mul]; exact Nat.mul_le_mul_right _ hi
    omega
  have hm : ∀ b ∈ (c.comp scope C Da s1).m, b ∈ (c.comp scope C Da s1).H := fun b hb => by
    rcases List.mem_cons.mp hb with rfl | hb
    · exact List.mem_cons_self
    · rw [List.mem_singleton.mp hb]; exact List.mem_cons_of_mem _ List.mem_cons_self
  have loop : codeAny (model c.prog c.w) c.A (.compLoop (.ListComp elt [⟨.Name x px, iter, [], 0⟩, ⟨.Name y py, iter2, ifs, 0⟩] scope pos) 0 (.ref I) (.ref Da) (c.comp scope C Da s1).env) R s4 := by
    refine comp_walkC (c := c.comp scope C Da s1) hI hn (List.mem_cons_of_mem _ List.mem_cons_self) hDC hm (fun x b h => (hcl x b h).1) (fun x b h => (hcl x b h).2) (.inl (lookup_relabel_local hx)) (compTurn_20 ..) C4 hg hgn S
      (fun i σ' ds' => σ' = freeVars scope σ ∧ ds' = outs (fun i => outs (out i) (n2 i)) i) ⟨rfl, rfl⟩ ?_ (fun σ' ds' s' e C' => done σ' s' (e.2 ▸ C'))
    rintro i σ' ds' t1 t2 hlt ⟨rfl, rfl⟩ C2
    refine wpAny_bind (he2 i I C Da s1 t1 hlt t2 C2.inn _ _ fun v s5 f5 i5 => wpAny_bind (wpAny_standAt (wpAny_bind (wpAny_of_eq (hs2 C v) (wpAny_bind (wpAny_holding ?_))))))
    have C5 := C2.to f5
    refine hit2 i I C Da s1 t1 s5 v hlt C5.inn i5 _ _ fun I2 s6 f6 hn6 ho6 S6 => ?_
    obtain ⟨J6, hI2, hs2₀⟩ := C5.inn.ins f6 hn6 ho6
    have C6 : CS (((c.comp scope C Da s1).turn I t1).more I2) Da ((x, it i) :: freeVars scope σ) (outs (fun i => outs (out i) (n2 i)) i) s6 := by
      obtain ⟨vs, hl, ha⟩ := C5.acc
      refine ⟨J6, vs, isList_ext f6.ext hl, ha.ext fun b o e => hideAll_get _ (f6.ext _ _ (of_hideAll _ e)) fun z => ?_⟩
      rcases List.mem_cons.mp z with rfl | z
      · rw [of_hideAll _ e] at hn6; cases hn6
      · exact hid_not e z
    have hm' : ∀ b ∈ ((c.comp scope C Da s1).turn I t1).m, b ∈ ((c.comp scope C Da s1).turn I t1).H := fun b hb => List.mem_cons_of_mem _ (hm b hb)
    refine wpAny_bind (wpAny_runOwn (h := none) ?_)
    have loop2 : codeAny (model c.prog c.w) c.A (.compLoop (.ListComp elt [⟨.Name x px, iter, [], 0⟩, ⟨.Name y py, iter2, ifs, 0⟩] scope pos) 1 (.ref I2) (.ref Da) (c.comp scope C Da s1).env)
        (fun r s' => match r with
          | .ok f => wpAny (model c.prog c.w) c.A (again (.compLoop (.ListComp elt [⟨.Name x px, iter, [], 0⟩, ⟨.Name y py, iter2, ifs, 0⟩] scope pos) 0 (.ref I) (.ref Da) (c.comp scope C Da s1).env))
              (fun fin s' => fin = .again (.compLoop (.ListComp elt [⟨.Name x px, iter, [], 0⟩, ⟨.Name y py, iter2, ifs, 0⟩] scope pos) 0 (.ref I) (.ref Da) (c.comp scope C Da s1).env) ∧
                ∃ σ' ds', (σ' = freeVars scope σ ∧ ds' = outs (fun i => outs (out i) (n2 i)) (i + 1)) ∧ CS ((c.comp scope C Da s1).turn I t1) Da σ' ds' s') (fun _ _ => False) s'
          | .error e => cameBackBy (model c.prog c.w) c.A (c.comp scope C Da s1).env (fun _ _ => False) e s') s6 := by
      refine comp_walkC (c := (c.comp scope C Da s1).turn I t1) (g := hideAll s5.heap ((c.comp scope C Da s1).turn I t1).H) hI2 hs2₀ (List.mem_cons_of_mem _ (List.mem_cons_of_mem _ List.mem_cons_self)) hDC hm' (fun x b h => List.mem_cons_of_mem _ (hcl x b h).1) (fun x b h => (hcl x b h).2) (.inl (lookup_relabel_local hy)) (compTurn_21 ..) C6
        (fun b o e => f6.ext _ _ (of_hideAll _ e)) (fun b o e q => ?_) S6
        (fun j σ' ds' => σ' = (x, it i) :: freeVars scope σ ∧ ds' = outs (fun i => outs (out i) (n2 i)) i ++ outs (out i) j) ⟨rfl, by rw [outs_zero, List.append_nil]⟩ ?_ ?_
      · rcases List.mem_cons.mp q with rfl | q
        · rw [of_hideAll _ e] at hn6; cases hn6
        · exact hid_not e q
      · rintro j σ' ds' u1 u2 hltj ⟨rfl, rfl⟩ D2
        obtain ⟨b, ht, h1, h2⟩ := turn i j I C Da s1 t1 I2 u1 hlt hltj
        refine wpAny_bind (ht u2 D2.inn _ _ fun s3 f3 => ?_)
        have D3 := D2.to f3
        have hw : ∀ z d, ((x, it i) :: freeVars scope σ).lookup z = some d → ((y, it2 i j) :: (x, it i) :: freeVars scope σ).lookup z = some d := fun z d h => by
          rw [List.lookup_cons]
          cases hz : z == y with
          | true =>
            have := eq_of_beq hz; subst this
            rw [List.lookup_cons] at h
            have hyx : (z == x) = false := by
              cases q : z == x with
              | false => rfl
              | true => have := eq_of_beq q; subst this; simp at hxy
            rw [hyx] at h
            have := (freeVars_get h).2.1
            rw [hy] at this; cases this
          | false => exact h
        cases b with
        | false =>
          rw [if_neg Bool.false_ne_true]
          refine wpAny_pure ⟨rfl, _, _, ⟨rfl, rfl⟩, ?_⟩
          rw [outs_succ, h2 rfl, List.append_nil]
          exact D3.weaken hw
        | true =>
          rw [if_pos rfl]
          obtain ⟨d, hd, e⟩ := h1 rfl
          refine wpAny_bind (wpAny_bind (hd s3 D3.inn _ _ fun v s7 f7 i7 => wpAny_bind (cs_append (c := ((c.comp scope C Da s1).turn I t1).turn I2 u1) (D3.to f7) (List.mem_cons_of_mem _ List.mem_cons_self) hDC (fun x b h => (hcl x b h).2) i7
            (hlen i hlt j (Nat.le_of_lt hltj)) fun u s8 C8 => wpAny_pure (wpAny_pure ⟨rfl, _, _, ⟨rfl, rfl⟩, ?_⟩))))
          rw [outs_succ, e, ← List.append_assoc]
          exact C8.weaken hw
      · rintro σ' ds' s' ⟨rfl, rfl⟩ D
        refine wpAny_pure ⟨rfl, _, _, ⟨rfl, rfl⟩, ?_⟩
        rw [outs_succ]
        exact D.weaken (freeVars_cons hx)
    exact codeAny_compStart_1 rfl loop2 (S6.self loop2)
  exact codeAny_compStart_list loop (S.self loop)
end


section
variable {c : Cx}
theorem op_add {a b : Int} : Op2 c (binaryOp .Add) (.int a) (.int b) (.int (a + b)) := fun s v u _ _ _ i j Q E k => by
  obtain ⟨t, rfl⟩ := i.int_inv; obtain ⟨t', rfl⟩ := j.int_inv
  exact PyProof.Rows.add_int (k _ _ (Kp.tok s _) (.int _ _))
theorem op_sub {a b : Int} : Op2 c (binaryOp .Sub) (.int a) (.int b) (.int (a - b)) := fun s v u _ _ _ i j Q E k => by
  obtain ⟨t, rfl⟩ := i.int_inv; obtain ⟨t', rfl⟩ := j.int_inv
  exact PyProof.Rows.sub_int (k _ _ (Kp.tok s _) (.int _ _))
theorem bits64 {a : Int} (h : a.natAbs < 2 ^ 64) : Builtin.Int.intBits a ≤ 64 := intBits_le h
theorem op_mul {a b : Int} (h : a.natAbs < 2 ^ 64) : Op2 c (binaryOp .Mult) (.int a) (.int b) (.int (a * b)) := fun s v u _ _ _ i j Q E k => by
  obtain ⟨t, rfl⟩ := i.int_inv; obtain ⟨t', rfl⟩ := j.int_inv
  exact PyProof.Rows.mul_int (k _ _ (Kp.tok s _) (.int _ _)) (IntMulOk.of_left (bits64 h))
theorem op_imul {a b : Int} (h : a.natAbs < 2 ^ 64) : Op2 c (inplaceOp .Mult) (.int a) (.int b) (.int (a * b)) := fun s v u _ _ _ i j Q E k => by
  obtain ⟨t, rfl⟩ := i.int_inv; obtain ⟨t', rfl⟩ := j.int_inv
  exact PyProof.Rows.imul_int (k _ _ (Kp.tok s _) (.int _ _)) (IntMulOk.of_left (bits64 h))
theorem op_mod {a b : Int} (h : b ≠ 0) : Op2 c (binaryOp .Mod) (.int a) (.int b) (.int (a.fmod b)) := fun s v u _ _ _ i j Q E k => by
  obtain ⟨t, rfl⟩ := i.int_inv; obtain ⟨t', rfl⟩ := j.int_inv
  exact PyProof.Rows.mod_int' h (k _ _ (Kp.tok s _) (.int _ _))
theorem op_fdiv {a b : Int} (h : b ≠ 0) (hb : b.natAbs < 1073741824) : Op2 c (binaryOp .FloorDiv) (.int a) (.int b) (.int (a.fdiv b)) := fun s v u _ _ _ i j Q E k => by
  obtain ⟨t, rfl⟩ := i.int_inv; obtain ⟨t', rfl⟩ := j.int_inv
  exact PyProof.Rows.floordiv_int h (k _ _ (Kp.tok s _) (.int _ _)) (.inl (PyProof.noPylong_small hb))
theorem op_pow {a b : Int} (h : 0 ≤ b) (hb : b ≤ 1000000) (ha : a.natAbs < 2 ^ 64) : Op2 c (binaryOp .Pow) (.int a) (.int b) (.int (a ^ b.toNat)) := fun s v u _ _ _ i j Q E k => by
  obtain ⟨t, rfl⟩ := i.int_inv; obtain ⟨t', rfl⟩ := j.int_inv
  exact pow_int_small h hb ha (k _ _ (Kp.tok s _) (.int _ _))
theorem op_adds {a b : Str} (h : a.length + b.length ≤ sizeLine) : Op2 c (binaryOp .Add) (.str a) (.str b) (.str (a ++ b)) := fun s v u _ _ _ i j Q E k => by
  obtain ⟨t, rfl⟩ := i.str_inv; obtain ⟨t', rfl⟩ := j.str_inv
  exact PyProof.Rows.add_str (fun t' tk => k _ _ (Kp.tok s _) (.str _ _)) h
theorem op_muls {a : Str} {n : Int} (h : MulOk a n) : Op2 c (binaryOp .Mult) (.str a) (.int n) (.str (Txt.mul a n)) := fun s v u _ _ _ i j Q E k => by
  obtain ⟨t, rfl⟩ := i.str_inv; obtain ⟨t', rfl⟩ := j.int_inv
  exact SB.mul h (fun t' tk => k _ _ (Kp.tok s _) (.str _ _))
theorem op_addb {a b : Array UInt8} (h : a.size + b.size ≤ 16777216) : Op2 c (binaryOp .Add) (.bytes a) (.bytes b) (.bytes (a ++ b)) := fun s v u _ _ _ i j Q E k => by
  obtain ⟨t, rfl⟩ := i.bytes_inv; obtain ⟨t', rfl⟩ := j.bytes_inv
  exact KBy.add_bytes h (fun t' tk => k _ _ (Kp.tok s _) (.bytes _ _))
theorem op_subbool {a b : Bool} : Op2 c (binaryOp .Sub) (.bool a) (.bool b) (.int (b2i a - b2i b)) := fun s v u _ _ _ i j Q E k => by
  cases i; cases j
  exact sub_bool (k _ _ (Kp.tok s _) (.int _ _))
theorem op_addl {xs ys : List D} (h : xs.length + ys.length ≤ sizeLine) : Op2 c (binaryOp .Add) (.list xs) (.list ys) (.list (xs ++ ys)) := fun s v u hA _ _ i j Q E k => by
  obtain ⟨l, vs, rfl, hl, ha⟩ := i.list_inv
  obtain ⟨b, ws, rfl, hb, hc⟩ := j.list_inv
  obtain ⟨⟨cls, dd, data, sl⟩, ho, hc1, n, hd⟩ := isList_ext hid_of hl
  obtain ⟨⟨cls2, dd2, data2, sl2⟩, ho2, hc2, n2, hd2⟩ := isList_ext hid_of hb
  simp only at hc1 hd hc2 hd2
  subst hc1 hd hc2 hd2
  have e : vs.toArray ++ ws.toArray = (vs ++ ws).toArray := by simp
  refine concat_meets ⟨_, ho, rfl⟩ ⟨_, ho2, rfl⟩ noFill_list_add seq_list_add PySem.F.slot_list_add PySem.F.entry_list_add (PySem.F.args_list_add_2 _ _) (list_addW l b vs.toArray ws.toArray n n2 dd dd2 sl sl2 ?_) ⟨ho, ho2, ?_⟩
  · simp only [List.size_toArray, ha.length, hc.length]; exact h
  · rw [e]
    exact k _ _ (Kp.heap (Ext.push _ _)) (.list ⟨_, hid_push hA rfl, rfl, _, rfl⟩ ((ha.append hc).ext (hid_ext (Ext.push _ _))))
theorem flat_rep (x : D) : ∀ n : Nat, (List.replicate n [x]).flatten = List.replicate n x
  | 0 => rfl
  | n + 1 => by simp [List.replicate_succ]
theorem isAll_rep {h : Heap} {x : D} {v : Value} (i : Is h x v) : ∀ n : Nat, IsAll h (List.replicate n x) (List.replicate n v)
  | 0 => .nil
  | n + 1 => .cons i (isAll_rep i n)
theorem op_mull {x : D} {n : Int} (hlo : -(2 ^ 63 : Int) ≤ n) (hhi : n < 2 ^ 63) (hz : n.toNat ≤ 256) : Op2 c (binaryOp .Mult) (.list [x]) (.int n) (.list (List.replicate n.toNat x)) := fun s v u hA _ _ i j Q E k => by
  obtain ⟨l, vs, rfl, hl, ha⟩ := i.list_inv
  obtain ⟨t', rfl⟩ := j.int_inv
  obtain ⟨⟨cls, d, data, sl⟩, ho, hcl, m, hd⟩ := isList_ext hid_of hl
  simp only at hcl hd
  subst hcl hd
  cases ha with
  | cons ix ir =>
  cases ir
  rename_i w
  refine wpAny_binaryOp_repeat_ref (T := "list") (U := "int") (by decide) ⟨_, ho, rfl⟩ (fun s' => typeIs_int s' n _) noFill_list_mul F.fills_int_mul F.slot_int_rmul repeat_list F.slot_int_index.lookup
    (call_meets F.slot_int_rmul (typeIs_int s n _) F.entry_int_rmul (F.args_int_rmul_2 _ _) (lm_int_rmul_list_any n _ l [w].toArray m d sl)
      ⟨ho, rfl, ⟨_, ho, rfl⟩, call_meets F.slot_list_mul ⟨_, ho, rfl⟩ F.entry_list_mul (F.args_list_mul_2 _ _)
        (lm_list_mul_any l [w].toArray m d sl n _ (by simp [Builtin.List.listFitsIndex]; omega) (by simp; omega) (by simp [Builtin.List.listTooLong, sizeLine]; omega))
        ⟨ho, ?_⟩⟩)
  rw [listMul_foldl_if]
  refine k _ _ (Kp.heap (Ext.push _ _)) (.list (vs := (List.replicate n.toNat [w]).flatten) ⟨_, hid_push hA rfl, rfl, _, rfl⟩ ?_)
  have : (List.replicate n.toNat [w]).flatten = List.replicate n.toNat w := by
    induction n.toNat with
    | zero => rfl
    | succ q ih => simp [List.replicate_succ, ih]
  rw [this]
  exact isAll_rep (ix.ext (hid_ext (Ext.push _ _))) _

theorem op_eq {a b : Int} : Op2 c (compareOp .Eq) (.int a) (.int b) (.bool (a == b)) := fun s v u _ _ _ i j Q E k => by
  obtain ⟨t, rfl⟩ := i.int_inv; obtain ⟨t', rfl⟩ := j.int_inv
  exact PyProof.Rows.eq_int (k _ _ (Kp.refl s) (.bool _))
theorem op_ne {a b : Int} : Op2 c (compareOp .NotEq) (.int a) (.int b) (.bool (a != b)) := fun s v u _ _ _ i j Q E k => by
  obtain ⟨t, rfl⟩ := i.int_inv; obtain ⟨t', rfl⟩ := j.int_inv
  exact PyProof.Rows.ne_int (k _ _ (Kp.refl s) (.bool _))
theorem op_gt {a b : Int} : Op2 c (compareOp .Gt) (.int a) (.int b) (.bool (decide (b < a))) := fun s v u _ _ _ i j Q E k => by
  obtain ⟨t, rfl⟩ := i.int_inv; obtain ⟨t', rfl⟩ := j.int_inv
  exact PyProof.Rows.gt_int (k _ _ (Kp.refl s) (.bool _))
theorem op_ge {a b : Int} : Op2 c (compareOp .GtE) (.int a) (.int b) (.bool (decide (b ≤ a))) := fun s v u _ _ _ i j Q E k => by
  obtain ⟨t, rfl⟩ := i.int_inv; obtain ⟨t', rfl⟩ := j.int_inv
  exact PyProof.Rows.ge_int (k _ _ (Kp.refl s) (.bool _))
theorem op_le {a b : Int} : Op2 c (compareOp .LtE) (.int a) (.int b) (.bool (decide (a ≤ b))) := fun s v u _ _ _ i j Q E k => by
  obtain ⟨t, rfl⟩ := i.int_inv; obtain ⟨t', rfl⟩ := j.int_inv
  exact PyProof.Rows.le_int (k _ _ (Kp.refl s) (.bool _))
theorem op_eqb {a b : Array UInt8} : Op2 c (compareOp .Eq) (.bytes a) (.bytes b) (.bool (a.toList == b.toList)) := fun s v u _ _ _ i j Q E k => by
  obtain ⟨t, rfl⟩ := i.bytes_inv; obtain ⟨t', rfl⟩ := j.bytes_inv
  exact PySem.W.eq_bytes (k _ _ (Kp.refl s) (.bool _))
theorem op_neb {a b : Array UInt8} : Op2 c (compareOp .NotEq) (.bytes a) (.bytes b) (.bool (a.toList != b.toList)) := fun s v u _ _ _ i j Q E k => by
  obtain ⟨t, rfl⟩ := i.bytes_inv; obtain ⟨t', rfl⟩ := j.bytes_inv
  exact PySem.W.ne_bytes (k _ _ (Kp.refl s) (.bool _))
theorem op_eqs {a b : Str} : Op2 c (compareOp .Eq) (.str a) (.str b) (.bool (a == b)) := fun s v u _ _ _ i j Q E k => by
  obtain ⟨t, rfl⟩ := i.str_inv; obtain ⟨t', rfl⟩ := j.str_inv
  exact PyProof.Rows.eq_str (k _ _ (Kp.refl s) (.bool _))
theorem op_gts {a b : Str} : Op2 c (compareOp .Gt) (.str a) (.str b) (.bool (decide (b.cps.toList < a.cps.toList))) := fun s v u _ _ _ i j Q E k => by
  obtain ⟨t, rfl⟩ := i.str_inv; obtain ⟨t', rfl⟩ := j.str_inv
  exact PySem.P.gt_str (k _ _ (Kp.refl s) (.bool _))
theorem op_lts {a b : Str} : Op2 c (compareOp .Lt) (.str a) (.str b) (.bool (decide (a.cps.toList < b.cps.toList))) := fun s v u _ _ _ i j Q E k => by
  obtain ⟨t, rfl⟩ := i.str_inv; obtain ⟨t', rfl⟩ := j.str_inv
  exact PySem.P.lt_str (k _ _ (Kp.refl s) (.bool _))
theorem op_eqnil {xs : List D} : Op2 c (compareOp .Eq) (.list xs) (.list []) (.bool xs.isEmpty) := fun s v u _ _ hM i j Q E k => by
  obtain ⟨l, vs, rfl, hl, ha⟩ := i.list_inv
  obtain ⟨b, ws, rfl, hb, hc⟩ := j.list_inv
  cases hc
  have hl' := isList_ext hid_of hl
  have hb' := isList_ext hid_of hb
  have hu : c.A.units < cLine := by have := hM.units; omega
  cases xs with
  | nil =>
    cases ha
    exact SeqAt.eq_listAt (e := fun _ => true) hl' hb' rfl hu (fun j h1 _ => absurd h1 (Nat.not_lt_zero _)) (k _ _ (Kp.refl s) (.bool _))
  | cons x xs =>
    exact SeqAt.eq_list_lengthsAt hl' hb' (by have := ha.length; simp [this]) hu (k _ _ (Kp.refl s) (.bool _))
theorem op_in {a : Int} {ns : List Int} : Op2 c (compareOp .In) (.int a) (.ints ns) (.bool (ns.any (· == a))) := fun s v u _ _ _ i j Q E k => by
  obtain ⟨t, rfl⟩ := i.int_inv
  obtain ⟨l, vs, rfl, hl, ha⟩ := j.list_inv
  exact in_list_ints (isList_ext hid_of hl) ha.ints (k _ _ (Kp.refl s) (.bool _))

theorem ev_neg {σ : Vars} {e : Expr} {p : Pos} {a : Int} (h : Ev c σ e (.int a)) : Ev c σ (.UnaryOp .USub e p) (.int (-a)) := fun s I Q E k => UnaryOp_ (h s I _ _ fun v s1 f1 i1 => by
  obtain ⟨t, rfl⟩ := i1.int_inv
  exact PyProof.Rows.neg_int (k _ _ (f1.trans (Kp.tok s1 _)) (.int _ _)))
end


section
variable {c : Cx} {σ : Vars}
theorem ev_item {x : Str} {p pos : Pos} {e : Expr} {ds : List D} {k : Int} {d : D} (h1 : Ev c σ (.Name x p) (.list ds)) (h2 : Ev c σ e (.int k)) (h0 : 0 ≤ k) (hk : ds[k.toNat]? = some d) (hz : k < 2 ^ 63)
    (hs : ∀ o i, subscripted e false o i = operate [o, i] (getItem o i)) : Ev c σ (.Subscript (.Name x p) e pos) d := fun s I Q E q =>
  Subscript_ (h1 s I _ _ fun v s1 f1 i1 => h2 s1 (I.to f1) _ _ fun u s2 f2 i2 => by
    obtain ⟨l, vs, rfl, hl, ha⟩ := (i1.ext (hid_ext f2.ext)).list_inv
    obtain ⟨t, rfl⟩ := i2.int_inv
    obtain ⟨v, hv, iv⟩ := ha.get _ _ hk
    have hl' := isList_ext hid_of hl
    exact subscriptTail_builtin hl'.typeIs slot_list_getitem.lookup (wpAny_getItem_list hl' h0 hz (by simpa using hv) (q _ _ (f1.trans f2) iv)) (hs _ _) (fun _ => rfl))
theorem ev_itemb {x : Str} {p pos : Pos} {e : Expr} {b : List UInt8} {k : Int} (h1 : Ev c σ (.Name x p) (.bytes b.toArray)) (h2 : Ev c σ e (.int k)) (h0 : 0 ≤ k) (hk : k < b.length) (hz : b.length ≤ 1099511627776)
    (hs : ∀ o i, subscripted e false o i = operate [o, i] (getItem o i)) : Ev c σ (.Subscript (.Name x p) e pos) (.int (b.getD k.toNat 0).toNat) := fun s I Q E q =>
  Subscript_ (h1 s I _ _ fun v s1 f1 i1 => h2 s1 (I.to f1) _ _ fun u s2 f2 i2 => by
    obtain ⟨t, rfl⟩ := i1.bytes_inv
    obtain ⟨t', rfl⟩ := i2.int_inv
    exact subscriptTail_builtin (typeIs_bytes s2 _ t) FB.slot_bytes_getitem.lookup (getItem_bytes hz h0 hk (q _ _ ((f1.trans f2).trans (Kp.tok s2 _)) (.int _ _))) (hs _ _) (fun _ => rfl))

noncomputable def pickD {α : Type} (ds : List α) (lo hi st : Option Int) : List α :=
  (sliceRange (sliceBounds lo hi st ds.length).1 (sliceBounds lo hi st ds.length).2.1 (sliceBounds lo hi st ds.length).2.2).filterMap (ds[·]?)
theorem isAll_places {h : Heap} {ds : List D} {vs : List Value} (x : IsAll h ds vs) : ∀ js : List Nat, IsAll h (js.filterMap (ds[·]?)) (js.filterMap (vs[·]?))
  | [] => .nil
  | j :: js => by
    have ih := isAll_places x js
    cases hn : ds[j]? with
    | some d =>
      obtain ⟨v, hv, iv⟩ := x.get j d hn
      simp only [List.filterMap_cons, hn, hv]
      exact .cons iv ih
    | none =>
      have hv : vs[j]? = none := by
        rw [List.getElem?_eq_none_iff] at hn ⊢
        rw [x.length]; exact hn
      simp only [List.filterMap_cons, hn, hv]
      exact ih
theorem isAll_pick {h : Heap} {ds : List D} {vs : List Value} (x : IsAll h ds vs) (lo hi st : Option Int) : IsAll h (pickD ds lo hi st) (slicePick vs.toArray lo hi st).toList := by
  have e : (slicePick vs.toArray lo hi st).toList = (sliceRange (sliceBounds lo hi st ds.length).1 (sliceBounds lo hi st ds.length).2.1 (sliceBounds lo hi st ds.length).2.2).filterMap (vs[·]?) := by
    simp [slicePick, x.length]
  rw [e]
  exact isAll_places x _

inductive EvO (c : Cx) (σ : Vars) : Option Expr → Option Int → Prop
  | none : EvO c σ none none
  | some {e : Expr} {k : Int} : Ev c σ e (.int k) → EvO c σ (some e) (some k)
theorem evo_part {o : Option Expr} {k : Option Int} (h : EvO c σ o k) (s : Shared) (Q E : Value → Shared → Prop) (I : In c σ s) (q : ∀ v s', Kp s s' → IsPart v k → Q v s') : wpAny (model c.prog c.w) c.A (evalPart o c.env) Q E s := by
  cases h with
  | none => rw [evalPart_none]; exact wpAny_pure (q _ s (Kp.refl s) .none)
  | some h =>
    rw [evalPart_some]
    refine h s I _ _ fun v s1 f1 i1 => ?_
    obtain ⟨t, rfl⟩ := i1.int_inv
    exact q _ s1 f1 (.int _ t)

theorem ev_slice {x : Str} {p sp pos : Pos} {lo hi st : Option Expr} {a b k : Option Int} {ds : List D} (h : Ev c σ (.Name x p) (.list ds)) (h1 : EvO c σ lo a) (h2 : EvO c σ hi b) (h3 : EvO c σ st k) (h0 : k ≠ some 0) (hz : ds.length ≤ sizeLine) :
    Ev c σ (.Subscript (.Name x p) (.Slice lo hi st sp) pos) (.list (pickD ds a b k)) := fun s I Q E q => by
  have key : ∀ (o : Value) (s1 s4 : Shared) (vl vu vk : Value), Kp s s1 → Is (hideAll s1.heap c.H) (.list ds) o → Kp s1 s4 → IsPart vl a → IsPart vu b → IsPart vk k → Alive c.H s4.heap →
      ({ s4 with heap := s4.heap.push { cls := .type "slice", data := .fields #[vl, vu, vk] } } : Shared).TypeIs o "list" ∧
        wpAny (model c.prog c.w) c.A (getItem o (.ref s4.heap.objs.size)) Q E { s4 with heap := s4.heap.push { cls := .type "slice", data := .fields #[vl, vu, vk] } } := by
    intro o s1 s4 vl vu vk f1 i1 f4 pl pu pk hA
    obtain ⟨l, vs, rfl, hl, ha⟩ := (i1.ext (hid_ext f4.ext)).list_inv
    have hl' := isList_ext hid_of hl
    refine ⟨Heap.IsList.typeIs (s := { s4 with heap := s4.heap.push _ }) (hl'.push _), ?_⟩
    refine wpAny_getItem_list_slice (hl'.push _) (Heap.IsSliceOf.new ..) pl pu pk h0 ?_ (by rw [List.size_toArray, ha.length]; exact hz)
    have hA' : Alive c.H (s4.heap.push { cls := .type "slice", data := .fields #[vl, vu, vk] }) := hA.ext (Ext.push _ _)
    have hx : Ext s4.heap ((s4.heap.push { cls := .type "slice", data := .fields #[vl, vu, vk] }).push { cls := .type "list", data := .seq (slicePick vs.toArray a b k) }) := (Ext.push _ _).trans (Ext.push _ _)
    refine q _ _ ((f1.trans f4).trans (Kp.heap (tk := s4.toks) hx)) (.list (vs := (slicePick vs.toArray a b k).toList) ⟨_, hid_push hA' rfl, rfl, 0, ?_⟩ ((isAll_pick ha a b k).ext (hid_ext hx)))
    simp
  cases h3 with
  | none =>
    refine wpAny_Subscript_Slice (T := "list") list_getitem_lookup (h s I _ _ fun o s1 f1 i1 => wpAny_Slice (evo_part h1 s1 _ _ (I.to f1) fun vl s2 f2 pl => evo_part h2 s2 _ _ (I.to (f1.trans f2)) fun vu s3 f3 pu => ?_))
    rw [evalPart_none]
    exact wpAny_pure (key o s1 s3 vl vu .none f1 i1 (f2.trans f3) pl pu .none (I.alive.ext ((f1.trans f2).trans f3).ext))
  | some h3 =>
    refine wpAny_Subscript_Slice_step (T := "list") list_getitem_lookup (h s I _ _ fun o s1 f1 i1 => wpAny_Slice (evo_part h1 s1 _ _ (I.to f1) fun vl s2 f2 pl => evo_part h2 s2 _ _ (I.to (f1.trans f2)) fun vu s3 f3 pu =>
      evo_part (.some h3) s3 _ _ (I.to ((f1.trans f2).trans f3)) fun vk s4 f4 pk => ?_))
    exact key o s1 s4 vl vu vk f1 i1 ((f2.trans f3).trans f4) pl pu pk (I.alive.ext (((f1.trans f2).trans f3).trans f4).ext)

noncomputable def pickB (b : List UInt8) (lo hi : Option Int) : List UInt8 := (b.drop (lo.elim 0 (clipAt b.length))).take (hi.elim b.length (clipAt b.length) - lo.elim 0 (clipAt b.length))
theorem ev_sliceb {x : Str} {p sp pos : Pos} {lo hi : Option Expr} {a b : Option Int} {bs : List UInt8} (h : Ev c σ (.Name x p) (.bytes bs.toArray)) (h1 : EvO c σ lo a) (h2 : EvO c σ hi b) (hz : bs.length ≤ sizeLine) :
    Ev c σ (.Subscript (.Name x p) (.Slice lo hi none sp) pos) (.bytes (pickB bs a b).toArray) := fun s I Q E q => by
  refine wpAny_Subscript_Slice (T := "bytes") FB.slot_bytes_getitem.lookup (h s I _ _ fun o s1 f1 i1 => wpAny_Slice (evo_part h1 s1 _ _ (I.to f1) fun vl s2 f2 pl => evo_part h2 s2 _ _ (I.to (f1.trans f2)) fun vu s3 f3 pu => ?_))
  rw [evalPart_none]
  obtain ⟨t, rfl⟩ := i1.bytes_inv
  refine wpAny_pure ⟨typeIs_bytes _ _ _, getItem_meets (typeIs_bytes _ _ _) (by decide) FB.slot_bytes_getitem FB.entry_bytes_getitem (FB.args_bytes_getitem_2 _ _) (KBc.meets_slice2 bs.toArray t _ pl pu)
    ⟨Heap.IsSliceOf.new _ _ _ _, Nat.le_trans (KBc.size_picked_le _ _ _) hz, fun t' k => ?_⟩⟩
  have e : KBy.picked bs.toArray a b = (pickB bs a b).toArray := by rw [KBc.picked_eq]; rfl
  rw [e]
  exact q _ _ (((f1.trans f2).trans f3).trans (Kp.heap (Ext.push _ _))) (.bytes _ _)
end

-- built-in callables
section
variable {K : Frag} {prog : Program} {w : World} {n : Nat}
theorem all1 {h : Heap} {d : D} {vs : List Value} (x : IsAll h [d] vs) : ∃ v, vs = [v] ∧ Is h d v := by
  cases x with
  | cons i r => cases r; exact ⟨_, rfl, i⟩
theorem all2 {h : Heap} {d e : D} {vs : List Value} (x : IsAll h [d, e] vs) : ∃ v u, vs = [v, u] ∧ Is h d v ∧ Is h e u := by
  cases x with
  | cons i r =>
    cases r with
    | cons j r => cases r; exact ⟨_, _, rfl, i, j⟩
theorem all3 {h : Heap} {d e f : D} {vs : List Value} (x : IsAll h [d, e, f] vs) : ∃ v u w, vs = [v, u, w] ∧ Is h d v ∧ Is h e u ∧ Is h f w := by
  cases x with
  | cons i r =>
    cases r with
    | cons j r =>
      cases r with
      | cons l r => cases r; exact ⟨_, _, _, rfl, i, j, l⟩

theorem fn_len {ds : List D} (hz : ds.length ≤ sizeLine) : FnK K prog w n (.builtin "len") [.list ds] (.int ds.length) := fun A H s vs Q E hM _ _ ha k => by
  obtain ⟨v, rfl, i⟩ := all1 ha
  obtain ⟨l, us, rfl, hl, hu⟩ := i.list_inv
  have hn : (us.toArray.size : Int) = ds.length := by rw [List.size_toArray, hu.length]
  refine Calls.call_len_list (isList_ext hid_of hl) ?_ ?_
  · rw [hn]; have : ds.length ≤ 16777216 := hz; omega
  · rw [hn]; exact k _ _ (Kp.tok s _) (.int _ _)
theorem fn_lenb {b : Array UInt8} (hz : b.size ≤ 1099511627776) : FnK K prog w n (.builtin "len") [.bytes b] (.int b.size) := fun A H s vs Q E hM _ _ ha k => by
  obtain ⟨v, rfl, i⟩ := all1 ha
  obtain ⟨t, rfl⟩ := i.bytes_inv
  exact PySem.W.len_bytes hz (k _ _ (Kp.tok s _) (.int _ _))
theorem fn_sum {ns : List Int} : FnK K prog w n (.builtin "sum") [.ints ns] (.int ns.sum) := fun A H s vs Q E hM _ _ ha k => by
  obtain ⟨v, rfl, i⟩ := all1 ha
  obtain ⟨l, us, rfl, hl, hu⟩ := i.list_inv
  obtain ⟨xs, hx⟩ := hu.ints.allInts.items
  have hl' := isList_ext hid_of hl
  rw [hx] at hl'
  refine sum_intListG hM.handled hl' fun h' tk t' hk => ?_
  have e : preSum (numAt xs) xs.size = ns.sum := by
    rw [preSum_eq, List.take_of_length_le (by simp), ← nums_intItems, ← hx]
    show (numsOf us).sum = ns.sum
    rw [hu.ints.numsOf]
  rw [e]
  exact k _ _ (Kp.heap hk) (.int _ _)
theorem fn_range1 {a : Int} : FnK K prog w n (.type "range") [.int a] (.range 0 a 1) := fun A H s vs Q E hM hA _ ha k => by
  obtain ⟨v, rfl, i⟩ := all1 ha
  obtain ⟨t, rfl⟩ := i.int_inv
  exact call_range_1 (k _ _ (Kp.heap (Ext.push _ _)) (.range (hid_push hA rfl)))
theorem fn_range2 {a b : Int} : FnK K prog w n (.type "range") [.int a, .int b] (.range a b 1) := fun A H s vs Q E hM hA _ ha k => by
  obtain ⟨v, u, rfl, i, j⟩ := all2 ha
  obtain ⟨t, rfl⟩ := i.int_inv
  obtain ⟨t', rfl⟩ := j.int_inv
  exact call_range_2 (k _ _ (Kp.heap (Ext.push _ _)) (.range (hid_push hA rfl)))
theorem fn_range3 {a b st : Int} (h0 : st ≠ 0) (hs : st.natAbs < 1073741824) : FnK K prog w n (.type "range") [.int a, .int b, .int st] (.range a b st) := fun A H s vs Q E hM hA _ ha k => by
  obtain ⟨v, u, x, rfl, i, j, l⟩ := all3 ha
  obtain ⟨t, rfl⟩ := i.int_inv
  obtain ⟨t', rfl⟩ := j.int_inv
  obtain ⟨t'', rfl⟩ := l.int_inv
  exact call_range_3 h0 (k _ _ (Kp.heap (Ext.push _ _)) (.range (hid_push hA rfl))) (.inl (PyProof.noPylong_small hs))
theorem fn_divmod {a b : Int} (h0 : b ≠ 0) (hs : b.natAbs < 1073741824) : FnK K prog w n (.builtin "divmod") [.int a, .int b] (.tup [.int (a.fdiv b), .int (a.fmod b)]) := fun A H s vs Q E hM hA _ ha k => by
  obtain ⟨v, u, rfl, i, j⟩ := all2 ha
  obtain ⟨t, rfl⟩ := i.int_inv
  obtain ⟨t', rfl⟩ := j.int_inv
  exact divmod_int h0 (k _ _ (Kp.heap (Ext.push _ _)) (.tup ⟨_, hid_push hA rfl, rfl, _, rfl⟩ (.cons (.int _ _) (.cons (.int _ _) .nil)))) (.inl (PyProof.noPylong_small hs))
theorem fn_abs {a : Int} : FnK K prog w n (.builtin "abs") [.int a] (.int (if a < 0 then -a else a)) := fun A H s vs Q E hM hA _ ha k => by
  obtain ⟨v, rfl, i⟩ := all1 ha
  obtain ⟨t, rfl⟩ := i.int_inv
  exact call_abs_int fun u tk => k _ _ (Kp.tok s _) (.int _ _)
theorem fn_int {a : Int} : FnK K prog w n (.type "int") [.int a] (.int a) := fun A H s vs Q E hM hA _ ha k => by
  obtain ⟨v, rfl, i⟩ := all1 ha
  obtain ⟨t, rfl⟩ := i.int_inv
  exact call_int_int (k _ _ (Kp.refl s) (.int _ _))
theorem fn_chr {a : Int} (h0 : 0 ≤ a) (h1 : a ≤ 1114111) : FnK K prog w n (.builtin "chr") [.int a] (.str ⟨#[a.toNat]⟩) := fun A H s vs Q E hM hA _ ha k => by
  obtain ⟨v, rfl, i⟩ := all1 ha
  obtain ⟨t, rfl⟩ := i.int_inv
  exact chr_of_range h0 h1 (k _ _ (Kp.tok s _) (.str _ _))
theorem fn_bytes {ns : List Int} (hr : ∀ n ∈ ns, 0 ≤ n ∧ n < 256) (hz : ns.length ≤ sizeLine) : FnK K prog w n (.type "bytes") [.ints ns] (.bytes (byteArr ns)) := fun A H s vs Q E hM hA _ ha k => by
  obtain ⟨v, rfl, i⟩ := all1 ha
  obtain ⟨l, us, rfl, hl, hu⟩ := i.list_inv
  exact call_bytes_ints (isList_ext hid_of hl) hu.ints hr (by rw [hu.length, List.length_map]; exact hz) hM.handled fun h' t tk hk => k _ _ (Kp.heap hk) (.bytes _ _)
theorem fn_tuple {ds : List D} (hz : ds.length ≤ sizeLine) : FnK K prog w n (.type "tuple") [.list ds] (.tup ds) := fun A H s vs Q E hM hA _ ha k => by
  obtain ⟨v, rfl, i⟩ := all1 ha
  obtain ⟨l, us, rfl, hl, hu⟩ := i.list_inv
  refine call_tuple_list (isList_ext hid_of hl) (fun h' hk => ?_) (by rw [List.size_toArray, hu.length]; exact hz)
  have hk' : Ext s.heap h' := hk
  exact k _ _ (Kp.heap (tk := s.toks) (hk'.trans (Ext.push _ _))) (.tup ⟨_, hid_push (hA.ext hk') rfl, rfl, _, rfl⟩ (hu.ext (hid_ext (hk'.trans (Ext.push _ _)))))
theorem fn_max {ns : List Int} (hne : 0 < ns.length) {M : Int} (hM1 : M ∈ ns) (hM2 : ∀ a ∈ ns, a ≤ M) : FnK K prog w n (.builtin "max") [.ints ns] (.int M) := fun A H s vs Q E hM hA _ ha k => by
  obtain ⟨v, rfl, i⟩ := all1 ha
  obtain ⟨l, us, rfl, hl, hu⟩ := i.list_inv
  obtain ⟨xs, hx⟩ := hu.ints.allInts.items
  have hl' := isList_ext hid_of hl
  rw [hx] at hl'
  have hns : xs.toList.map (·.1) = ns := by
    rw [← nums_intItems, ← hx]
    show numsOf us = ns
    rw [hu.ints.numsOf]
  have hsz : 0 < xs.size := by
    have : xs.size = ns.length := by rw [← hns]; simp
    omega
  refine max_intList hM.handled hl' hsz fun v h' tk hv hk => ?_
  obtain ⟨t, rfl⟩ := intItems_at hv
  obtain ⟨h1, h2⟩ := argBest_gt (numAt xs) (xs.size - 1)
  have e : numAt xs (argBest (fun i j => decide (numAt xs i > numAt xs j)) (xs.size - 1)) = M := by
    apply Int.le_antisymm
    · refine hM2 _ ?_
      rw [numAt_eq, hns]; exact getD_mem (by rw [← hns, List.length_map, Array.length_toList]; omega)
    · obtain ⟨j, hj, e⟩ := mem_getD (hns ▸ hM1)
      rw [List.length_map, Array.length_toList] at hj
      rw [← e, ← numAt_eq]; exact h2 j (by omega)
  rw [e]
  exact k _ _ (Kp.heap hk) (.int _ _)
end



noncomputable def SubV : Vars → Vars → Prop
  | [], _ => True
  | (x, d) :: r, σ => σ.lookup x = some d ∧ SubV r σ
theorem SubV.get : ∀ {σ' σ : Vars}, SubV σ' σ → ∀ x d, σ'.lookup x = some d → σ.lookup x = some d
  | (y, e) :: r, σ, h, x, d, q => by
    rw [List.lookup_cons] at q
    cases hb : x == y with
    | true => rw [hb] at q; cases q; have := eq_of_beq hb; subst this; exact h.1
    | false => rw [hb] at q; exact SubV.get h.2 x d q
theorem In.sub' {c : Cx} {σ σ' : Vars} {s : Shared} (I : In c σ s) (h : SubV σ' σ) : In c σ' s := I.weaken h.get

section
variable {c : Cx} {σ : Vars} {s : Shared} {Q : Flow → Shared → Prop} {E : Value → Shared → Prop} {rest : List Stmt}

theorem unpack2 {a b : Str} {p q tp : Pos} {k : Nat} {d1 d2 : D} {v : Value} {R : Unit → Shared → Prop} (I : In c σ s) (i : Is (hideAll s.heap c.H) (.tup [d1, d2]) v) (ha : Sto c a) (hb : Sto c b)
    (kk : ∀ s', In c ((b, d2) :: (a, d1) :: σ) s' → R () s') : wpAny (model c.prog c.w) c.A (assign (.Tuple [.Name a p, .Name b q] k tp) c.env v) R E s := by
  obtain ⟨t, vs, rfl, ht, hv⟩ := i.tup_inv
  obtain ⟨x, y, rfl, ix, iy⟩ := all2 hv
  show wpAny _ _ (do standAt tp; unpack (.ref t) (assignEach [.Name a p, .Name b q] c.env)) R E s
  refine wpAny_bind (wpAny_standAt (unpack_tuple I.amb.handled (ht.keeps hid_of) rfl rfl fun h' hx => ?_))
  have hk : Ext s.heap h' := fun b o e => hx b o (Nat.ne_of_lt (Heap.lt_size e)) e
  have I1 := I.to (Kp.heap (tk := s.toks) hk)
  refine assignInOrder_cons (wpAny_assign_Name (I1.store' ha (ix.ext (hid_ext hk)) fun s2 I2 e2 => ?_))
  exact assignInOrder_cons (wpAny_assign_Name (I2.store hb ((iy.ext (hid_ext hk)).ext e2) fun s3 I3 => assignInOrder_nil (kk s3 I3)))

theorem unpack3 {a b g : Str} {p q r tp : Pos} {k : Nat} {d1 d2 d3 : D} {v : Value} {R : Unit → Shared → Prop} (I : In c σ s) (i : Is (hideAll s.heap c.H) (.tup [d1, d2, d3]) v) (ha : Sto c a) (hb : Sto c b) (hg : Sto c g)
    (kk : ∀ s', In c ((g, d3) :: (b, d2) :: (a, d1) :: σ) s' → R () s') : wpAny (model c.prog c.w) c.A (assign (.Tuple [.Name a p, .Name b q, .Name g r] k tp) c.env v) R E s := by
  obtain ⟨t, vs, rfl, ht, hv⟩ := i.tup_inv
  obtain ⟨x, y, z, rfl, ix, iy, iz⟩ := all3 hv
  show wpAny _ _ (do standAt tp; unpack (.ref t) (assignEach [.Name a p, .Name b q, .Name g r] c.env)) R E s
  refine wpAny_bind (wpAny_standAt (unpack_tuple I.amb.handled (ht.keeps hid_of) rfl rfl fun h' hx => ?_))
  have hk : Ext s.heap h' := fun b o e => hx b o (Nat.ne_of_lt (Heap.lt_size e)) e
  have I1 := I.to (Kp.heap (tk := s.toks) hk)
  refine assignInOrder_cons (wpAny_assign_Name (I1.store' ha (ix.ext (hid_ext hk)) fun s2 I2 e2 => ?_))
  refine assignInOrder_cons (wpAny_assign_Name (I2.store' hb ((iy.ext (hid_ext hk)).ext e2) fun s3 I3 e3 => ?_))
  exact assignInOrder_cons (wpAny_assign_Name (I3.store hg (((iz.ext (hid_ext hk)).ext e2).ext e3) fun s4 I4 => assignInOrder_nil (kk s4 I4)))

theorem x_unpack2 {a b : Str} {p q tp pos : Pos} {k : Nat} {d1 d2 : D} {e : Expr} (I : In c σ s) (he : Ev c σ e (.tup [d1, d2])) (ha : Sto c a) (hb : Sto c b)
    (kk : ∀ s', In c ((b, d2) :: (a, d1) :: σ) s' → wpAny (model c.prog c.w) c.A (execs rest c.env) Q E s')
    (hs : swapsWithSole [.Tuple [.Name a p, .Name b q] k tp] e pos.line c.env = pure false := by rfl) (hw : swappedStores [.Tuple [.Name a p, .Name b q] k tp] e c.env = pure none := by rfl) :
    wpAny (model c.prog c.w) c.A (execs (.Assign [.Tuple [.Name a p, .Name b q] k tp] e pos :: rest) c.env) Q E s :=
  wpAny_execs_cons (Assign_Tuple (he s I _ _ fun v s1 f1 i1 => unpack2 (I.to f1) i1 ha hb kk) hs hw)
theorem x_unpack3 {a b g : Str} {p q r tp pos : Pos} {k : Nat} {d1 d2 d3 : D} {e : Expr} (I : In c σ s) (he : Ev c σ e (.tup [d1, d2, d3])) (ha : Sto c a) (hb : Sto c b) (hg : Sto c g)
    (kk : ∀ s', In c ((g, d3) :: (b, d2) :: (a, d1) :: σ) s' → wpAny (model c.prog c.w) c.A (execs rest c.env) Q E s')
    (hs : swapsWithSole [.Tuple [.Name a p, .Name b q, .Name g r] k tp] e pos.line c.env = pure false := by rfl) (hw : swappedStores [.Tuple [.Name a p, .Name b q, .Name g r] k tp] e c.env = pure none := by rfl) :
    wpAny (model c.prog c.w) c.A (execs (.Assign [.Tuple [.Name a p, .Name b q, .Name g r] k tp] e pos :: rest) c.env) Q E s :=
  wpAny_execs_cons (Assign_Tuple (he s I _ _ fun v s1 f1 i1 => unpack3 (I.to f1) i1 ha hb hg kk) hs hw)

/-- x op= e -/
theorem x_aug {x : Str} {op : Operator} {e : Expr} {p pos : Pos} {d1 d2 d : D} (I : In c σ s) (h1 : Ev c σ (.Name x p) d1) (he : Ev c σ e d2) (ho : Op2 c (inplaceOp op) d1 d2 d) (hx : Sto c x) (hl : σ.lookup x = some d1)
    (kk : ∀ s', In c ((x, d) :: σ) s' → wpAny (model c.prog c.w) c.A (execs rest c.env) Q E s') :
    wpAny (model c.prog c.w) c.A (execs (.AugAssign (.Name x p) op e pos :: rest) c.env) Q E s := by
  refine wpAny_execs_cons (wpAny_AugAssign_Name ?_)
  obtain ⟨v, r, i⟩ := I.vars x d1 hl
  have load : ∀ (R E : Value → Shared → Prop), R v s → wpAny (model c.prog c.w) c.A (loadName c.env x) R E s := fun R E k => by
    rcases r with ⟨a, m, e, f⟩ | ⟨a | ⟨a, a'⟩, b, e, f⟩
    · exact wpAny_loadName_local I.kind a e f k
    · exact wpAny_loadName_cell I.kind a e f k
    · exact wpAny_loadName_free I.kind a e f k a'
  refine load _ _ (he s I _ _ fun u s1 f1 i1 => ?_)
  have I1 := I.to f1
  exact ho s1 v u I1.alive I1.ground I1.amb (i.ext (hid_ext f1.ext)) i1 _ _ fun z s2 f2 i2 => (I1.to f2).store hx i2 fun s3 I3 => kk s3 I3

theorem x_assign3 {a b g : Str} {p q r pos : Pos} {e : Expr} {d : D} (I : In c σ s) (he : Ev c σ e d) (ha : Sto c a) (hb : Sto c b) (hg : Sto c g)
    (kk : ∀ s', In c ((g, d) :: (b, d) :: (a, d) :: σ) s' → wpAny (model c.prog c.w) c.A (execs rest c.env) Q E s')
    (hw : swappedStores [.Name a p, .Name b q, .Name g r] e c.env = pure none := by rfl) :
    wpAny (model c.prog c.w) c.A (execs (.Assign [.Name a p, .Name b q, .Name g r] e pos :: rest) c.env) Q E s :=
  wpAny_execs_cons (wpAny_Assign_three (he s I _ _ fun v s1 f1 i1 => wpAny_assign_Name ((I.to f1).store' ha i1 fun s2 I2 e2 => wpAny_assign_Name (I2.store' hb (i1.ext e2) fun s3 I3 e3 =>
    wpAny_assign_Name (I3.store hg ((i1.ext e2).ext e3) fun s4 I4 => kk s4 I4)))) rfl hw)
end


theorem ev_join1 {c : Cx} {σ : Vars} {sep : Str} {kk : Nat} {p ap pos : Pos} {e : Expr} {ys : List Str} (h : Ev c σ e (.list (ys.map .str))) (hok : (ys.map (·.length)).sum + ys.length * sep.length ≤ 16777216)
    (hs : starEach [e] c.env = [(false, eval e c.env)]) (hbase : attributeBase (.Constant (.str sep) kk p) "join" c.env (eval (.Constant (.str sep) kk p) c.env) = eval (.Constant (.str sep) kk p) c.env) (hline : (ap.endLine == pos.line) = true) :
    Ev c σ (.Call (.Attribute (.Constant (.str sep) kk p) "join" ap) [e] [] pos) (.str (Txt.join sep ys)) := fun s I Q E q => by
  refine Call_method1 hbase hs hline (Calls.Constant_str ⟨"str", "str.join", PySem.F.plainAttrs_str, PySem.F.slot_str_join, PySem.F.type_str_join, typeIs_str _ sep _, (fun a e => nomatch e), ?_⟩)
  have f0 := Kp.tok s (s.toks + 1)
  refine Calls.callWith_builtin rfl (Calls.evalArgs_plain (Calls.spliced_cons (h _ (I.to f0) _ _ fun v s1 f1 i1 => Calls.spliced_nil ?_)))
  obtain ⟨l, us, rfl, hl, hu⟩ := i1.list_inv
  exact join_list (items := us.toArray) (isList_ext hid_of hl) hu.strs hok fun t' tk => q _ _ ((f0.trans f1).trans (Kp.tok s1 _)) (.str _ _)

theorem len_one_sum : ∀ (l : List Nat), ((l.map fun n => (⟨#[n]⟩ : Str)).map (·.length)).sum = l.length
  | [] => rfl
  | a :: l => by
    have := len_one_sum l
    simp only [List.map_cons, List.sum_cons, List.length_cons, this]
    show 1 + l.length = _
    omega


theorem pickD_nat {α : Type} (ds : List α) {lo hi : Option Int} {a b : Nat} (e : sliceBounds lo hi none ds.length = ((a : Int), (b : Int), 1)) : pickD ds lo hi none = (ds.drop a).take (b - a) := by
  unfold pickD
  rw [e]
  have := pick_run ds.toArray a (b - a)
  simp only [sliceRange_one]
  simpa using this
theorem clipN (x n : Nat) : max 0 (min (if (x : Int) < 0 then (x : Int) + (n : Int) else (x : Int)) (n : Int)) = ((min x n : Nat) : Int) := by
  rw [if_neg (Int.not_lt.mpr (Int.natCast_nonneg x))]
  omega
theorem pickD_upto {α : Type} (ds : List α) {y : Int} (h : 0 ≤ y) : pickD ds none (some y) none = ds.take y.toNat := by
  obtain ⟨n, rfl⟩ := Int.eq_ofNat_of_zero_le h
  have e : sliceBounds none (some (n : Int)) none ds.length = (((0 : Nat) : Int), ((min n ds.length : Nat) : Int), 1) := by
    rw [← clipN]; rfl
  rw [pickD_nat _ e, List.drop_zero, Nat.sub_zero, W.kmk_take_min]; rfl
theorem pickD_from {α : Type} (ds : List α) {x : Int} (h : 0 ≤ x) : pickD ds (some x) none none = ds.drop x.toNat := by
  obtain ⟨n, rfl⟩ := Int.eq_ofNat_of_zero_le h
  have e : sliceBounds (some (n : Int)) none none ds.length = (((min n ds.length : Nat) : Int), ((ds.length : Nat) : Int), 1) := by
    rw [← clipN]; rfl
  rw [pickD_nat _ e, W.kmk_drop_min, List.take_of_length_le (by rw [List.length_drop]; omega)]; rfl
theorem pickD_run {α : Type} (ds : List α) {x y : Int} (h : 0 ≤ x) (h2 : 0 ≤ y) : pickD ds (some x) (some y) none = (ds.drop x.toNat).take (min y.toNat ds.length - x.toNat) := by
  obtain ⟨n, rfl⟩ := Int.eq_ofNat_of_zero_le h
  obtain ⟨m, rfl⟩ := Int.eq_ofNat_of_zero_le h2
  have e : sliceBounds (some (n : Int)) (some (m : Int)) none ds.length = (((min n ds.length : Nat) : Int), ((min m ds.length : Nat) : Int), 1) := by
    rw [← clipN, ← clipN]; rfl
  rw [pickD_nat _ e, W.kmk_drop_min, Int.toNat_natCast, Int.toNat_natCast, show min m ds.length - min n ds.length = min m ds.length - n from (Nat.le_total n ds.length).elim (fun h => by rw [Nat.min_eq_left h]) fun h => by rw [Nat.min_eq_right h, Nat.sub_eq_zero_of_le (Nat.min_le_right _ _), Nat.sub_eq_zero_of_le (Nat.le_trans (Nat.min_le_right _ _) h)]]
theorem pickD_rev {α : Type} (ds : List α) : pickD ds none none (some (-1)) = ds.reverse := by
  unfold pickD
  rw [W.krv_bounds]
  show ((sliceRange ((ds.length : Int) - 1) (-1) (-1)).filterMap (ds[·]?)) = _
  have := W.krv_all ds.toArray
  rw [W.krv_sliceRange, W.krv_range, List.filterMap_reverse]
  simpa using this
theorem pickD_map {α β : Type} (f : α → β) (ds : List α) (a b k : Option Int) : pickD (ds.map f) a b k = (pickD ds a b k).map f := by
  unfold pickD
  rw [List.length_map, List.map_filterMap]
  congr 1
  funext i
  simp
theorem pickD_len {α : Type} (ds : List α) (a b k : Option Int) : (pickD ds a b k).length ≤ ds.length := by
  have h := slicePick_size_le (ds.map fun _ => Value.none).toArray a b k
  have e : (slicePick (ds.map fun _ => Value.none).toArray a b k).size = (pickD (ds.map fun _ => Value.none) a b k).length := by
    simp [slicePick, pickD]
  rw [e, pickD_map, List.length_map] at h
  simpa using h

section
variable {c : Cx} {σ : Vars}
theorem op_iadd {a b : Int} : Op2 c (inplaceOp .Add) (.int a) (.int b) (.int (a + b)) := fun s v u _ _ _ i j Q E k => by
  obtain ⟨t, rfl⟩ := i.int_inv; obtain ⟨t', rfl⟩ := j.int_inv
  exact PyProof.Rows.iadd_int (k _ _ (Kp.tok s _) (.int _ _))
theorem itr_range1 {s : Shared} {m : Int} {n : Nat} {v : Value} (hA : c.A.handled = none) (hm : m < 2 ^ 62) (hn : m.toNat = n) (h0 : -(2 ^ 62) ≤ m) (i : Is (hideAll s.heap c.H) (.range 0 m 1) v) : Itr c s v n (fun j => .int (j : Int)) := by
  have e : (fun j : Nat => D.int (j : Int)) = fun j => .int (0 + j * 1) := by funext j; congr 1; omega
  rw [e]
  refine itr_range hA (small_one (by decide) (by decide) h0 hm) ?_ i
  unfold Builtin.Range.rangeSize
  simp
  omega
theorem itr_range2 {s : Shared} {a m : Int} {n : Nat} {v : Value} (hA : c.A.handled = none) (ha : -(2 ^ 62) ≤ a) (ha' : a < 2 ^ 62) (hm : m < 2 ^ 62) (hn : (m - a).toNat = n) (h0 : -(2 ^ 62) ≤ m) (i : Is (hideAll s.heap c.H) (.range a m 1) v) : Itr c s v n (fun j => .int (a + (j : Int))) := by
  have e : (fun j : Nat => D.int (a + (j : Int))) = fun j : Nat => .int (a + (j : Int) * 1) := by funext j; congr 1; omega
  rw [e]
  refine itr_range hA (small_one ha ha' h0 hm) ?_ i
  unfold Builtin.Range.rangeSize
  simp
  omega
theorem ints_get {ns : List Int} {k : Int} (h0 : 0 ≤ k) (h : k < ns.length) : (ns.map D.int)[k.toNat]? = some (.int (ns.getD k.toNat 0)) := by
  have : k.toNat < ns.length := by omega
  simp [List.getD, this]
theorem get_of_lt {ds : List D} {x : D} {k : Int} (h0 : 0 ≤ k) (h : k < ds.length) : ds[k.toNat]? = some (ds.getD k.toNat x) := by
  have : k.toNat < ds.length := by omega
  simp [List.getD, this]
end


noncomputable abbrev Cx.comp1 (c : Cx) (scope : Scope) (x : Str) (C a Da : Addr) (s : Shared) : Cx :=
  { c with env := compEnvC scope ((x, a) :: closL c.env.cells scope.names []) C c.env, H := C :: a :: Da :: c.H, m := [C, a, Da], pure := true, s₀ := s }

theorem lookup_relabel_cell {env : Env} : ∀ {names : List (Str × NameKind)} {x : Str}, names.lookup x = some .cell →
    (names.map fun (n, k) => if (k == NameKind.free && env.scope.kind == .function && env.kindOf n == some .cell) then (n, NameKind.cell) else (n, k)).lookup x = some .cell
  | [], x, h => by simp at h
  | (n, k) :: r, x, h => by
    rw [List.lookup_cons] at h
    show List.lookup x ((if (k == NameKind.free && env.scope.kind == .function && env.kindOf n == some .cell) = true then (n, NameKind.cell) else (n, k)) :: _) = _
    cases hx : x == n with
    | true =>
      rw [hx] at h; cases h
      split <;> rw [List.lookup_cons, hx]
    | false =>
      rw [hx] at h
      have ih := lookup_relabel_cell (env := env) h
      split
      · rw [List.lookup_cons, hx]; exact ih
      · rw [List.lookup_cons, hx]; exact ih

structure ScOk1 (c : Cx) (scope : Scope) (x : Str) : Prop where
  nloc : (scope.names.all fun p => !(p.2 == .free) || !(c.env.kindOf p.1 == some .local)) = true
  clos : (scope.names.all fun p => !(p.2 == .free) || (c.env.cells.lookup p.1).isSome) = true
  own : ∀ n acc, cellsFrom n scope.names acc = (x, n) :: acc
  psh : ∀ h, pushCells h scope.names = h.push { cls := .type "cell", data := .cell none }
  kind : scope.kind = .function
  names : ∀ x ∈ scope.names, x.2 = .local → scope.names.lookup x.1 = some .local
  isx : scope.names.lookup x = some .cell
theorem scOk1 {c : Cx} {scope : Scope} {x : Str} (h1 : (scope.names.all fun p => !(p.2 == .free) || !(c.env.kindOf p.1 == some .local)) = true) (h2 : (scope.names.all fun p => !(p.2 == .free) || (c.env.cells.lookup p.1).isSome) = true)
    (h3 : ∀ n acc, cellsFrom n scope.names acc = (x, n) :: acc) (h3' : ∀ h, pushCells h scope.names = h.push { cls := .type "cell", data := .cell none }) (h4 : scope.kind = .function) (h5 : (scope.names.all fun p => !(p.2 == .local) || scope.names.lookup p.1 == some .local) = true)
    (h6 : scope.names.lookup x = some .cell) : ScOk1 c scope x where
  nloc := h1
  clos := h2
  own := h3
  psh := h3'
  kind := h4
  names := fun x hx e => by
    have := List.all_eq_true.mp h5 x hx
    rw [e] at this
    simpa using this
  isx := h6

theorem freeVars_cons1 {scope : Scope} {σ : Vars} {x : Str} {v : D} (hx : scope.names.lookup x = some .cell) : ∀ y d, (freeVars scope σ).lookup y = some d → ((x, v) :: freeVars scope σ).lookup y = some d := fun y d h => by
  rw [List.lookup_cons]
  cases hy : y == x with
  | true =>
    have := eq_of_beq hy; subst this
    have := (freeVars_get h).2.1
    rw [hx] at this; cases this
  | false => exact h

theorem ev_comp1 {c : Cx} {σ : Vars} {elt iter : Expr} {x : Str} {px : Pos} {scope : Scope} {pos : Pos} {d : D} {n : Nat} {it : Nat → D}
    (he : Ev c σ iter d) (hit : ∀ s v, In c σ s → Is (hideAll s.heap c.H) d v → Itr c s v n it) (ok : ScOk1 c scope x) (out : Nat → D) (hz : n ≤ sizeLine)
    (turn : ∀ i I C a Da s1 s2, i < n → Ev ((c.comp1 scope x C a Da s1).turn I s2) ((x, it i) :: freeVars scope σ) elt (out i))
    (hs : ∀ x, foldedSetIterable iter c.env x = pure x := by intro _; rfl) :
    Ev c σ (.ListComp elt [⟨.Name x px, iter, [], 0⟩] scope pos) (.list (outs (fun i => [out i]) n)) := fun s I Q E k => by
  rw [eval_ListComp]
  refine wpAny_comprehension_free (use := none) rfl hs (closureFor_closL ok.clos) ok.kind ok.names (he s I _ _ fun v s1 f1 i1 => ?_)
  have I1 := I.to f1
  refine hit s1 v I1 i1 _ _ fun Ia s2 f2 hn ho S => ?_
  obtain ⟨I2, hI, hs₀⟩ := I1.ins f2 hn ho
  refine wpAny_newObj_type ?_
  simp only [newFunctionEnv, Option.isSome_some, if_true]
  refine wpAny_bind (wpAny_alloc (wpAny_bind (wpAny_layCells _ (fun name kind cells => by cases hkc : kind == NameKind.cell <;> simp) _ _ _ _ ?_)))
  rw [ok.own, ok.psh]
  rw [List.forIn_nil]
  refine wpAny_bind (wpAny_pure (wpAny_pure ?_))
  dsimp only
  generalize hH2 : s2.heap.push { cls := .type "list", dict := none, data := .seq ([] : List Value).toArray } = H2
  have hC : H2.objs.size = s2.heap.objs.size + 1 := by rw [← hH2, Heap.size_push]
  have hA : (H2.push { cls := .type "dict", data := .dict #[] }).objs.size = H2.objs.size + 1 := by rw [Heap.size_push]
  generalize hH3 : H2.push { cls := .type "dict", data := .dict #[] } = H3 at hA
  generalize hh1 : H3.push { cls := .type "cell", data := .cell none } = h₁
  have hns₁ : h₁.Ns H2.objs.size (fun _ => none) := by
    have := Heap.Ns.new H2 (.type "dict")
    rw [hH3] at this
    exact hh1 ▸ this.keeps (Ext.push H3 _)
  have hcell₁ : h₁.IsCell H3.objs.size none := ⟨_, hh1 ▸ Heap.get?_push_size _ rfl, rfl⟩
  have hDC : s2.heap.objs.size ≠ H2.objs.size := by omega
  have hDA : s2.heap.objs.size ≠ H3.objs.size := by omega
  have hCA : H3.objs.size ≠ H2.objs.size := by omega
  have k2H : Ext s2.heap H2 := hH2 ▸ Ext.push _ _
  have kH1 : Ext H2 h₁ := Ext.trans (hH3 ▸ Ext.push _ _) (hh1 ▸ Ext.push _ _)
  have k24 : Ext s2.heap h₁ := k2H.trans kH1
  have nG : ∀ {h : Heap} {z : Addr}, s2.heap.objs.size ≤ z → Ext h s2.heap → h.get? z = none := fun {h z} hz k => by
    cases e : h.get? z with
    | none => rfl
    | some o => exact absurd (Heap.lt_size (k _ _ e)) (Nat.not_lt.mpr hz)
  have nD : ∀ {h : Heap}, Ext h s2.heap → h.get? s2.heap.objs.size = none := fun k => nG (Nat.le_refl _) k
  have nC : ∀ {h : Heap}, Ext h s2.heap → h.get? H2.objs.size = none := fun k => nG (by omega) k
  have nA : ∀ {h : Heap}, Ext h s2.heap → h.get? H3.objs.size = none := fun k => nG (by omega) k
  have hCH : H2.objs.size ∉ c.H := fun q => by obtain ⟨o, e⟩ := I1.alive _ q; rw [nC f2.ext] at e; cases e
  have hAH : H3.objs.size ∉ c.H := fun q => by obtain ⟨o, e⟩ := I1.alive _ q; rw [nA f2.ext] at e; cases e
  have hDH : s2.heap.objs.size ∉ c.H := fun q => by obtain ⟨o, e⟩ := I1.alive _ q; rw [nD f2.ext] at e; cases e
  have hIlt : Ia < s2.heap.objs.size := let ⟨o, e⟩ := ho; Heap.lt_size e
  have hIC : Ia ≠ H2.objs.size := Nat.ne_of_lt (Nat.lt_trans hIlt (by omega))
  have hIA : Ia ≠ H3.objs.size := Nat.ne_of_lt (Nat.lt_trans hIlt (by omega))
  have hID : Ia ≠ s2.heap.objs.size := Nat.ne_of_lt hIlt
  have hcl : ∀ x b, (x, b) ∈ closL c.env.cells scope.names [] → (x, b) ∈ c.env.cells := fun x b h => (closL_mem _ _ ok.clos h).elim id fun z => nomatch z
  have kp4 : Kp s1 { s2 with heap := h₁ } := f2.trans (Kp.heap k24)
  have hacc : h₁.get? s2.heap.objs.size = some { cls := .type "list", dict := none, data := .seq ([] : List Value).toArray } :=
    kH1 _ _ (hH2 ▸ Heap.get?_push_size _ rfl)
  have hCal : ∃ o, h₁.get? H2.objs.size = some o := let ⟨o, _, _, e, _⟩ := hns₁; ⟨o, e⟩
  have hAal : ∃ o, h₁.get? H3.objs.size = some o := let ⟨o, e, _⟩ := hcell₁; ⟨o, e⟩
  have inn : In ((c.comp1 scope x H2.objs.size H3.objs.size s2.heap.objs.size s1).more Ia) (freeVars scope σ) { s2 with heap := h₁ } := by
    refine { fut := kp4.fut, same := fun _ => kp4.same, amb := I1.amb, gr := I1.ground, kind := ?_, glob := I1.glob, blt := I1.blt, alive := ?_, sub := ?_, fresh := ?_, locals := ⟨List.mem_cons_self, _, hns₁⟩, cells := ?_, apart := ?_, vars := ?_ }
    · exact ok.kind
    · intro b hb
      rcases List.mem_cons.mp hb with rfl | hb
      · obtain ⟨o, e⟩ := ho; exact ⟨o, k24 _ _ e⟩
      rcases List.mem_cons.mp hb with rfl | hb
      · exact hCal
      rcases List.mem_cons.mp hb with rfl | hb
      · exact hAal
      rcases List.mem_cons.mp hb with rfl | hb
      · exact ⟨_, hacc⟩
      · obtain ⟨o, e⟩ := I1.alive b hb; exact ⟨o, k24 _ _ (f2.ext _ _ e)⟩
    · intro b hb
      simp only [List.mem_cons, List.not_mem_nil, or_false] at hb ⊢
      rcases hb with rfl | rfl | rfl <;> simp
    · intro b hb
      simp only [List.mem_cons, List.not_mem_nil, or_false] at hb
      rcases hb with rfl | rfl | rfl
      · exact nC f2.ext
      · exact nA f2.ext
      · exact nD f2.ext
    · intro y b hb
      rcases List.mem_cons.mp hb with e | hb
      · cases e
        exact ⟨List.mem_cons_of_mem _ (List.mem_cons_of_mem _ List.mem_cons_self), hCA, none, hcell₁⟩
      · obtain ⟨p, q, v, r⟩ := I1.cells y b (hcl y b hb)
        exact ⟨List.mem_cons_of_mem _ (List.mem_cons_of_mem _ (List.mem_cons_of_mem _ (List.mem_cons_of_mem _ p))), fun (z : b = H2.objs.size) => hCH (z ▸ p), v, (r.keeps f2.ext).keeps k24⟩
    · intro y b z b' h1 h2 hm e
      rcases List.mem_cons.mp h1 with e1 | h1
      · cases e1
        rcases List.mem_cons.mp h2 with e2 | h2
        · cases e2; rfl
        · have := (I1.cells z b' (hcl z b' h2)).1
          rw [e] at this; exact absurd this hAH
      · have hp := (I1.cells y b (hcl y b h1)).1
        simp only [List.mem_cons, List.not_mem_nil, or_false] at hm
        rcases hm with rfl | rfl | rfl
        · exact absurd hp hCH
        · exact absurd hp hAH
        · exact absurd hp hDH
    · intro y d' hd
      obtain ⟨e1, e2, e3⟩ := freeVars_get hd
      obtain ⟨v, r, i⟩ := I1.vars y d' e1
      refine ⟨v, ?_, i.ext fun b o e => hideAll_get _ (k24 _ _ (f2.ext _ _ (of_hideAll _ e))) fun z => ?_⟩
      · have hrl := lookup_relabel_free (env := c.env) e2
        have hin : (c.env.cells.lookup y).isSome = true := by
          have := List.all_eq_true.mp ok.clos (y, .free) (mem_of_lookup e2)
          simpa using this
        obtain ⟨b, ha⟩ := Option.isSome_iff_exists.mp hin
        have hfree : ∃ b, c.env.cells.lookup y = some b ∧ s1.heap.IsCell b (some v) := by
          rcases r with ⟨k, m, f, g⟩ | ⟨_, b, f, g⟩
          · have := List.all_eq_true.mp ok.nloc (y, .free) (mem_of_lookup e2)
            simp [k] at this
          · exact ⟨b, f, g⟩
        obtain ⟨b, f, g⟩ := hfree
        have hyx : (y == x) = false := by
          cases q : y == x with
          | false => rfl
          | true =>
            have := eq_of_beq q; subst this
            rw [ok.isx] at e2; cases e2
        refine .inr ⟨?_, b, by show List.lookup y ((x, _) :: _) = _; rw [List.lookup_cons, hyx]; exact closL_get f _ _ (.inl e2), (g.keeps f2.ext).keeps k24⟩
        rcases hrl with h | h
        · exact .inl h
        · exact .inr ⟨h, e3⟩
      · rcases List.mem_cons.mp z with rfl | z
        · rw [of_hideAll _ e] at hn; cases hn
        rcases List.mem_cons.mp z with rfl | z
        · have := of_hideAll _ e; rw [nC f2.ext] at this; cases this
        rcases List.mem_cons.mp z with rfl | z
        · have := of_hideAll _ e; rw [nA f2.ext] at this; cases this
        rcases List.mem_cons.mp z with rfl | z
        · have := of_hideAll _ e; rw [nD f2.ext] at this; cases this
        · exact hid_not e z
  have hIH : Ia ∉ (c.comp1 scope x H2.objs.size H3.objs.size s2.heap.objs.size s1).H := fun q => by
    rcases List.mem_cons.mp q with h | q
    · exact hIC h
    rcases List.mem_cons.mp q with h | q
    · exact hIA h
    rcases List.mem_cons.mp q with h | q
    · exact hID h
    · exact hI q
  have hcc : ∀ y b, (y, b) ∈ (c.comp1 scope x H2.objs.size H3.objs.size s2.heap.objs.size s1).env.cells → b ∈ (c.comp1 scope x H2.objs.size H3.objs.size s2.heap.objs.size s1).H ∧ b ≠ s2.heap.objs.size := fun y b hb => by
    rcases List.mem_cons.mp hb with e | hb
    · cases e
      exact ⟨List.mem_cons_of_mem _ List.mem_cons_self, Ne.symm hDA⟩
    · obtain ⟨p, _⟩ := I1.cells y b (hcl y b hb)
      exact ⟨List.mem_cons_of_mem _ (List.mem_cons_of_mem _ (List.mem_cons_of_mem _ p)), fun z => hDH (z ▸ p)⟩
  have hgn : ∀ b o, (hideAll s1.heap c.H).get? b = some o → b ∉ Ia :: (c.comp1 scope x H2.objs.size H3.objs.size s2.heap.objs.size s1).H := fun b o e q => by
    rcases List.mem_cons.mp q with rfl | q
    · rw [of_hideAll _ e] at hn; cases hn
    rcases List.mem_cons.mp q with rfl | q
    · have := of_hideAll _ e; rw [nC f2.ext] at this; cases this
    rcases List.mem_cons.mp q with rfl | q
    · have := of_hideAll _ e; rw [nA f2.ext] at this; cases this
    rcases List.mem_cons.mp q with rfl | q
    · have := of_hideAll _ e; rw [nD f2.ext] at this; cases this
    · exact hid_not e q
  have S4 : Src c.prog c.w c.A Ia n (c.comp1 scope x H2.objs.size H3.objs.size s2.heap.objs.size s1).H (hideAll s1.heap c.H) it h₁ := S.more k24 fun b hb => by
    rcases List.mem_cons.mp hb with rfl | hb
    · exact .inr (nC (Ext.refl _))
    rcases List.mem_cons.mp hb with rfl | hb
    · exact .inr (nA (Ext.refl _))
    rcases List.mem_cons.mp hb with rfl | hb
    · exact .inr (nD (Ext.refl _))
    · exact .inl hb
  have hm : ∀ b ∈ (c.comp1 scope x H2.objs.size H3.objs.size s2.heap.objs.size s1).m, b ∈ (c.comp1 scope x H2.objs.size H3.objs.size s2.heap.objs.size s1).H := fun b hb => by
    simp only [List.mem_cons, List.not_mem_nil, or_false] at hb ⊢
    rcases hb with rfl | rfl | rfl <;> simp
  have hDm : s2.heap.objs.size ∈ (c.comp1 scope x H2.objs.size H3.objs.size s2.heap.objs.size s1).m := List.mem_cons_of_mem _ (List.mem_cons_of_mem _ List.mem_cons_self)
  have C4 : CS ((c.comp1 scope x H2.objs.size H3.objs.size s2.heap.objs.size s1).more Ia) s2.heap.objs.size (freeVars scope σ) [] { s2 with heap := h₁ } := ⟨inn, [], ⟨_, hacc, rfl, _, rfl⟩, .nil⟩
  have sto : Sto (c.comp1 scope x H2.objs.size H3.objs.size s2.heap.objs.size s1) x :=
    .inr ⟨lookup_relabel_cell ok.isx, _, by show List.lookup x ((x, _) :: _) = _; rw [List.lookup_cons]; simp, List.mem_cons_of_mem _ List.mem_cons_self⟩
  have loop : codeAny (model c.prog c.w) c.A (.compLoop (.ListComp elt [⟨.Name x px, iter, [], 0⟩] scope pos) 0 (.ref Ia) (.ref s2.heap.objs.size) (c.comp1 scope x H2.objs.size H3.objs.size s2.heap.objs.size s1).env)
      (compPost (model c.prog c.w) c.A E none Q (.ref s2.heap.objs.size) H2.objs.size) { s2 with heap := h₁ } := by
    refine comp_walkC (c := c.comp1 scope x H2.objs.size H3.objs.size s2.heap.objs.size s1) hIH hn (hm _ hDm) hDC hm (fun y b h => (hcc y b h).1) (fun y b h => (hcc y b h).2) sto (compTurn_1 ..) C4
      (fun b o e => k24 _ _ (f2.ext _ _ (of_hideAll _ e))) hgn S4
      (fun i σ' ds' => σ' = freeVars scope σ ∧ ds' = outs (fun i => [out i]) i) ⟨rfl, rfl⟩ ?_ ?_
    · rintro i σ' ds' t1 t2 hlt ⟨rfl, rfl⟩ C2
      refine wpAny_bind (wpAny_tests_nil ?_)
      rw [if_pos rfl]
      refine wpAny_bind (wpAny_bind (turn i Ia H2.objs.size H3.objs.size s2.heap.objs.size s1 t1 hlt t2 C2.inn _ _ fun v s5 f5 i5 => wpAny_bind (cs_append (c := (c.comp1 scope x H2.objs.size H3.objs.size s2.heap.objs.size s1).turn Ia t1) (C2.to f5) hDm hDC (fun y b h => (hcc y b h).2) i5 ?_ fun u s6 C6 => wpAny_pure (wpAny_pure ⟨rfl, _, _, ⟨rfl, rfl⟩, ?_⟩))))
      · have := outs_len (fun i => [out i]) 1 i (fun _ _ => Nat.le_refl _)
        omega
      · rw [outs_succ]
        exact C6.weaken (freeVars_cons1 ok.isx)
    · rintro σ' ds' s' ⟨rfl, rfl⟩ CS'
      have kp' : Kp s1 s' := CS'.inn.kp rfl
      obtain ⟨vs, hl, ha⟩ := CS'.acc
      obtain ⟨_, m, hmm⟩ := CS'.inn.locals
      refine ⟨m, hmm, fun h' hb => k _ _ (f1.trans ?_) ?_⟩
      · obtain ⟨h3, t3, e3⟩ := kp'.same
        refine ⟨fun b o e => (hb.2 b fun z => ?_).trans (kp'.ext b o e), h', s'.toks, by rw [e3]⟩
        have : b = H2.objs.size := z
        rw [this, nC f2.ext] at e; cases e
      · obtain ⟨o, e, r⟩ := hl
        refine .list ⟨o, hideAll_get _ ((hb.2 _ hDC).trans e) hDH, r⟩ (ha.ext fun b o e => hideAll_get _ ((hb.2 b fun z => ?_).trans (of_hideAll _ e)) fun z => ?_)
        · have : b = H2.objs.size := z
          exact hid_not e (by rw [this]; exact List.mem_cons_self)
        · exact hid_not e (List.mem_cons_of_mem _ (List.mem_cons_of_mem _ (List.mem_cons_of_mem _ z)))
  exact codeAny_compStart_list loop (S4.self loop)


noncomputable abbrev Cx.base (c : Cx) (s : Shared) : Cx := { c with s₀ := { s with heap := hideAll s.heap c.m } }
theorem In.base {c : Cx} {σ : Vars} {s : Shared} (J : In c σ s) : In (c.base s) σ s where
  fut := ⟨hid_of, rfl, fun _ _ e => e, fun e => e⟩
  same := fun _ => ⟨s.heap, s.toks, rfl⟩
  amb := J.amb
  gr := J.gr.ext (ext_hid J)
  kind := J.kind
  glob := J.glob
  blt := J.blt
  alive := J.alive
  sub := J.sub
  fresh := fun b hb => hideAll_none _ hb
  locals := J.locals
  cells := J.cells
  apart := J.apart
  vars := J.vars
theorem In.unbase {c : Cx} {σ σ' : Vars} {s s' : Shared} (J : In c σ s) (J' : In (c.base s) σ' s') : In c σ' s' where
  fut := ⟨(ext_hid J).trans J'.fut.ext, J'.fut.os.trans J.fut.os, fun i x e => J'.fut.gens i x (J.fut.gens i x e), fun e => J'.fut.bare (J.fut.bare e)⟩
  same := fun hp => by
    obtain ⟨h1, t1, e1⟩ := J.same hp
    obtain ⟨h2, t2, e2⟩ := J'.same hp
    exact ⟨h2, t2, by rw [e2, e1]⟩
  amb := J.amb
  gr := J.gr
  kind := J.kind
  glob := J.glob
  blt := J.blt
  alive := J'.alive
  sub := J.sub
  fresh := J.fresh
  locals := J'.locals
  cells := J'.cells
  apart := J'.apart
  vars := J'.vars
theorem In.kept {c : Cx} {σ' : Vars} {s s' : Shared} (J : In (c.base s) σ' s') {b : Addr} {o : Obj} (hb : b ∉ c.m) (e : s.heap.get? b = some o) : s'.heap.get? b = some o := J.fut.ext b o (hideAll_get _ e hb)

noncomputable def looseL (s₀ s : Heap) (I : Addr) : List Addr := (List.range s.objs.size).filter fun b => !(b == I) && (s₀.get? b).isNone
theorem loose_get {s₀ s : Heap} {I b : Addr} {o : Obj} (e : s.get? b = some o) (h : b = I ∨ ∃ o', s₀.get? b = some o') : (hideAll s (looseL s₀ s I)).get? b = some o := by
  refine hideAll_get _ e fun q => ?_
  have := (List.mem_filter.mp q).2
  rw [Bool.and_eq_true] at this
  rcases h with rfl | ⟨o', h⟩
  · simp at this
  · rw [h] at this; simp at this
theorem loose_none {s₀ s : Heap} {I b : Addr} (h1 : b ≠ I) (h2 : s₀.get? b = none) : (hideAll s (looseL s₀ s I)).get? b = none := by
  cases e : (hideAll s (looseL s₀ s I)).get? b with
  | none => rfl
  | some o =>
    refine absurd ?_ (hid_not e)
    refine List.mem_filter.mpr ⟨List.mem_range.mpr (Heap.lt_size (of_hideAll _ e)), ?_⟩
    rw [h2]
    simp [h1]
noncomputable abbrev Cx.loose (c : Cx) (I : Addr) (s : Shared) : Cx := { c with H := I :: c.H, s₀ := { s with heap := hideAll s.heap (looseL c.s₀.heap s.heap I) } }
theorem ext_loose {c : Cx} {I : Addr} {σ : Vars} {s : Shared} (J : In (c.more I) σ s) : Ext c.s₀.heap (hideAll s.heap (looseL c.s₀.heap s.heap I)) := fun b o e => loose_get (J.fut.ext b o e) (.inr ⟨o, e⟩)
theorem In.loose {c : Cx} {I : Addr} {σ : Vars} {s : Shared} (J : In (c.more I) σ s) (hI : I ∉ c.m) : In (c.loose I s) σ s where
  fut := ⟨hid_of, rfl, fun _ _ e => e, fun e => e⟩
  same := fun _ => ⟨s.heap, s.toks, rfl⟩
  amb := J.amb
  gr := J.gr.ext (ext_loose (c := c) J)
  kind := J.kind
  glob := J.glob
  blt := J.blt
  alive := J.alive
  sub := J.sub
  fresh := fun b hb => loose_none (fun q => hI (q ▸ hb)) (J.fresh b hb)
  locals := J.locals
  cells := J.cells
  apart := J.apart
  vars := J.vars
theorem In.unloose {c : Cx} {I : Addr} {σ σ' : Vars} {s s' : Shared} (J : In (c.more I) σ s) (J' : In (c.loose I s) σ' s') : In (c.more I) σ' s' where
  fut := ⟨(ext_loose (c := c) J).trans J'.fut.ext, J'.fut.os.trans J.fut.os, fun i x e => J'.fut.gens i x (J.fut.gens i x e), fun e => J'.fut.bare (J.fut.bare e)⟩
  same := fun hp => by
    obtain ⟨h1, t1, e1⟩ := J.same hp
    obtain ⟨h2, t2, e2⟩ := J'.same hp
    exact ⟨h2, t2, by rw [e2, e1]⟩
  amb := J.amb
  gr := J.gr
  kind := J.kind
  glob := J.glob
  blt := J.blt
  alive := J'.alive
  sub := J.sub
  fresh := J.fresh
  locals := J'.locals
  cells := J'.cells
  apart := J'.apart
  vars := J'.vars

-- data that no heap bears
noncomputable def D.flat : D → Bool
  | .none | .bool _ | .int _ | .str _ | .bytes _ | .ref _ => true
  | _ => false
theorem Is.flat {h h' : Heap} {d : D} {v : Value} (hd : d.flat = true) (i : Is h d v) : Is h' d v := by
  cases i with
  | none => exact .none
  | bool b => exact .bool b
  | int n t => exact .int n t
  | str x t => exact .str x t
  | bytes b t => exact .bytes b t
  | ref a => exact .ref a
  | list => cases hd
  | tup => cases hd
  | range => cases hd
  | pred => cases hd
theorem flat_of {σ : Vars} (h : (σ.all fun p => p.2.flat) = true) : ∀ x d, σ.lookup x = some d → d.flat = true := fun x d e => List.all_eq_true.mp h _ (mem_of_lookup e)

/-- an object that the frame made is changed; no name's data hang on it -/
theorem In.updFlat {c : Cx} {σ : Vars} {s : Shared} (I : In c σ s) {a : Addr} {h : Heap} {tk : Nat} (hF : (σ.all fun p => p.2.flat) = true) (hf : c.s₀.heap.get? a = none) (hL : a ≠ c.env.locals)
    (hC : ∀ x b, (x, b) ∈ c.env.cells → b ≠ a) (hs : ∀ b o, b ≠ a → s.heap.get? b = some o → h.get? b = some o) (ho : ∃ o, h.get? a = some o) : In c σ { s with heap := h, toks := tk } where
  fut := ⟨fun b o e => hs b o (fun q => by rw [q, hf] at e; cases e) (I.fut.ext b o e), I.fut.os, I.fut.gens, I.fut.bare⟩
  same := fun hp => let ⟨_, _, e⟩ := I.same hp; ⟨h, tk, by rw [e]⟩
  amb := I.amb
  gr := I.gr
  kind := I.kind
  glob := I.glob
  blt := I.blt
  alive := fun b hb => by
    by_cases e : b = a
    · exact e ▸ ho
    · obtain ⟨o, q⟩ := I.alive b hb; exact ⟨o, hs b o e q⟩
  sub := I.sub
  fresh := I.fresh
  locals := ⟨I.locals.1, let ⟨m, e⟩ := I.locals.2; ⟨m, e.at' fun o q => hs _ o (Ne.symm hL) q⟩⟩
  cells := fun x b hm => let ⟨p, q, v, o, e, r⟩ := I.cells x b hm; ⟨p, q, v, o, hs _ o (hC x b hm) e, r⟩
  apart := I.apart
  vars := fun x d hd => by
    obtain ⟨v, r, i⟩ := I.vars x d hd
    refine ⟨v, ?_, i.flat (flat_of hF x d hd)⟩
    rcases r with ⟨k, m, e, f⟩ | ⟨k, b, e, o, f, g⟩
    · exact .inl ⟨k, m, e.at' fun o q => hs _ o (Ne.symm hL) q, f⟩
    · exact .inr ⟨k, b, e, o, hs _ o (hC x b (mem_of_lookup e)) f, g⟩

theorem ev_own {c : Cx} {σ : Vars} {x : Str} {p : Pos} {a : Addr} {vs : List Value} {ns : List Int} (h : σ.lookup x = some (.ref a)) (hl : c.s₀.heap.IsList a vs.toArray) (hH : a ∉ c.H) (hi : IntsAre vs ns)
    (hd : (x == ("__debug__" : Str)) = false := by decide) : Ev c σ (.Name x p) (.ints ns) := fun s I Q E k => by
  refine ev_name h hd s I _ _ fun v s' f i => ?_
  obtain rfl := i.ref_inv
  obtain ⟨o, e, r⟩ := hl
  exact k _ _ f (.list ⟨o, hideAll_get _ (f.ext _ _ (I.fut.ext _ _ e)) hH, r⟩ (IsAll.ofInts hi))

/-- an expression that makes a list of its own -/
noncomputable def EvN (c : Cx) (σ : Vars) (e : Expr) (ds : List D) : Prop := ∀ s, In c σ s → ∀ (Q E : Value → Shared → Prop), (∀ l vs s1, Kp s s1 → s.heap.get? l = none → s1.heap.PlainList l vs.toArray → IsAll (hideAll s1.heap c.H) ds vs → Q (.ref l) s1) →
  wpAny (model c.prog c.w) c.A (eval e c.env) Q E s
theorem none_at {h h' : Heap} {a : Addr} (k : Ext h h') (e : h'.get? a = none) : h.get? a = none := by
  cases q : h.get? a with
  | none => rfl
  | some o => rw [k _ _ q] at e; cases e
theorem size_none (h : Heap) : h.get? h.objs.size = none := none_of_ge (Nat.le_refl _)

section
variable {c : Cx} {σ : Vars}
theorem evn_list {es : List Expr} {ds : List D} {pos : Pos} (hl : EvL c σ es ds) (hs : backTo pos (starEach es c.env) = es.map fun e => (false, eval e c.env)) (hz : ds.length ≤ sizeLine) :
    EvN c σ (.List es pos) ds := fun s I Q E q => List_ (by
  rw [hs]
  refine evl_spliced hl s _ _ I fun vs s1 f1 i1 => ?_
  have I1 := I.to f1
  refine wpAny_newObj_type (q _ vs _ (f1.trans (Kp.heap (Ext.push _ _))) (none_at f1.ext (size_none _)) ⟨_, Heap.get?_push_size _ rfl⟩ (i1.ext (hid_ext (Ext.push _ _)))) ?_
  show vs.toArray.size ≤ sizeLine
  rw [List.size_toArray, i1.length]; exact hz)
theorem evn_mull {l r : Expr} {p : Pos} {x : D} {n : Int} (h1 : Ev c σ l (.list [x])) (h2 : Ev c σ r (.int n)) (hlo : -(2 ^ 63 : Int) ≤ n) (hhi : n < 2 ^ 63) (hz : n.toNat ≤ 256) : EvN c σ (.BinOp l .Mult r p) (List.replicate n.toNat x) := fun s I Q E q =>
  wpAny_BinOp (h1 s I _ _ fun v s1 f1 i1 => h2 s1 (I.to f1) _ _ fun u s2 f2 i2 => by
    have i := i1.ext (hid_ext f2.ext)
    have f := f1.trans f2
    obtain ⟨l, vs, rfl, hl, ha⟩ := i.list_inv
    obtain ⟨t', rfl⟩ := i2.int_inv
    obtain ⟨⟨cls, d, data, sl⟩, ho, hcl, m, hd⟩ := isList_ext hid_of hl
    simp only at hcl hd
    subst hcl hd
    cases ha with
    | cons ix ir =>
    cases ir
    rename_i w
    refine wpAny_binaryOp_repeat_ref (T := "list") (U := "int") (by decide) ⟨_, ho, rfl⟩ (fun s' => typeIs_int s' n _) noFill_list_mul F.fills_int_mul F.slot_int_rmul repeat_list F.slot_int_index.lookup
      (call_meets F.slot_int_rmul (typeIs_int s2 n _) F.entry_int_rmul (F.args_int_rmul_2 _ _) (lm_int_rmul_list_any n _ l [w].toArray m d sl)
        ⟨ho, rfl, ⟨_, ho, rfl⟩, call_meets F.slot_list_mul ⟨_, ho, rfl⟩ F.entry_list_mul (F.args_list_mul_2 _ _)
          (lm_list_mul_any l [w].toArray m d sl n _ (by simp [Builtin.List.listFitsIndex]; omega) (by simp; omega) (by simp [Builtin.List.listTooLong, sizeLine]; omega))
          ⟨ho, ?_⟩⟩)
    rw [listMul_foldl_if]
    refine q _ (List.replicate n.toNat [w]).flatten _ (f.trans (Kp.heap (Ext.push _ _))) (none_at f.ext (size_none _)) ⟨_, Heap.get?_push_size _ rfl⟩ ?_
    have : (List.replicate n.toNat [w]).flatten = List.replicate n.toNat w := by
      induction n.toNat with
      | zero => rfl
      | succ q ih => simp [List.replicate_succ, ih]
    rw [this]
    exact isAll_rep (ix.ext (hid_ext (Ext.push _ _))) _)
theorem evn_addl {l r : Expr} {p : Pos} {xs ys : List D} (h1 : Ev c σ l (.list xs)) (h2 : Ev c σ r (.list ys)) (h : xs.length + ys.length ≤ sizeLine) : EvN c σ (.BinOp l .Add r p) (xs ++ ys) := fun s I Q E q =>
  wpAny_BinOp (h1 s I _ _ fun v s1 f1 i1 => h2 s1 (I.to f1) _ _ fun u s2 f2 j => by
    have i := i1.ext (hid_ext f2.ext)
    have f := f1.trans f2
    obtain ⟨l, vs, rfl, hl, ha⟩ := i.list_inv
    obtain ⟨b, ws, rfl, hb, hc⟩ := j.list_inv
    obtain ⟨⟨cls, dd, data, sl⟩, ho, hc1, n, hd⟩ := isList_ext hid_of hl
    obtain ⟨⟨cls2, dd2, data2, sl2⟩, ho2, hc2, n2, hd2⟩ := isList_ext hid_of hb
    simp only at hc1 hd hc2 hd2
    subst hc1 hd hc2 hd2
    have e : vs.toArray ++ ws.toArray = (vs ++ ws).toArray := by simp
    refine concat_meets ⟨_, ho, rfl⟩ ⟨_, ho2, rfl⟩ noFill_list_add seq_list_add PySem.F.slot_list_add PySem.F.entry_list_add (PySem.F.args_list_add_2 _ _) (list_addW l b vs.toArray ws.toArray n n2 dd dd2 sl sl2 ?_) ⟨ho, ho2, ?_⟩
    · simp only [List.size_toArray, ha.length, hc.length]; exact h
    · rw [e]
      exact q _ (vs ++ ws) _ (f.trans (Kp.heap (Ext.push _ _))) (none_at f.ext (size_none _)) ⟨_, Heap.get?_push_size _ rfl⟩ ((ha.append hc).ext (hid_ext (Ext.push _ _))))
end

section
variable {c : Cx} {σ : Vars} {s : Shared} {Q : Flow → Shared → Prop} {E : Value → Shared → Prop} {rest : List Stmt}
theorem x_new {x : Str} {e : Expr} {p p' : Pos} {ds : List D} (I : In c σ s) (he : EvN c σ e ds) (hx : c.env.kindOf x = some .local)
    (k : ∀ l vs s', In c ((x, .ref l) :: σ) s' → s.heap.get? l = none → s'.heap.PlainList l vs.toArray → IsAll (hideAll s'.heap c.H) ds vs → (∀ b o, b ≠ c.env.locals → s.heap.get? b = some o → s'.heap.get? b = some o) → wpAny (model c.prog c.w) c.A (execs rest c.env) Q E s')
    (hs : swapsWith e (some (.Name x p)) p'.line c.env = pure false := by rfl) :
    wpAny (model c.prog c.w) c.A (execs (.Assign [.Name x p] e p' :: rest) c.env) Q E s :=
  wpAny_execs_cons (wpAny_Assign_Name (he s I _ _ fun l vs s1 f1 hn hl ha => (I.to f1).store_local hx (.ref l) fun s' I' hb => by
    have hL : l ≠ c.env.locals := fun q => by
      obtain ⟨o, e⟩ := I.alive _ (I.sub _ I.locals.1)
      rw [← q, hn] at e; cases e
    refine k l vs s' I' hn (let ⟨o, e⟩ := hl; ⟨o, (hb l hL).trans e⟩) (ha.ext (hid_extBut fun b o hH e => (hb b fun q => hH (q ▸ I.sub _ I.locals.1)).trans e)) fun b o hbL e => (hb b hbL).trans (f1.ext _ _ e)) hs)
end


/-- what an iterator of flat things hands out: no object but itself counts -/
inductive Src1 (prog : Program) (w : World) (A : Around) (I : Addr) (n : Nat) (it : Nat → D) (h : Heap) : Prop
  | mk (P : Nat → Value → Prop) (St : Nat → Heap → Prop) (W : Walks prog w A I [I] [I] n P St) (hob : ∀ i h, St i h → ∃ o, h.get? I = some o) (hP : ∀ i v, i < n → P i v → ∀ g, Is g (it i) v) (hst : St 0 h)
noncomputable def Itr1 (c : Cx) (s : Shared) (v : Value) (n : Nat) (it : Nat → D) : Prop :=
  ∀ (Q E : Value → Shared → Prop), (∀ I s', Kp s s' → s.heap.get? I = none → (∃ o, s'.heap.get? I = some o) → Src1 c.prog c.w c.A I n it s'.heap → Q (.ref I) s') →
    wpAny (model c.prog c.w) c.A (pyIter v) Q E s

section
variable {c : Cx} {s : Shared}
theorem itr1_str {x : Str} {v : Value} {H : List Addr} (hA : c.A.handled = none) (ha : x.cps.all (· < 128) = true) (i : Is (hideAll s.heap H) (.str x) v) : Itr1 c s v x.cps.size (fun j => .str ⟨#[x.cps.getD j 0]⟩) := fun Q E k => by
  obtain ⟨t, rfl⟩ := i.str_inv
  refine wpAny_pyIter_ascii ha (k _ _ (Kp.heap (Ext.push _ _)) (size_none _) ⟨_, Heap.get?_push_size _ rfl⟩ ⟨_, _, Walks.strAscii hA _ x t, fun i h z => let ⟨o, e, _⟩ := z; ⟨o, e⟩, ?_, ⟨_, Heap.get?_push_size _ rfl, rfl, rfl⟩⟩)
  rintro j v hj ⟨cc, u, hc, rfl⟩ g
  have : x.cps.getD j 0 = cc := by simp [Array.getD, hj]; simpa [hj] using hc
  show Is g (D.str ⟨#[x.cps.getD j 0]⟩) _
  rw [this]; exact .str _ u
theorem itr1_range {a m : Int} {n : Nat} {v : Value} {H : List Addr} (hA : c.A.handled = none) (ha : -(2 ^ 62) ≤ a) (ha' : a < 2 ^ 62) (hm : m < 2 ^ 62) (hn : (m - a).toNat = n) (h0 : -(2 ^ 62) ≤ m) (i : Is (hideAll s.heap H) (.range a m 1) v) :
    Itr1 c s v n (fun j => .int (a + (j : Int))) := fun Q E k => by
  cases i with
  | range hr =>
    refine wpAny_pyIter_range (hid_of _ _ hr) (small_one ha ha' h0 hm) (k _ _ (Kp.heap (Ext.push _ _)) (size_none _) ⟨_, Heap.get?_push_size _ rfl⟩ ⟨_, _, Walks.range hA _ a 1 n, fun j h x => ⟨_, x⟩, ?_, ?_⟩)
    · rintro j v hj ⟨t, rfl⟩ g
      have e : a + (j : Int) * 1 = a + (j : Int) := by omega
      rw [e]; exact .int _ t
    · show IsRangeIter _ _ (a + ((0 : Nat) : Int) * 1) ((n : Int) - ((0 : Nat) : Int)) 1
      have e1 : a + ((0 : Nat) : Int) * 1 = a := by simp
      have e2 : (n : Int) - ((0 : Nat) : Int) = Builtin.Range.rangeSize a m 1 := by
        unfold Builtin.Range.rangeSize
        simp
        omega
      rw [e1, e2]
      exact Heap.get?_push_size _ rfl
end

section
variable {c : Cx} {σ : Vars} {s : Shared} {Q : Flow → Shared → Prop} {rest : List Stmt}
theorem none_ext {h : Heap} : Ext { objs := #[] } h := fun b o e => by
  have := Heap.lt_size e
  exact absurd this (Nat.not_lt_zero _)
/-- a for whose body may change what the frame owns -/
theorem x_for_own {x : Str} {px pos : Pos} {iter : Expr} {body : List Stmt} {d : D} {n : Nat} {it : Nat → D} {E : Value → Shared → Prop} (I : In c σ s) (hx : c.env.kindOf x = some .local) (he : Ev c σ iter d)
    (hit : ∀ s v, In c σ s → Is (hideAll s.heap c.H) d v → Itr1 c s v n it)
    (J : Addr → Nat → Vars → Heap → Prop) (hJ : ∀ Ia s', Kp s s' → s.heap.get? Ia = none → J Ia 0 σ s'.heap)
    (stable : ∀ Ia i σ h h', J Ia i σ h → (∀ b o, b ≠ Ia → h.get? b = some o → h'.get? b = some o) → J Ia i σ h')
    (hbody : ∀ i σ Ia s1 s2, i < n → J Ia i σ s1.heap → Ia ∉ c.H → In (c.loose Ia s1) ((x, it i) :: σ) s2 → (∀ b, b ≠ c.env.locals → s2.heap.get? b = s1.heap.get? b) → (∀ σ' s', In (c.loose Ia s1) σ' s' → In c σ' s') →
      wpAny (model c.prog c.w) c.A (execs body c.env) (fun f s' => match f with
        | .next | .cont => ∃ σ', J Ia (i + 1) σ' s'.heap ∧ In (c.loose Ia s1) σ' s'
        | .brk => wpAny (model c.prog c.w) c.A (execs rest c.env) Q E s'
        | .ret v => Q (.ret v) s') (fun _ _ => False) s2)
    (done : ∀ Ia σ s', J Ia n σ s'.heap → In c σ s' → wpAny (model c.prog c.w) c.A (execs rest c.env) Q E s')
    (hs : ∀ x, foldedSetIterable iter c.env x = pure x := by intro _; rfl) :
    wpAny (model c.prog c.w) c.A (execs (.For (.Name x px) iter body [] pos :: rest) c.env) Q E s := by
  refine wpAny_execs_cons (wpAny_For (he s I _ _ fun v s1 f1 i1 => ?_) hs)
  have I1 := I.to f1
  refine hit s1 v I1 i1 _ _ fun Ia s2 f2 hn ho S => ?_
  obtain ⟨I2, hI, hs₀⟩ := I1.ins f2 hn ho
  obtain ⟨P, St, W, hob, hP, hst⟩ := S
  have hm : ∀ b ∈ c.m, b ∈ c.H := I.sub
  have hcl : ∀ x b, (x, b) ∈ c.env.cells → b ∈ c.H := fun x b h => (I.cells x b h).1
  have hLI : c.env.locals ≠ Ia := fun q => hI (q ▸ hm _ I.locals.1)
  have hmI : Ia ∉ c.m := fun q => hI (hm _ q)
  have hJ0 : J Ia 0 σ s2.heap := hJ Ia s2 (f1.trans f2) (none_at f1.ext hn)
  refine codeAny_forLoop (LpI n (J Ia) (c.more Ia) St { objs := #[] }) ?_ (n + 1) ⟨0, σ, Nat.zero_le _, rfl, hJ0, I2, hst, none_ext⟩
  rintro k s' ⟨i, σ, hi, rfl, hJi, Ii, hSi, _⟩
  by_cases hlt : i < n
  · refine W.item i s' _ _ hlt hSi fun v h' tk hv hS' hk => ?_
    have hk' : ∀ b o, b ≠ Ia → s'.heap.get? b = some o → h'.get? b = some o := fun b o hb e => hk b o (fun q => hb (List.mem_singleton.mp q)) e
    have I1 : In (c.more Ia) σ { s' with heap := h', toks := tk } := Ii.upd List.mem_cons_self hs₀ (Ne.symm hLI) (fun x b hb q => hI (q ▸ hcl x b hb)) hk' (hob _ _ hS')
    have It : In (c.loose Ia { s' with heap := h', toks := tk }) σ { s' with heap := h', toks := tk } := In.loose (c := c) I1 hmI
    have hJ1 : J Ia i σ h' := stable Ia i σ _ _ hJi hk'
    refine wpAny_assign_Name (It.store_local (c := c.loose Ia _) hx (hP i v hlt hv _) fun s2 I2 hb2 => ?_)
    refine wpAny_mono (hbody i σ Ia _ s2 hlt hJ1 hI I2 hb2 fun σ' s'' x => (In.unloose (c := c) I1 x).drop hm hcl) (fun f s3 h3 => ?_) fun _ _ q => q.elim
    have fin : (∃ σ', J Ia (i + 1) σ' s3.heap ∧ In (c.loose Ia ({ s' with heap := h', toks := tk } : Shared)) σ' s3) → ∃ k', k' < n + 1 - i ∧ LpI n (J Ia) (c.more Ia) St { objs := #[] } k' s3 := by
      rintro ⟨σ', hJ', I3⟩
      refine ⟨n + 1 - (i + 1), by omega, i + 1, σ', hlt, rfl, hJ', In.unloose (c := c) I1 I3, ?_, none_ext⟩
      refine W.frame _ _ _ hS' fun b hb o e => ?_
      rw [List.mem_singleton.mp hb] at e ⊢
      exact I3.fut.ext _ _ (loose_get e (.inl rfl))
    cases f with
    | next => exact fin h3
    | cont => exact fin h3
    | brk => exact h3
    | ret v => exact h3
  · have : i = n := by omega
    subst this
    refine W.done s' _ _ hSi fun h' tk hk => wpAny_execs_nil ?_
    have hk' : ∀ b o, b ≠ Ia → s'.heap.get? b = some o → h'.get? b = some o := fun b o hb e => hk b o (fun q => hb (List.mem_singleton.mp q)) e
    exact done Ia σ _ (stable Ia i σ _ _ hJi hk') (Ii.forget hm hcl hI hs₀ hk')
end


section
variable {prog : Program} {w : World} {A : Around} {E : Value → Shared → Prop} {s : Shared} {K : Frag} {x dx C : Addr} {name : Str} {v : Value} {es : List DictEntry} {n : Nat}

theorem inst_at {h : Heap} (hx : h.get? x = some (instObj C dx)) (hd : h.get? dx = some (dictOf es n)) : InstAt h x (instObj C dx) C (some (dictOf es n)) := ⟨hx, rfl, rfl, hd⟩

theorem set_inst {Q : Unit → Shared → Prop} (X : K.In s.heap) (hx : s.heap.get? x = some (instObj C dx)) (hd : s.heap.get? dx = some (dictOf es n))
    (hs : findIn K (.ref C) "__setattr__" = some (some (.builtin "object.__setattr__"))) (hp : plainOver K C = true) (ht : takerIn K C name = some none) (hh : hasDictIn K C = true) (hl : (getL name es).isSome = true)
    (hz : ∀ hsh tk, (putL name hsh (.str name tk) v es).length ≤ 1000)
    (h : ∀ h' tk hsh tk', h'.get? dx = some (dictOf (putL name hsh (.str name tk') v es) (putN name es n)) → (∀ b, b ≠ dx → h'.get? b = s.heap.get? b) → Q () { s with heap := h', toks := tk }) :
    wpAny (model prog w) A (setAttr (.ref x) name v) Q E s := by
  have I := inst_at hx hd
  refine set_plain X I hs ?_
  refine osa_open (s := { s with toks := s.toks + 1 }) X I hp ht fun b => ?_
  obtain ⟨cd, hc, hd'⟩ := any_some hh
  refine wpAny_bind (wpAny_pure (wpAny_bind (wpAny_bind (wpAny_loadPart hx (wpAny_bind (looks_clsIn X hc _ _ _ _ (fun _ _ e => e) ?_))))))
  rw [hd']
  refine wpAny_pure (a := some dx) (wpAny_bind (wpAny_pure (wpAny_bind ?_)))
  unfold nsSet
  refine wpAny_bind (wpAny_bind (wpAny_askSetting (wpAny_pure (wpAny_bind (wpAny_mkText (wpAny_bind (wpAny_loadPart hd ?_)))))))
  dsimp only [dictOf]
  have c : (!es.toArray.any (·.key.isStr name) && es.toArray.any (·.refKey)) = false := by
    rw [← Array.any_toList, ← Array.any_toList]
    unfold getL at hl
    split at hl
    · rename_i en he
      rw [List.any_eq_true.mpr ⟨en, List.mem_of_find?_eq_some he, List.find?_some he⟩]; rfl
    · split at hl
      · cases hl
      · rename_i z; rw [Bool.not_eq_true] at z
        show (!es.any _ && es.any _) = false
        rw [z, Bool.and_false]
  rw [aRefKeyMayBeTheName_at, c]
  refine wpAny_updatePart hd ?_
  have hput : ∀ hsh key, (Obj.putName name hsh key v) (dictOf es n) = dictOf (putL name hsh key v es) (putN name es n) := fun hsh key => putName_dict name hsh key v es n
  have hnew : ∀ hsh key, (s.heap.update dx (Obj.putName name hsh key v)).get? dx = some (dictOf (putL name hsh key v es) (putN name es n)) := fun hsh key => by
    have := Heap.get?_update_self (f := Obj.putName name hsh key v) hd (by rw [hput]; rfl)
    rw [this, hput]
  refine wpAny_bind (wpAny_lookBehind (hnew _ _) ?_ ?_)
  · exact pastItsLine_dict (by rw [List.size_toArray, sizeLine_eq]; first | exact Nat.le_trans (hz _ _) (by decide) | exact Nat.lt_of_le_of_lt (hz _ _) (by decide))
  · exact wpAny_pure (h _ _ _ _ (hnew _ _) fun b hb => Heap.get?_update_ne _ _ _ _ hb)

theorem get_inst {expr : Bool} {Q : Value → Shared → Prop} {attr : Option Value} (X : K.In s.heap) (hx : s.heap.get? x = some (instObj C dx)) (hd : s.heap.get? dx = some (dictOf es n)) (hg : plainGet K C name = true) (hh : hasDictIn K C = true)
    (ha : findIn K (.ref C) name = some attr) (hn : noGet K attr = true) (hl : getL name es = some (some v)) (hv : handedIn v = true) (h : Q v { s with toks := s.toks + 1 }) :
    wpAny (model prog w) A (getAttr (.ref x) name expr) Q E s :=
  get_value X (inst_at hx hd) (plainGet_of hg).1 (findObj_own hh ha hn hl) hv h
end

section
variable {c : Cx} {σ : Vars} {s : Shared} {Q : Flow → Shared → Prop} {E : Value → Shared → Prop} {rest : List Stmt}
theorem x_setattr {o e : Expr} {name : Str} {p p' : Pos} {d : D} {x : Addr} (I : In c σ s) (he : Ev c σ e d) (ho : Ev c σ o (.ref x))
    (k : ∀ v s1, Kp s s1 → Is (hideAll s1.heap c.H) d v → wpAny (model c.prog c.w) c.A (setAttr (.ref x) name v) (fun _ s2 => wpAny (model c.prog c.w) c.A (execs rest c.env) Q E s2) E s1)
    (hs : swapsWith e (some (.Attribute o name p)) p'.line c.env = pure false := by rfl) :
    wpAny (model c.prog c.w) c.A (execs (.Assign [.Attribute o name p] e p' :: rest) c.env) Q E s :=
  wpAny_execs_cons (plainObj_wpAny_Assign_Attribute (he s I _ _ fun v s1 f1 i1 => ho s1 (I.to f1) _ _ fun ov s2 f2 i2 => by
    obtain rfl := i2.ref_inv
    exact k v s2 (f1.trans f2) (i1.ext (hid_ext f2.ext))) hs)

theorem x_pair {a b : Str} {p q tp pos : Pos} {k : Nat} {d1 d2 : D} {e : Expr} (I : In c σ s) (he : Ev c σ e (.tup [d1, d2])) (ha : Sto c a) (hb : Sto c b)
    (kk : ∀ s', In c ((a, d1) :: (b, d2) :: σ) s' → wpAny (model c.prog c.w) c.A (execs rest c.env) Q E s')
    (hs : swapsWithSole [.Tuple [.Name a p, .Name b q] k tp] e pos.line c.env = pure false) (hw : swappedStores [.Tuple [.Name a p, .Name b q] k tp] e c.env = pure (some [a, b])) :
    wpAny (model c.prog c.w) c.A (execs (.Assign [.Tuple [.Name a p, .Name b q] k tp] e pos :: rest) c.env) Q E s :=
  wpAny_execs_cons (Assign_Tuple_swapped (he s I _ _ fun v s1 f1 i1 => by
    have I1 := I.to f1
    obtain ⟨t, vs, rfl, ht, hv⟩ := i1.tup_inv
    obtain ⟨x, y, rfl, ix, iy⟩ := all2 hv
    refine unpackItems_tuple I.amb.handled (items := [x, y].toArray) (ht.keeps hid_of) fun h' hx => ?_
    have hk : Ext s1.heap h' := fun b o e => hx b o (Nat.ne_of_lt (Heap.lt_size e)) e
    have I2 := I1.to (Kp.heap (tk := s1.toks) hk)
    refine assignInOrder_cons (wpAny_bindName (I2.store' hb (iy.ext (hid_ext hk)) fun s2 I3 e2 => ?_))
    exact assignInOrder_cons (wpAny_bindName (I3.store ha ((ix.ext (hid_ext hk)).ext e2) fun s3 I4 => assignInOrder_nil (kk s3 I4)))) hs hw)

theorem ev_clsattr {X name : Str} {p pos : Pos} {C : Addr} {mc v : Value} {d : D} (hk : c.env.kindOf X = some .globalImplicit) (hn : nsIn c.K mainGlobals X = some (some (.ref C))) (hr : readsIn c.K C mc = true) (e : findCls c.K (.ref C) mc name = some (.val v)) (hh : handedIn v = true)
    (hd : ∀ h, Is h d v) (hdb : (X == ("__debug__" : Str)) = false := by decide) : Ev c σ (.Attribute (.Name X p) name pos) d := fun s I Q E q => by
  refine Attribute_Name_ (name_global I hk hn ?_ hdb)
  exact cls_value I.ground.K hr e hh (q _ _ (Kp.tok s _) (hd _))

theorem fn_lent {K : Frag} {prog : Program} {w : World} {n : Nat} {ds : List D} (hz : ds.length ≤ sizeLine) : FnK K prog w n (.builtin "len") [.tup ds] (.int ds.length) := fun A H s vs Q E hM _ _ ha k => by
  obtain ⟨v, rfl, i⟩ := all1 ha
  obtain ⟨l, us, rfl, hl, hu⟩ := i.tup_inv
  have hn : (us.toArray.size : Int) = ds.length := by rw [List.size_toArray, hu.length]
  refine PyProof.Rows.len_tuple (hl.keeps hid_of) ?_ ?_
  · rw [hn]; have : ds.length ≤ 16777216 := hz; omega
  · rw [hn]; exact k _ _ (Kp.tok s _) (.int _ _)
theorem ev_itemt {x : Str} {p pos : Pos} {e : Expr} {ds : List D} {k : Int} {d : D} (h1 : Ev c σ (.Name x p) (.tup ds)) (h2 : Ev c σ e (.int k)) (h0 : 0 ≤ k) (hk : ds[k.toNat]? = some d) (hz : k < 2 ^ 63)
    (hs : ∀ o i, subscripted e false o i = operate [o, i] (getItem o i)) : Ev c σ (.Subscript (.Name x p) e pos) d := fun s I Q E q =>
  Subscript_ (h1 s I _ _ fun v s1 f1 i1 => h2 s1 (I.to f1) _ _ fun u s2 f2 i2 => by
    obtain ⟨l, vs, rfl, hl, ha⟩ := (i1.ext (hid_ext f2.ext)).tup_inv
    obtain ⟨t, rfl⟩ := i2.int_inv
    obtain ⟨v, hv, iv⟩ := ha.get _ _ hk
    have hl' := hl.keeps (hid_of (H := c.H) (h := s2.heap))
    have hlt : k.toNat < vs.length := by
      have := List.getElem?_eq_some_iff.mp hv
      exact this.1
    refine subscriptTail_builtin hl'.typeIs slot_tuple_getitem.lookup (PyProof.Rows.getItem_tuple hl' (by omega) hz (j := k.toNat) ?_ (by simpa using hv) (q _ _ (f1.trans f2) iv)) (hs _ _) (fun _ => rfl)
    unfold seqIndex?
    simp
    omega)
end


theorem kinds_of {fd : FuncData} {ns : List Str} (hkind : (ns.all fun y => fd.scope.names.lookup y == some .local || fd.scope.names.lookup y == some .cell) = true) :
    ∀ N, ∀ x ∈ ns, fd.scope.names.lookup x = some .local ∨ (fd.scope.names.lookup x = some .cell ∧ ((cellsFrom N fd.scope.names []).lookup x).isSome = true) := fun N x hx => by
  have := List.all_eq_true.mp hkind x hx
  rcases Bool.or_eq_true_iff.mp this with q | q
  · exact .inl (by simpa using q)
  · have q' : fd.scope.names.lookup x = some .cell := by simpa using q
    exact .inr ⟨q', cellsFrom_some _ _ _ (.inl q')⟩

theorem In.hide {c : Cx} {σ : Vars} {s : Shared} (J : In c σ s) (a : Addr) (hg : Gr c.K (hideAll c.s₀.heap [a])) : In { c with s₀ := { c.s₀ with heap := hideAll c.s₀.heap [a] } } σ s where
  fut := ⟨hid_of.trans J.fut.ext, J.fut.os, J.fut.gens, J.fut.bare⟩
  same := fun hp => let ⟨h, tk, e⟩ := J.same hp; ⟨h, tk, e⟩
  amb := J.amb
  gr := hg
  kind := J.kind
  glob := J.glob
  blt := J.blt
  alive := J.alive
  sub := J.sub
  fresh := fun b hb => none_at hid_of (J.fresh b hb)
  locals := J.locals
  cells := J.cells
  apart := J.apart
  vars := J.vars

section
variable {c : Cx} {σ : Vars} {s : Shared} {Q : Flow → Shared → Prop} {E : Value → Shared → Prop} {rest : List Stmt}
theorem x_if_join {t : Expr} {b : Bool} {th el : List Stmt} {p : Pos} (I : In c σ s) (ht : Tst c σ t b) (J : Shared → Prop)
    (k1 : b = true → ∀ s', In c σ s' → wpAny (model c.prog c.w) c.A (execs th c.env) (fun f s2 => f = .next ∧ J s2) E s')
    (k2 : b = false → ∀ s', In c σ s' → wpAny (model c.prog c.w) c.A (execs el c.env) (fun f s2 => f = .next ∧ J s2) E s')
    (join : ∀ s2, J s2 → wpAny (model c.prog c.w) c.A (execs rest c.env) Q E s2) :
    wpAny (model c.prog c.w) c.A (execs (.If t th el p :: rest) c.env) Q E s :=
  x_if I ht (fun hb s' I' => wpAny_mono (k1 hb s' I') (fun f s2 h => by obtain ⟨rfl, h⟩ := h; exact join s2 h) fun _ _ h => h)
    (fun hb s' I' => wpAny_mono (k2 hb s' I') (fun f s2 h => by obtain ⟨rfl, h⟩ := h; exact join s2 h) fun _ _ h => h)

/-- x[i] = e upon a list that the frame owns -/
theorem x_setitem {x : Str} {i e : Expr} {p q pos : Pos} {a : Addr} {vs : List Value} {k : Int} {d : D} (I : In c σ s) (he : Ev (c.base s) σ e d) (hx : σ.lookup x = some (.ref a)) (hi : Ev (c.base s) σ i (.int k)) (hl : s.heap.IsList a vs.toArray)
    (h0 : 0 ≤ k) (hk : k < vs.length) (hz : k < 2 ^ 63)
    (kk : ∀ v s' h', Kp s s' → Is (hideAll s'.heap c.H) d v → h'.IsList a (vs.set k.toNat v).toArray → Heap.SameBut a s'.heap h' → wpAny (model c.prog c.w) c.A (execs rest c.env) Q E { s' with heap := h' })
    (hs : swapsWith e (some (.Subscript (.Name x p) i q)) pos.line c.env = pure false := by rfl) (hd : (x == ("__debug__" : Str)) = false := by decide) :
    wpAny (model c.prog c.w) c.A (execs (.Assign [.Subscript (.Name x p) i q] e pos :: rest) c.env) Q E s := by
  have Ib := I.base
  refine wpAny_execs_cons (wpAny_Assign_Subscript (he s Ib _ _ fun v s1 f1 i1 => ev_name (c := c.base s) hx hd s1 (Ib.to f1) _ _ fun ov s2 f2 i2 => ?_) hs)
  refine hi s2 ((Ib.to f1).to f2) _ _ fun iv s3 f3 i3 => ?_
  obtain rfl := i2.ref_inv
  obtain ⟨t, rfl⟩ := i3.int_inv
  have f := (f1.trans f2).trans f3
  refine wpAny_setItem_list (isList_ext f.ext hl) h0 hz (by simpa using hk) fun h' hl' hs' => ?_
  refine kk v s3 h' f (i1.ext (hid_ext (f2.trans f3).ext)) ?_ hs'
  simpa using hl'

/-- x.append(e) upon a list that the frame owns -/
theorem x_append {x : Str} {e : Expr} {p ap cp pos : Pos} {a : Addr} {vs : List Value} {d : D} (I : In c σ s) (he : Ev (c.base s) σ e d) (hx : σ.lookup x = some (.ref a)) (hl : s.heap.PlainList a vs.toArray)
    (hz : vs.length ≤ sizeLine)
    (kk : ∀ v s' h', Kp s s' → Is (hideAll s'.heap c.H) d v → h'.PlainList a (vs ++ [v]).toArray → Heap.SameBut a s'.heap h' → wpAny (model c.prog c.w) c.A (execs rest c.env) Q E { s' with heap := h' })
    (hs : starEach [e] c.env = [(false, eval e c.env)]) (hbase : attributeBase (.Name x p) "append" c.env (eval (.Name x p) c.env) = eval (.Name x p) c.env) (hline : (ap.endLine == cp.line) = true)
    (hi : interactive c.env = false) (hsw : swapsWith (.Call (.Attribute (.Name x p) "append" ap) [e] [] cp) none pos.line c.env = pure false) (hd : (x == ("__debug__" : Str)) = false := by decide) :
    wpAny (model c.prog c.w) c.A (execs (.Expr (.Call (.Attribute (.Name x p) "append" ap) [e] [] cp) pos :: rest) c.env) Q E s := by
  have Ib := I.base
  refine wpAny_execs_cons (wpAny_Expr ?_ hi hsw)
  refine Call_method1 hbase hs hline (ev_name (c := c.base s) hx hd s Ib _ _ fun ov s1 f1 i1 => ?_)
  obtain rfl := i1.ref_inv
  obtain ⟨nn, ho⟩ := hl
  have hl1 : s1.heap.PlainList a vs.toArray := ⟨nn, f1.ext _ _ ho⟩
  refine ⟨"list", "list.append", F.plainAttrs_list, slot_list_append, type_list_append, ⟨_, f1.ext _ _ ho, rfl⟩, fun b hb => ?_, ?_⟩
  · cases hb
    exact ⟨_, f1.ext _ _ ho, rfl⟩
  refine Calls.callWith_builtin rfl (Calls.evalArgs_plain (Calls.spliced_cons (he s1 (Ib.to f1) _ _ fun v s2 f2 i2 => Calls.spliced_nil ?_)))
  refine wpAny_list_append_plain (hsz := by rw [List.size_toArray]; exact hz) (⟨nn, f2.ext _ _ (f1.ext _ _ ho)⟩ : s2.heap.PlainList a vs.toArray) fun h' hl' hs' => ?_
  refine kk v s2 h' (f1.trans f2) i2 ?_ hs'
  have e : vs.toArray.push v = (vs ++ [v]).toArray := by simp
  exact e ▸ hl'
end


/-- the frame from here on: all stands still but the frame's own and l -/
noncomputable abbrev Cx.keep (c : Cx) (l : List Addr) (s : Shared) : Cx := { c with s₀ := { s with heap := hideAll s.heap (l ++ c.m) }, pure := true }
theorem ext_keep {c : Cx} {σ : Vars} {s : Shared} (J : In c σ s) {l : List Addr} (hl : ∀ a ∈ l, c.s₀.heap.get? a = none) : Ext c.s₀.heap (hideAll s.heap (l ++ c.m)) := fun b o e =>
  hideAll_get _ (J.fut.ext b o e) fun q => by
    rcases List.mem_append.mp q with q | q
    · rw [hl b q] at e; cases e
    · rw [J.fresh b q] at e; cases e
theorem In.keep {c : Cx} {σ : Vars} {s : Shared} (J : In c σ s) {l : List Addr} (hl : ∀ a ∈ l, c.s₀.heap.get? a = none) : In (c.keep l s) σ s where
  fut := ⟨hid_of, rfl, fun _ _ e => e, fun e => e⟩
  same := fun _ => ⟨s.heap, s.toks, rfl⟩
  amb := J.amb
  gr := J.gr.ext (ext_keep J hl)
  kind := J.kind
  glob := J.glob
  blt := J.blt
  alive := J.alive
  sub := J.sub
  fresh := fun b hb => hideAll_none _ (List.mem_append.mpr (.inr hb))
  locals := J.locals
  cells := J.cells
  apart := J.apart
  vars := J.vars
theorem In.unkeep {c : Cx} {σ σ' : Vars} {s s' : Shared} (J : In c σ s) {l : List Addr} (hl : ∀ a ∈ l, c.s₀.heap.get? a = none) (J' : In (c.keep l s) σ' s') (hp : c.pure = false) : In c σ' s' where
  fut := ⟨(ext_keep J hl).trans J'.fut.ext, J'.fut.os.trans J.fut.os, fun i x e => J'.fut.gens i x (J.fut.gens i x e), fun e => J'.fut.bare (J.fut.bare e)⟩
  same := fun q => by rw [hp] at q; cases q
  amb := J.amb
  gr := J.gr
  kind := J.kind
  glob := J.glob
  blt := J.blt
  alive := J'.alive
  sub := J.sub
  fresh := J.fresh
  locals := J'.locals
  cells := J'.cells
  apart := J'.apart
  vars := J'.vars

/-- a generator ran for a while -/
theorem In.gen {c : Cx} {σ : Vars} {s s' : Shared} (J : In c σ s) (hp : c.pure = false) (hF : (σ.all fun p => p.2.flat) = true) {fp : List Addr} (hk : ∀ b o, b ∉ fp → s.heap.get? b = some o → s'.heap.get? b = some o) (hH : ∀ b ∈ c.H, b ∉ fp)
    (h0 : ∀ b o, c.s₀.heap.get? b = some o → b ∉ fp) (hos : s'.os = s.os) (hge : ∀ (i : Nat) (x : GenState), c.s₀.gens[i]? = some x → s'.gens[i]? = some x) (hba : AllBare s.gens → AllBare s'.gens) : In c σ s' where
  fut := ⟨fun b o e => hk b o (h0 b o e) (J.fut.ext b o e), hos.trans J.fut.os, hge, fun e => hba (J.fut.bare e)⟩
  same := fun q => by rw [hp] at q; cases q
  amb := J.amb
  gr := J.gr
  kind := J.kind
  glob := J.glob
  blt := J.blt
  alive := fun b hb => let ⟨o, e⟩ := J.alive b hb; ⟨o, hk b o (hH b hb) e⟩
  sub := J.sub
  fresh := J.fresh
  locals := ⟨J.locals.1, let ⟨m, e⟩ := J.locals.2; ⟨m, e.at' fun o q => hk _ o (hH _ (J.sub _ J.locals.1)) q⟩⟩
  cells := fun x b hm => let ⟨p, q, v, o, e, r⟩ := J.cells x b hm; ⟨p, q, v, o, hk _ o (hH _ p) e, r⟩
  apart := J.apart
  vars := fun x d hd => by
    obtain ⟨v, r, i⟩ := J.vars x d hd
    refine ⟨v, ?_, i.flat (flat_of hF x d hd)⟩
    rcases r with ⟨k, m, e, f⟩ | ⟨k, b, e, o, f, g⟩
    · exact .inl ⟨k, m, e.at' fun o q => hk _ o (hH _ (J.sub _ J.locals.1)) q, f⟩
    · exact .inr ⟨k, b, e, o, hk _ o (hH _ (J.cells x b (mem_of_lookup e)).1) f, g⟩

/-- what a callable hands back that may leave generators behind -/
noncomputable def FnF (K : Frag) (prog : Program) (w : World) (n : Nat) (f : Value) (ds : List D) (d : D) : Prop :=
  ∀ (A : Around) (H : List Addr) (s : Shared) (vs : List Value) (Q E : Value → Shared → Prop), Amb n A → Alive H s.heap → Gr K s.heap → IsAll (hideAll s.heap H) ds vs →
    (∀ v s', Fut s s' → Is (hideAll s'.heap H) d v → Q v s') → wpAny (model prog w) A (call f vs) Q E s

theorem fn_ofF {K : Frag} {prog : Program} {w : World} {n : Nat} {f : Addr} {fd : FuncData} {body : List Stmt} {ns : List Str} {ds : List D} {d : D} {oc : Value} {od : Option Addr} {osl : Array (Option Value)}
    (hK : K.lookup f = some ⟨oc, od, .func fd, osl⟩) (hcd : codeIn K fd.code fd.qualname = true) (hbody : fd.body = .stmts body) (hgl : fd.globals = mainGlobals) (hbt : fd.builtins = builtinsNs)
    (hbind : ∀ vs : List Value, vs.length = ns.length → bindArgs fd ⟨vs, []⟩ = pure (ns.zip vs)) (hclo : fd.closure = []) (hco : fd.scope.isCoroutine = false) (hgen : fd.scope.isGenerator = false) (hk : fd.scope.kind = .function)
    (hnd : ns.Nodup) (hcn : ((cellsFrom 0 fd.scope.names []).map (·.1)).Nodup)
    (hkind : (ns.all fun y => fd.scope.names.lookup y == some .local || fd.scope.names.lookup y == some .cell) = true)
    (hlen : ns.length = ds.length)
    (walk : ∀ A H s s₁, In (cxOf false K prog w n A H fd f s) (ns.zip ds) s₁ →
      wpAny (model prog w) (cxOf false K prog w n A H fd f s).A (execs body (cxOf false K prog w n A H fd f s).env)
        (fun fl s' => ∃ v, fl = .ret v ∧ Fut s s' ∧ Is (hideAll s'.heap (cxOf false K prog w n A H fd f s).H) d v) (fun _ _ => False) s₁) :
    FnF K prog w (n + 1) (.ref f) ds d := fun A H s vs Q E hA hal hg hv k => by
  have hvl : vs.length = ns.length := by rw [hv.length, hlen]
  have kx := kinds_of hkind
  refine wpAny_call (codeAny_call_cells hA.room (hg.K _ _ hK) rfl hg.nolimit (codeRec_of hg.K hcd) hbody (hbind vs hvl) hclo (fun x hx => kx _ x.1 (List.of_mem_zip hx).1) (fun s₁ J => ?_) hco hgen hk)
  obtain ⟨I, kp⟩ := fn_in (K := K) (prog := prog) (w := w) (pu := false) hA hal hg hv hgl hbt hk hnd hcn (kx _) hlen J
  refine wpAny_mono (walk A H s s₁ I) (fun fl s' h => ?_) fun _ _ h => h.elim
  obtain ⟨v, rfl, f, i⟩ := h
  exact k v s' f (i.ext (hid_less fun b hb => List.mem_append.mpr (.inr hb)))

section
variable {c : Cx} {σ : Vars} {s : Shared} {Q : Flow → Shared → Prop} {E : Value → Shared → Prop} {rest : List Stmt}
theorem x_assign_callF {x fn : Str} {p q pos p' : Pos} {es : List Expr} {ds : List D} {d : D} {f : Addr} (I : In c σ s) (hp : c.pure = false) (hk : c.env.kindOf fn = some .globalImplicit) (hn : nsIn c.K mainGlobals fn = some (some (.ref f))) (hf : keepIn c.K (.ref f) = true)
    (hl : EvL c σ es ds) (hc : FnF c.K c.prog c.w c.n (.ref f) ds d) (hne : es ≠ []) (hs : backTo pos (starEach es c.env) = es.map fun e => (false, eval e c.env)) (hx : Sto c x)
    (k : ∀ s', In c ((x, d) :: σ) s' → wpAny (model c.prog c.w) c.A (execs rest c.env) Q E s')
    (hsw : swapsWith (.Call (.Name fn q) es [] pos) (some (.Name x p)) p'.line c.env = pure false) (hd : (fn == ("__debug__" : Str)) = false := by decide) :
    wpAny (model c.prog c.w) c.A (execs (.Assign [.Name x p] (.Call (.Name fn q) es [] pos) p' :: rest) c.env) Q E s := by
  refine wpAny_execs_cons (wpAny_Assign_Name ?_ hsw)
  show wpAny _ _ (do callWith pos (← eval (.Name fn q) c.env) [] (backTo pos (starEach es c.env)) (backToKw pos (keywordEach [] c.env))) _ _ s
  refine wpAny_bind (name_global I hk hn ?_ hd)
  rw [hs]
  refine callWith_of (P := c.K.In) (by rw [any_starred]; rfl) (keeps_K hf) (evalArgs_all hl s _ _ I hne fun vs s1 f1 i1 => ⟨(I.to f1).ground.K, ?_⟩)
  exact hc c.A c.H s1 vs _ _ I.amb (I.to f1).alive (I.to f1).ground i1 fun v s2 f2 i2 => ((I.to f1).toFut f2 hp).store hx i2 fun s3 I3 => k s3 I3
end


theorem ints_at {vs : List Value} {ns : List Int} (h : IntsAre vs ns) : ∀ k, k < ns.length → ∃ t, vs[k]? = some (.int (ns.getD k 0) t) := by
  induction h with
  | nil => intro k hk; exact absurd hk (Nat.not_lt_zero _)
  | cons n t r ih =>
    intro k hk
    cases k with
    | zero => exact ⟨t, rfl⟩
    | succ k =>
      obtain ⟨t', e⟩ := ih k (by simpa using hk)
      exact ⟨t', by simpa using e⟩

section
variable {c : Cx} {σ : Vars} {s : Shared} {Q : Flow → Shared → Prop} {E : Value → Shared → Prop} {rest : List Stmt}
theorem x_break {p : Pos} (h : Q .brk s) : wpAny (model c.prog c.w) c.A (execs (.Break p :: rest) c.env) Q E s :=
  wpAny_execs_cons (wpAny_bind (wpAny_standAt (wpAny_pure h)))

/-- x[i] += e upon a list that the frame owns -/
theorem x_augitem {x i : Str} {e : Expr} {p pi q pos : Pos} {a : Addr} {vs : List Value} {ns : List Int} {k m : Int} (I : In c σ s) (hx : σ.lookup x = some (.ref a)) (hi : σ.lookup i = some (.int k)) (he : Ev c σ e (.int m)) (hl : s.heap.IsList a vs.toArray) (hn : IntsAre vs ns)
    (h0 : 0 ≤ k) (hk : k < ns.length) (hz : k < 2 ^ 63)
    (kk : ∀ t s' h', Kp s s' → h'.IsList a (vs.set k.toNat (.int (ns.getD k.toNat 0 + m) t)).toArray → Heap.SameBut a s'.heap h' → wpAny (model c.prog c.w) c.A (execs rest c.env) Q E { s' with heap := h' })
    (hdx : (x == ("__debug__" : Str)) = false := by decide) (hdi : (i == ("__debug__" : Str)) = false := by decide) :
    wpAny (model c.prog c.w) c.A (execs (.AugAssign (.Subscript (.Name x p) (.Name i pi) q) .Add e pos :: rest) c.env) Q E s := by
  refine wpAny_execs_cons (wpAny_AugAssign_Subscript (ev_name (c := c) hx hdx s I _ _ fun ov s1 f1 i1 => ev_name (c := c) hi hdi s1 (I.to f1) _ _ fun iv s2 f2 i2 => ?_))
  obtain rfl := i1.ref_inv
  obtain ⟨t, rfl⟩ := i2.int_inv
  obtain ⟨tv, hv⟩ := ints_at hn k.toNat (by omega)
  have hl2 := isList_ext f2.ext (isList_ext f1.ext hl)
  refine wpAny_getItem_list hl2 h0 hz (by simpa using hv) ?_
  refine he s2 ((I.to f1).to f2) _ _ fun u s3 f3 i3 => ?_
  obtain ⟨tu, rfl⟩ := i3.int_inv
  refine PyProof.Rows.iadd_int ?_
  have hlen : vs.length = ns.length := hn.length
  refine wpAny_setItem_list (s := { s3 with toks := s3.toks + 1 }) (isList_ext f3.ext hl2) h0 hz (by rw [List.size_toArray, hlen]; exact hk) fun h' hl' hs' => ?_
  refine kk s3.toks { s3 with toks := s3.toks + 1 } h' (((f1.trans f2).trans f3).trans (Kp.tok s3 _)) ?_ hs'
  simpa using hl'
end

-- enumerate over a tuple
section
variable {prog : Program} {w : World} {A : Around} {E : Value → Shared → Prop} {s : Shared}
theorem draw_tup_item {it t : Addr} {i : Nat} {items : Array Value} {x : Value} {Q : Value → Shared → Prop} (hit : s.heap.IsTupleIter it t i) (ht : s.heap.IsTuple t items) (hx : items[i]? = some x)
    (hQ : ∀ h', h'.IsTupleIter it t (i + 1) → Heap.SameBut it s.heap h' → Q x { s with heap := h' }) : wpAny (model prog w) A (Builtin.SmallTypes.nextOf (.ref it)) Q E s := by
  obtain ⟨o, ho, hc, hd⟩ := id hit
  obtain ⟨ol, hol, _, nl, hdl⟩ := ht
  unfold Builtin.SmallTypes.nextOf
  refine wpAny_bind (wpAny_callSpecial?_slot (name := Str.ofString "__next__") hit.typeIs F.slot_tuple_iterator_next
    (wpAny_call_entry F.slot_tuple_iterator_next hit.typeIs F.entry_tuple_iterator_next ?_ (F.args_tuple_iterator_next_1 _)))
  show wpAny _ _ (field (.ref it) 0 >>= _) _ _ s
  refine wpAny_bind (wpAny_field ho hd (x := .ref t) rfl ?_)
  show wpAny _ _ (if (Value.ref t == Value.none) = true then _ else _) _ _ s
  rw [if_neg (show ¬ ((Value.ref t == Value.none) = true) from Bool.false_ne_true)]
  show wpAny _ _ (field (.ref it) 1 >>= _) _ _ s
  refine wpAny_bind (wpAny_field ho hd (x := .int i 0) rfl ?_)
  show wpAny _ _ (seqItems? (.ref t) >>= _) _ _ s
  refine wpAny_bind (wpAny_seqItems hol hdl ?_)
  simp only [Int.toNat_natCast, hx]
  refine wpAny_bind (wpAny_setField ho hd (by simp) (wpAny_pure ⟨x, rfl, wpAny_pure (hQ _ ?_ (Heap.SameBut.update ..))⟩))
  exact ⟨_, Heap.get?_update_self _ ho (Obj.isFreed_of_fields (Obj.data_mapFields hd _)), (Obj.cls_mapFields ..).trans hc, by
    rw [Obj.data_mapFields hd]; simp [rawInt]⟩
theorem draw_tup_end {it t : Addr} {i : Nat} {items : Array Value} {Q : Value → Shared → Prop} (hh : A.handled = none) (hit : s.heap.IsTupleIter it t i) (ht : s.heap.IsTuple t items) (hx : items[i]? = none)
    (hE : ∀ h' e, Heap.ExtBut it s.heap h' → (∃ o, h'.get? e = some o ∧ o.cls = .type "StopIteration") → E (.ref e) { s with heap := h' }) : wpAny (model prog w) A (Builtin.SmallTypes.nextOf (.ref it)) Q E s := by
  obtain ⟨o, ho, hc, hd⟩ := id hit
  obtain ⟨ol, hol, _, nl, hdl⟩ := ht
  unfold Builtin.SmallTypes.nextOf
  refine wpAny_bind (wpAny_callSpecial?_slot (name := Str.ofString "__next__") hit.typeIs F.slot_tuple_iterator_next
    (wpAny_call_entry F.slot_tuple_iterator_next hit.typeIs F.entry_tuple_iterator_next ?_ (F.args_tuple_iterator_next_1 _)))
  show wpAny _ _ (field (.ref it) 0 >>= _) _ _ s
  refine wpAny_bind (wpAny_field ho hd (x := .ref t) rfl ?_)
  show wpAny _ _ (if (Value.ref t == Value.none) = true then _ else _) _ _ s
  rw [if_neg (show ¬ ((Value.ref t == Value.none) = true) from Bool.false_ne_true)]
  show wpAny _ _ (field (.ref it) 1 >>= _) _ _ s
  refine wpAny_bind (wpAny_field ho hd (x := .int i 0) rfl ?_)
  show wpAny _ _ (seqItems? (.ref t) >>= _) _ _ s
  refine wpAny_bind (wpAny_seqItems hol hdl ?_)
  simp only [Int.toNat_natCast, hx]
  refine wpAny_bind (wpAny_rule (wpAny_bind (wpAny_setField ho hd (by simp) ?_)))
  show wpAny _ _ (newExc (.type "StopIteration") [] >>= _) _ _ _
  refine wpAny_bind ?_
  simp only [newExc, newTuple]
  refine wpAny_bind (wpAny_newObj_type ?_ (by size_fits))
  refine wpAny_bind (m := firstArgMember _ _) (wpAny_of_eq (a := Value.none) (by first | rfl | (simp only [firstArgMember]; rfl)) ?_)
  refine wpAny_newObj_type ?_ (by size_fits)
  simp only [raiseNew]
  refine wpAny_bind (wpAny_handled ?_)
  first | rw [show A.in1.handled = none from hh] | rw [hh]
  refine wpAny_bind (wpAny_pure (wpAny_throw ?_))
  exact hE _ _ (((Heap.SameBut.update ..).extBut.push _).push _) ⟨_, Heap.get?_push_size _ rfl, rfl⟩
end

theorem draws_tup {prog : Program} {w : World} {A : Around} (hh : A.handled = none) (it t : Addr) (hne : t ≠ it) (items : Array Value) :
    Draws prog w A it [it, t] items.size (fun i v => items[i]? = some v) (fun i h => h.IsTupleIter it t i ∧ h.IsTuple t items) where
  live := fun _ _ st => let ⟨o, ho, _⟩ := st.1; ⟨o, ho⟩
  frame := fun _ _ _ st hk => ⟨let ⟨o, e, r⟩ := st.1; ⟨o, hk it (by simp) o e, r⟩, let ⟨o, e, r⟩ := st.2; ⟨o, hk t (by simp) o e, r⟩⟩
  item := fun i s Q E hi st hQ => by
    refine draw_tup_item st.1 st.2 (x := items[i]) (by simp [hi]) fun h' hit' hs' => ?_
    exact hQ _ h' s.toks (by simp [hi]) ⟨hit', st.2.extBut hs'.extBut hne⟩ hs'
  done := fun s Q E st hE => draw_tup_end hh st.1 st.2 (by simp) hE

open AutoSeq1 (wpAny_loadPart') in
theorem enum_new_tup (t : Addr) (items : Array Value) (n : Nat) (dct : Option Addr) (sl : Array (Option Value)) :
    Meets (Builtin.«enumerate.__new__» ⟨[.type "enumerate", .ref t], []⟩) (fun _ R s => s.heap.get? t = some { cls := .type "tuple", dict := dct, data := .seq items n, slots := sl } ∧
      R (.ok (.ret (.ref (s.heap.push { cls := .type "tuple_iterator", data := .fields #[.ref t, .int 0 0] }).objs.size)))
        { s with heap := (s.heap.push { cls := .type "tuple_iterator", data := .fields #[.ref t, .int 0 0] }).push { cls := .type "enumerate", data := .fields #[.none, .bool false, .ref s.heap.objs.size, rawInt 0, .none, .none] } }) :=
  .of_wp fun prog w A R s h => by
    obtain ⟨hp, g, d, tk, os⟩ := s; obtain ⟨hl, h⟩ := h
    have hsub := sub_enumerate
    have hL : Heap.IsTuple (Shared.heap ⟨hp, g, d, tk, os⟩) t items := ⟨_, hl, rfl, n, rfl⟩
    wp_walk using wpAny_loadPart' hl
    refine wpAny_stack_any fun st => wpAny_pure ?_
    split
    · rename_i c _ _ _ _ _
      cases (c == Value.type "enumerate")
      · wp_walk using wpAny_loadPart' hl, wpAny_pyIter_tuple hL
        exact ⟨_, rfl, h⟩
      · wp_walk using wpAny_loadPart' hl, wpAny_pyIter_tuple hL
        exact ⟨_, rfl, h⟩
    · wp_walk using wpAny_loadPart' hl, wpAny_pyIter_tuple hL
      exact ⟨_, rfl, h⟩
theorem enum_call_tup {prog : Program} {w : World} {A : Around} {E : Value → Shared → Prop} {s : Shared} {t : Addr} {items : Array Value} {Q : Value → Shared → Prop} (hL : s.heap.IsTuple t items)
    (h : ∀ h', IsEnum h' (s.heap.objs.size + 1) s.heap.objs.size 0 .none → h'.IsTupleIter s.heap.objs.size t 0 → h'.objs.size = s.heap.objs.size + 2 →
      (∀ b o, s.heap.get? b = some o → h'.get? b = some o) → Q (.ref (s.heap.objs.size + 1)) { s with heap := h' }) :
    wpAny (model prog w) A (call (.type "enumerate") [.ref t]) Q E s := by
  obtain ⟨⟨c, dct, dt, sl⟩, hl, hc, n, hd⟩ := hL
  replace hc : c = .type "tuple" := hc
  replace hd : dt = .seq items n := hd
  subst hc hd
  refine callType_new F.called_enumerate (by decide) (F.typeCall_enumerate_1 _) (F.newCall_enumerate_1 _) (fun obj => F.args_object_init_2 obj _) F.entry_enumerate_new
    (enum_new_tup t items n dct sl) ⟨hl, ?_⟩
  have hz : (s.heap.push { cls := .type "tuple_iterator", data := .fields #[.ref t, .int 0 0] }).objs.size = s.heap.objs.size + 1 := Heap.size_push ..
  show _ ∧ _
  rw [hz]
  have he : IsEnum ((s.heap.push { cls := .type "tuple_iterator", data := .fields #[.ref t, .int 0 0] }).push
      { cls := .type "enumerate", data := .fields #[.none, .bool false, .ref s.heap.objs.size, rawInt 0, .none, .none] }) (s.heap.objs.size + 1) s.heap.objs.size 0 .none := by
    have := Heap.get?_push_size (s.heap.push { cls := .type "tuple_iterator", data := .fields #[.ref t, .int 0 0] })
      (o := { cls := .type "enumerate", data := .fields #[.none, .bool false, .ref s.heap.objs.size, rawInt 0, .none, .none] }) rfl
    rw [hz] at this; exact this
  refine ⟨⟨_, he, rfl⟩, h _ he ⟨_, Heap.get?_push_of_some _ (Heap.get?_push_size _ rfl), rfl, rfl⟩ (by rw [Heap.size_push, hz]) fun b o x => Heap.get?_push_of_some _ (Heap.get?_push_of_some _ x)⟩


theorem In.upds {c : Cx} {σ : Vars} {s : Shared} (I : In c σ s) {W : List Addr} {h : Heap} {tk : Nat} (hH : ∀ a ∈ W, a ∈ c.H) (hf : ∀ a ∈ W, c.s₀.heap.get? a = none) (hL : c.env.locals ∉ W)
    (hC : ∀ x b, (x, b) ∈ c.env.cells → b ∉ W) (hs : ∀ b o, b ∉ W → s.heap.get? b = some o → h.get? b = some o) (ho : ∀ a ∈ W, ∃ o, h.get? a = some o) : In c σ { s with heap := h, toks := tk } where
  fut := ⟨fun b o e => hs b o (fun q => by rw [hf b q] at e; cases e) (I.fut.ext b o e), I.fut.os, I.fut.gens, I.fut.bare⟩
  same := fun hp => let ⟨_, _, e⟩ := I.same hp; ⟨h, tk, by rw [e]⟩
  amb := I.amb
  gr := I.gr
  kind := I.kind
  glob := I.glob
  blt := I.blt
  alive := fun b hb => by
    by_cases e : b ∈ W
    · exact ho b e
    · obtain ⟨o, q⟩ := I.alive b hb; exact ⟨o, hs b o e q⟩
  sub := I.sub
  fresh := I.fresh
  locals := ⟨I.locals.1, let ⟨m, e⟩ := I.locals.2; ⟨m, e.at' fun o q => hs _ o hL q⟩⟩
  cells := fun x b hm => let ⟨p, q, v, o, e, r⟩ := I.cells x b hm; ⟨p, q, v, o, hs _ o (hC x b hm) e, r⟩
  apart := I.apart
  vars := fun x d hd => by
    obtain ⟨v, r, i⟩ := I.vars x d hd
    refine ⟨v, ?_, i.ext (hid_extBut fun b o hb e => hs b o (fun q => hb (hH b q)) e)⟩
    rcases r with ⟨k, m, e, f⟩ | ⟨k, b, e, o, f, g⟩
    · exact .inl ⟨k, m, e.at' fun o q => hs _ o hL q, f⟩
    · exact .inr ⟨k, b, e, o, hs _ o (hC x b (mem_of_lookup e)) f, g⟩

theorem unpack2L {c : Cx} {σ : Vars} {s : Shared} {a b : Str} {p q tp : Pos} {k : Nat} {d1 d2 : D} {v : Value} {R : Unit → Shared → Prop} {E : Value → Shared → Prop} (I : In c σ s) (i : Is (hideAll s.heap c.H) (.tup [d1, d2]) v) (ha : c.env.kindOf a = some .local) (hb : c.env.kindOf b = some .local)
    (kk : ∀ s', In c ((b, d2) :: (a, d1) :: σ) s' → (∀ z o, z ≠ c.env.locals → s.heap.get? z = some o → s'.heap.get? z = some o) → R () s') : wpAny (model c.prog c.w) c.A (assign (.Tuple [.Name a p, .Name b q] k tp) c.env v) R E s := by
  obtain ⟨t, vs, rfl, ht, hv⟩ := i.tup_inv
  obtain ⟨x, y, rfl, ix, iy⟩ := all2 hv
  show wpAny _ _ (do standAt tp; unpack (.ref t) (assignEach [.Name a p, .Name b q] c.env)) R E s
  refine wpAny_bind (wpAny_standAt (unpack_tuple I.amb.handled (ht.keeps hid_of) rfl rfl fun h' hx => ?_))
  have hk : Ext s.heap h' := fun b o e => hx b o (Nat.ne_of_lt (Heap.lt_size e)) e
  have I1 := I.to (Kp.heap (tk := s.toks) hk)
  have LH := I.sub _ I.locals.1
  refine assignInOrder_cons (wpAny_assign_Name (I1.store_local ha (ix.ext (hid_ext hk)) fun s2 I2 e2 => ?_))
  have x2 : Ext (hideAll h' c.H) (hideAll s2.heap c.H) := hid_extBut fun z o hH e => (e2 z fun w => hH (w ▸ LH)).trans e
  exact assignInOrder_cons (wpAny_assign_Name (I2.store_local hb ((iy.ext (hid_ext hk)).ext x2) fun s3 I3 e3 => assignInOrder_nil (kk s3 I3 fun z o hz e => (e3 z hz).trans ((e2 z hz).trans (hk z o e)))))

/-- what an iterator of pairs hands out -/
inductive SrcT (prog : Program) (w : World) (A : Around) (I u : Addr) (n : Nat) (H : List Addr) (g : Heap) (it0 it1 : Nat → D) (h : Heap) : Prop
  | mk (fp : List Addr) (Pt : Nat → Array Value → Prop) (St : Nat → Heap → Prop) (Mid : Nat → Addr → Heap → Prop) (W : WalksT prog w A I fp [I, u] n Pt St Mid) (hob : ∀ i h, St i h → (∃ o, h.get? I = some o) ∧ ∃ o, h.get? u = some o)
    (hP : ∀ i vals, i < n → Pt i vals → ∃ v0 v1, vals = #[v0, v1] ∧ Is g (it0 i) v0 ∧ Is g (it1 i) v1) (hst : St 0 h) (hfp : ∀ b ∈ fp, b = I ∨ b = u ∨ b ∉ H) (hal : ∀ b ∈ fp, ∃ o, h.get? b = some o)
theorem SrcT.more {prog : Program} {w : World} {A : Around} {I u : Addr} {n : Nat} {H H' : List Addr} {g h h' : Heap} {it0 it1 : Nat → D} (S : SrcT prog w A I u n H g it0 it1 h) (k : Ext h h') (hf : ∀ b ∈ H', b ∈ H ∨ h.get? b = none) : SrcT prog w A I u n H' g it0 it1 h' := by
  obtain ⟨fp, Pt, St, Mid, W, hob, hP, hst, hfp, hal⟩ := S
  refine ⟨fp, Pt, St, Mid, W, hob, hP, W.frame _ _ _ hst fun b _ o e => k b o e, fun b hb => ?_, fun b hb => let ⟨o, e⟩ := hal b hb; ⟨o, k b o e⟩⟩
  rcases hfp b hb with h1 | h1 | h1
  · exact .inl h1
  · exact .inr (.inl h1)
  · refine .inr (.inr fun q => ?_)
    rcases hf b q with h2 | h2
    · exact h1 h2
    · obtain ⟨o, e⟩ := hal b hb; rw [h2] at e; cases e
theorem SrcT.self {prog : Program} {w : World} {A : Around} {I u : Addr} {n : Nat} {H : List Addr} {g : Heap} {it0 it1 : Nat → D} {s : Shared} {Q E : Value → Shared → Prop} (S : SrcT prog w A I u n H g it0 it1 s.heap) (h : Q (.ref I) s) :
    wpAny (model prog w) A (pyIter (.ref I)) Q E s := S.casesOn fun _ _ _ _ W _ _ hst _ _ => W.self 0 s Q E hst h

section
variable {c : Cx} {s : Shared} {I u Da : Addr} {n : Nat} {it0 it1 : Nat → D} {g : Heap} {σ₀ : Vars} {ds₀ : List D}

/-- a list comprehension over pairs -/
theorem comp_walkT {R : Result → Shared → Prop} {elt : Expr} {gens : List Comprehension} {scope : Scope} {pos : Pos} {dp : Nat} {x y : Str} {px py tp ipos : Pos} {kt : Nat} {post : Sem Fin} (hI : I ∉ c.H) (hs₀ : c.s₀.heap.get? I = none) (hu : u ∈ c.H) (hu₀ : c.s₀.heap.get? u = none) (hum : u ∉ c.m)
    (huc : ∀ x b, (x, b) ∈ c.env.cells → b ≠ u) (huD : Da ≠ u) (hDH : Da ∈ c.H) (hDL : Da ≠ c.env.locals)
    (hm : ∀ b ∈ c.m, b ∈ c.H) (hcl : ∀ x b, (x, b) ∈ c.env.cells → b ∈ c.H) (hx : c.env.kindOf x = some .local) (hy : c.env.kindOf y = some .local)
    (hcode : compTurn (.ListComp elt gens scope pos) dp (.ref I) (.ref Da) c.env = (standAt ipos >>= fun _ => pyNext (.ref I) >>= fun r => match r with
      | none => pure (.done .next)
      | some v => letOwnedTupleGo (.Tuple [.Name x px, .Name y py] kt tp) (.ref I) v >>= fun _ => assign (.Tuple [.Name x px, .Name y py] kt tp) c.env v >>= fun _ => post))
    (I₀ : CS (c.more I) Da σ₀ ds₀ s) (hg : Ext g s.heap) (hgn : ∀ b o, g.get? b = some o → b ∉ I :: c.H) (S : SrcT c.prog c.w c.A I u n c.H g it0 it1 s.heap)
    (J : Nat → Vars → List D → Prop) (hJ : J 0 σ₀ ds₀)
    (hturn : ∀ i σ ds s1 s2, i < n → J i σ ds → CS (c.turn I s1) Da ((y, it1 i) :: (x, it0 i) :: σ) ds s2 →
      wpAny (model c.prog c.w) c.A post (fun fin s' => fin = .again (.compLoop (.ListComp elt gens scope pos) dp (.ref I) (.ref Da) c.env) ∧ ∃ σ' ds', J (i + 1) σ' ds' ∧ CS (c.turn I s1) Da σ' ds' s') (fun _ _ => False) s2)
    {H' : List Addr} (hH' : ∀ b ∈ H', b ∈ c.H ∧ b ≠ u) (hm' : ∀ b ∈ c.m, b ∈ H') (hcl' : ∀ x b, (x, b) ∈ c.env.cells → b ∈ H')
    (done : ∀ σ ds s', J n σ ds → CS { c with H := H' } Da σ ds s' → R (.ok .next) s') :
    codeAny (model c.prog c.w) c.A (.compLoop (.ListComp elt gens scope pos) dp (.ref I) (.ref Da) c.env) R s := by
  obtain ⟨fp, Pt, St, Mid, W, hob, hP, hst, hfp, _⟩ := S
  have hLm : c.env.locals ∈ c.m := I₀.inn.locals.1
  have hLW : c.env.locals ∉ [I, u] := fun q => by
    rcases List.mem_cons.mp q with q | q
    · exact hI (q ▸ hm _ hLm)
    · exact hum (List.mem_singleton.mp q ▸ hLm)
  have hmI : I ∉ c.m := fun q => hI (hm _ q)
  have hWc : ∀ x b, (x, b) ∈ c.env.cells → b ∉ [I, u] := fun x b hb q => by
    rcases List.mem_cons.mp q with q | q
    · exact hI (q ▸ hcl x b hb)
    · exact huc x b hb (List.mem_singleton.mp q)
  have hWf : ∀ a ∈ [I, u], c.s₀.heap.get? a = none := fun a ha => by
    rcases List.mem_cons.mp ha with rfl | ha
    · exact hs₀
    · rw [List.mem_singleton.mp ha]; exact hu₀
  have hWH : ∀ a ∈ [I, u], a ∈ I :: c.H := fun a ha => by
    rcases List.mem_cons.mp ha with rfl | ha
    · exact List.mem_cons_self
    · rw [List.mem_singleton.mp ha]; exact List.mem_cons_of_mem _ hu
  have hDW : Da ∉ [I, u] := fun q => by
    rcases List.mem_cons.mp q with q | q
    · exact hI (q ▸ hDH)
    · exact huD (List.mem_singleton.mp q)
  have hgW : ∀ b o, g.get? b = some o → b ∉ [I, u] := fun b o e q => hgn b o e (hWH b q)
  refine codeAny_loop rfl (LpC n J (c.more I) Da St g) (fun k s' hI' => ?_) (n + 1) ⟨0, σ₀, ds₀, Nat.zero_le _, rfl, hJ, I₀, hst, hg⟩
  obtain ⟨i, σ, ds, hi, rfl, hJi, Ci, hSi, hgi⟩ := hI'
  show wpAny _ c.A ((compTurn (.ListComp elt gens scope pos) dp (.ref I) (.ref Da) c.env).onRaise (fun x => do noteFrame x c.env; theTreesLotGoes x)) _ _ s'
  refine wpAny_noted ?_
  rw [hcode]
  refine wpAny_bind (wpAny_standAt (wpAny_bind ?_))
  have Ii := Ci.inn
  obtain ⟨vs, hvs, hall⟩ := Ci.acc
  by_cases hlt : i < n
  · refine W.item i s' _ _ hlt hSi fun T vals h' tk hv hTn hT hMid hk => ?_
    obtain ⟨v0, v1, rfl, i0, i1⟩ := hP i vals hlt hv
    refine wpAny_bind (W.go _ _ _ i T _ _ _ hMid fun h₂ hS2 hk2 => wpAny_bind ?_)
    replace hk2 : ∀ b o, b ∉ [I, u] → h'.get? b = some o → h₂.get? b = some o := hk2
    have hk' : ∀ b o, b ∉ [I, u] → s'.heap.get? b = some o → h₂.get? b = some o := fun b o hb e => hk2 b o hb (hk b o hb e)
    have I1 : In (c.more I) σ { s' with heap := h₂, toks := tk } := Ii.upds (W := [I, u]) hWH hWf hLW hWc hk' fun a ha => by
      rcases List.mem_cons.mp ha with rfl | ha
      · exact (hob _ _ hS2).1
      · rw [List.mem_singleton.mp ha]; exact (hob _ _ hS2).2
    have hg1 : Ext g h₂ := fun b o e => hk' b o (hgW b o e) (hgi b o e)
    have It := I1.turn
    have hacc1 : (h₂).IsList Da vs.toArray ∧ IsAll (hideAll h₂ (I :: c.H)) ds vs :=
      ⟨let ⟨o, e, r⟩ := hvs; ⟨o, hk' _ _ hDW e, r⟩, hall.ext (hid_extBut fun b o hb e => hk' b o (fun q => hb (hWH b q)) e)⟩
    have hTH : T ∉ I :: c.H := fun q => by
      obtain ⟨o, e⟩ := Ii.alive T q
      exact absurd (Heap.lt_size e) (Nat.not_lt.mpr hTn)
    have hT2 : IsTup (hideAll h₂ (I :: c.H)) T #[v0, v1] := by
      obtain ⟨o, e, r⟩ := hT
      exact ⟨o, hideAll_get _ (hk2 _ _ (fun q => hTH (hWH T q)) e) hTH, r⟩
    have hx1 : Ext g (hideAll h₂ (I :: c.H)) := fun b o e => hideAll_get _ (hg1 b o e) (hgn b o e)
    refine unpack2L (c := c.turn I _) It (.tup (vs := [v0, v1]) hT2 (.cons (i0.ext hx1) (.cons (i1.ext hx1) .nil))) hx hy fun s2 I2 hb2 => ?_
    have hLH : c.env.locals ∈ c.H := hm _ hLm
    have C2 : CS (c.turn I ({ s' with heap := h₂, toks := tk } : Shared)) Da ((y, it1 i) :: (x, it0 i) :: σ) ds s2 :=
      ⟨I2, vs, let ⟨o, e, r⟩ := hacc1.1; ⟨o, hb2 Da o hDL e, r⟩, hacc1.2.ext (hid_extBut fun b o hb e => hb2 b o (fun q => hb (List.mem_cons_of_mem _ (q ▸ hLH))) e)⟩
    refine wpAny_mono (hturn i σ ds _ s2 hlt hJi C2) (fun fin s3 h3 => ?_) fun _ _ q => q.elim
    obtain ⟨rfl, σ', ds', hJ', C3⟩ := h3
    have I3 := C3.inn
    have hkeep : Ext (hideAll h₂ c.m) s3.heap := I3.fut.ext
    refine ⟨rfl, n + 1 - (i + 1), by omega, i + 1, σ', ds', hlt, rfl, hJ', ⟨I1.unturn I3, C3.acc⟩, ?_, fun b o e => hkeep b o (hideAll_get _ (hg1 b o e) fun q => hgn b o e (List.mem_cons_of_mem _ (hm _ q)))⟩
    refine W.frame _ _ _ hS2 fun b hb o e => hkeep b o (hideAll_get _ e fun q => ?_)
    rcases hfp b hb with rfl | rfl | hb'
    · exact hmI q
    · exact hum q
    · exact hb' (hm _ q)
  · have : i = n := by omega
    subst this
    refine W.done s' _ _ hSi fun h' tk hk => ?_
    refine wpAny_pure (done σ ds _ hJi ?_)
    have hHW : ∀ b ∈ H', b ∉ [I, u] := fun b hb q => by
      rcases List.mem_cons.mp q with q | q
      · exact hI (q ▸ (hH' b hb).1)
      · exact (hH' b hb).2 (List.mem_singleton.mp q)
    have hx : Ext (hideAll s'.heap (I :: c.H)) (hideAll h' H') := fun b o e => hideAll_get _ (hk b o (fun z => hid_not e (hWH b z)) (of_hideAll _ e)) fun z => hid_not e (List.mem_cons_of_mem _ (hH' b z).1)
    refine ⟨{ fut := ⟨fun b o e => hk b o (fun q => by rw [hWf b q] at e; cases e) (Ii.fut.ext b o e), Ii.fut.os, Ii.fut.gens, Ii.fut.bare⟩, same := fun hp => let ⟨_, _, e⟩ := Ii.same hp; ⟨h', tk, by rw [e]⟩,
               amb := Ii.amb, gr := Ii.gr, kind := Ii.kind, glob := Ii.glob, blt := Ii.blt, alive := ?_, sub := hm', fresh := Ii.fresh, locals := ⟨Ii.locals.1, ?_⟩, cells := ?_, apart := Ii.apart, vars := ?_ }, vs, ?_, hall.ext hx⟩
    · intro b hb
      obtain ⟨o, e⟩ := Ii.alive b (List.mem_cons_of_mem _ (hH' b hb).1)
      exact ⟨o, hk b o (hHW b hb) e⟩
    · obtain ⟨m, e⟩ := Ii.locals.2
      exact ⟨m, e.at' fun o q => hk _ o hLW q⟩
    · intro x b hb
      obtain ⟨p, q, v, o, e, r⟩ := Ii.cells x b hb
      exact ⟨hcl' x b hb, q, v, o, hk b o (hWc x b hb) e, r⟩
    · intro x d hd
      obtain ⟨v, r, i⟩ := Ii.vars x d hd
      refine ⟨v, ?_, i.ext hx⟩
      rcases r with ⟨k, m, e, f⟩ | ⟨k, b, e, o, f, g⟩
      · exact .inl ⟨k, m, e.at' fun o q => hk _ o hLW q, f⟩
      · exact .inr ⟨k, b, e, o, hk _ o (hWc x b (mem_of_lookup e)) f, g⟩
    · obtain ⟨o, e, r⟩ := hvs
      exact ⟨o, hk _ _ hDW e, r⟩
end

theorem compTurn_T (elt iter : Expr) (x y : Str) (px py tp : Pos) (kt : Nat) (scope : Scope) (pos : Pos) (it acc : Value) (env : Env) :
    compTurn (.ListComp elt [⟨.Tuple [.Name x px, .Name y py] kt tp, iter, [], 0⟩] scope pos) 0 it acc env = (standAt iter.pos >>= fun _ => pyNext it >>= fun r => match r with
      | none => pure (.done .next)
      | some v => letOwnedTupleGo (.Tuple [.Name x px, .Name y py] kt tp) it v >>= fun _ => assign (.Tuple [.Name x px, .Name y py] kt tp) env v >>= fun _ =>
        (testsOf [] env >>= fun ok => if ok = true then emitOf elt acc env (.compLoop (.ListComp elt [⟨.Tuple [.Name x px, .Name y py] kt tp, iter, [], 0⟩] scope pos) 0 it acc env)
          else again (.compLoop (.ListComp elt [⟨.Tuple [.Name x px, .Name y py] kt tp, iter, [], 0⟩] scope pos) 0 it acc env))) := by
  rfl

section
variable {c : Cx} {σ : Vars} {elt iter : Expr} {x y : Str} {px py tp : Pos} {kt : Nat} {scope : Scope} {pos : Pos} {n : Nat} {it0 it1 : Nat → D}
theorem run_T (ok : ScOk c scope) (hx : scope.names.lookup x = some .local) (hy : scope.names.lookup y = some .local) (out : Nat → D) (hz : n ≤ sizeLine) {u : Addr} (hu : u ∉ c.H)
    (turn : ∀ i I C Da s1 s2, i < n → Ev (((c.hid [u]).comp scope C Da s1).turn I s2) ((y, it1 i) :: (x, it0 i) :: freeVars scope σ) elt (out i)) :
    CompRunG c [u] σ elt [⟨.Tuple [.Name x px, .Name y py] kt tp, iter, [], 0⟩] scope pos (fun I H g h => SrcT c.prog c.w c.A I u n H g it0 it1 h) (outs (fun i => [out i]) n) := by
  intro I C Da s1 s4 g R C4 hI hn hDC hcl hg hgn S hX done
  obtain ⟨hu0, huC, huD, huc⟩ := hX u List.mem_cons_self
  have hm : ∀ b ∈ ((c.hid [u]).comp scope C Da s1).m, b ∈ ((c.hid [u]).comp scope C Da s1).H := fun b hb => by
    rcases List.mem_cons.mp hb with rfl | hb
    · exact List.mem_cons_self
    · rw [List.mem_singleton.mp hb]; exact List.mem_cons_of_mem _ List.mem_cons_self
  have hum : u ∉ ((c.hid [u]).comp scope C Da s1).m := fun q => by
    rcases List.mem_cons.mp q with q | q
    · exact huC q
    · exact huD (List.mem_singleton.mp q)
  have loop : codeAny (model c.prog c.w) c.A (.compLoop (.ListComp elt [⟨.Tuple [.Name x px, .Name y py] kt tp, iter, [], 0⟩] scope pos) 0 (.ref I) (.ref Da) (c.comp scope C Da s1).env) R s4 := by
    refine comp_walkT (c := (c.hid [u]).comp scope C Da s1) (H' := C :: Da :: c.H) hI hn (List.mem_cons_of_mem _ (List.mem_cons_of_mem _ List.mem_cons_self)) hu0 hum huc (Ne.symm huD) (List.mem_cons_of_mem _ List.mem_cons_self) hDC hm (fun x b h => (hcl x b h).1) (lookup_relabel_local hx) (lookup_relabel_local hy) (compTurn_T ..) C4 hg hgn S
      (fun i σ' ds' => (σ' = freeVars scope σ) ∧ ds' = outs (fun i => [out i]) i) ⟨rfl, rfl⟩ ?_ ?_ ?_ ?_ (fun σ' ds' s' e C' => done σ' s' (e.2 ▸ C'))
    · rintro i σ' ds' t1 t2 hlt ⟨rfl, rfl⟩ C2
      refine wpAny_bind (wpAny_tests_nil ?_)
      rw [if_pos rfl]
      refine wpAny_bind (wpAny_bind (turn i I C Da s1 t1 hlt t2 C2.inn _ _ fun v s5 f5 i5 => wpAny_bind (cs_append (c := ((c.hid [u]).comp scope C Da s1).turn I t1) (C2.to f5) (List.mem_cons_of_mem _ List.mem_cons_self) hDC (fun y b h => (hcl y b h).2) i5 ?_ fun u s6 C6 => wpAny_pure (wpAny_pure ⟨rfl, _, _, ⟨rfl, rfl⟩, ?_⟩))))
      · have := outs_len (fun i => [out i]) 1 i (fun _ _ => Nat.le_refl _)
        omega
      · rw [outs_succ]
        refine C6.weaken fun z d h => ?_
        have h1 := freeVars_cons (v := it0 i) hx z d h
        rw [List.lookup_cons]
        cases hz : z == y with
        | true =>
          have := eq_of_beq hz; subst this
          have := (freeVars_get h).2.1
          rw [hy] at this; cases this
        | false => exact h1
    · intro b hb
      rcases List.mem_cons.mp hb with rfl | hb
      · exact ⟨List.mem_cons_self, Ne.symm huC⟩
      rcases List.mem_cons.mp hb with rfl | hb
      · exact ⟨List.mem_cons_of_mem _ List.mem_cons_self, Ne.symm huD⟩
      · exact ⟨List.mem_cons_of_mem _ (List.mem_cons_of_mem _ (List.mem_cons_of_mem _ hb)), fun q => hu (q ▸ hb)⟩
    · intro b hb
      rcases List.mem_cons.mp hb with rfl | hb
      · exact List.mem_cons_self
      · rw [List.mem_singleton.mp hb]; exact List.mem_cons_of_mem _ List.mem_cons_self
    · intro x b hb
      have h1 := (hcl x b hb).1
      have h2 := huc x b hb
      rcases List.mem_cons.mp h1 with h1 | h1
      · rw [h1]; exact List.mem_cons_self
      rcases List.mem_cons.mp h1 with h1 | h1
      · rw [h1]; exact List.mem_cons_of_mem _ List.mem_cons_self
      rcases List.mem_cons.mp h1 with h1 | h1
      · exact absurd h1 h2
      · exact List.mem_cons_of_mem _ (List.mem_cons_of_mem _ h1)
  exact codeAny_compStart_list loop (S.self loop)

/-- z = [elt for x, y in enumerate((..))] -/
theorem x_assign_enum {s : Shared} {Q : Flow → Shared → Prop} {E : Value → Shared → Prop} {rst : List Stmt} {z : Str} {p p' q tpos cpos : Pos} {es : List Expr} {kk : Nat} {ds : List D}
    (I : In c σ s) (hl : EvL c σ es ds) (hk : c.env.kindOf "enumerate" = some .globalImplicit) (hn : nsIn c.K mainGlobals "enumerate" = some none) (hb : bootBuiltins "enumerate" = some (.type "enumerate"))
    (hse : backTo tpos (starEach es c.env) = es.map fun e => (false, eval e c.env)) (hsz : ds.length ≤ sizeLine) (hsc : backTo cpos (starEach [Expr.Tuple es kk tpos] c.env) = [(false, eval (.Tuple es kk tpos) c.env)])
    (ok : ScOk c scope) (hx : scope.names.lookup x = some .local) (hy : scope.names.lookup y = some .local) (out : Nat → D)
    (turn : ∀ i u I C Da s1 s2, i < ds.length → u ∉ c.H → Ev (((c.hid [u]).comp scope C Da s1).turn I s2) ((y, ds.getD i .none) :: (x, .int (i : Int)) :: freeVars scope σ) elt (out i))
    (hz : c.env.kindOf z = some .local) (k : ∀ s', In c ((z, .list (outs (fun i => [out i]) ds.length)) :: σ) s' → wpAny (model c.prog c.w) c.A (execs rst c.env) Q E s')
    (hsw : swapsWith (.ListComp elt [⟨.Tuple [.Name x px, .Name y py] kt tp, .Call (.Name "enumerate" q) [.Tuple es kk tpos] [] cpos, [], 0⟩] scope pos) (some (.Name z p)) p'.line c.env = pure true)
    (hs : ∀ v, foldedSetIterable (.Call (.Name "enumerate" q) [.Tuple es kk tpos] [] cpos) c.env v = pure v := by intro _; rfl) :
    wpAny (model c.prog c.w) c.A (execs (.Assign [.Name z p] (.ListComp elt [⟨.Tuple [.Name x px, .Name y py] kt tp, .Call (.Name "enumerate" q) [.Tuple es kk tpos] [] cpos, [], 0⟩] scope pos) p' :: rst) c.env) Q E s := by
  refine wpAny_execs_cons ?_
  rw [exec_Assign_Name_used _ _ _ _ hsw]
  refine wpAny_bind (wpAny_standAt (wpAny_bind ?_))
  show wpAny _ _ (do let _ ← comprehension (.ListComp elt [⟨.Tuple [.Name x px, .Name y py] kt tp, .Call (.Name "enumerate" q) [.Tuple es kk tpos] [] cpos, [], 0⟩] scope pos) scope c.env (firstIterPos [⟨.Tuple [.Name x px, .Name y py] kt tp, .Call (.Name "enumerate" q) [.Tuple es kk tpos] [] cpos, [], 0⟩] pos) (newList []) false (eval (.Call (.Name "enumerate" q) [.Tuple es kk tpos] [] cpos) c.env) (some (assign (.Name z p) c.env))) _ _ s
  refine wpAny_bind (wpAny_mono (Q := fun _ s' => wpAny (model c.prog c.w) c.A (execs rst c.env) Q E s') (E := E) ?_ (fun _ s' hq => wpAny_pure (wpAny_pure hq)) fun _ _ e => e)
  refine wpAny_comprehension_free (use := some (assign (.Name z p) c.env)) rfl hs (closureFor_closL ok.clos) ok.kind ok.names ?_
  show wpAny _ _ (do callWith cpos (← eval (.Name "enumerate" q) c.env) [] (backTo cpos (starEach [Expr.Tuple es kk tpos] c.env)) (backToKw cpos (keywordEach [] c.env))) _ _ s
  refine wpAny_bind (name_builtin I hk hn hb (by decide) ?_ (by decide))
  rw [hsc]
  refine PySem.callWith_type rfl (Calls.evalArgs_plain (Calls.spliced_cons (ev_tuple hl hse hsz s I _ _ fun v s1 f1 i1 => Calls.spliced_nil ?_)))
  obtain ⟨t, vs, rfl, ht, hv⟩ := i1.tup_inv
  have I1 := I.to f1
  have ht1 : s1.heap.IsTuple t vs.toArray := ht.keeps hid_of
  refine enum_call_tup ht1 fun h' hE hI hsz' hk' => ?_
  have hk' : Ext s1.heap h' := hk'
  have hE0 : IsEnum h' (s1.heap.objs.size + 1) s1.heap.objs.size ((0 : Nat) : Int) .none := hE
  refine wpAny_pyIter_enum (s := { s1 with heap := h' }) hE ?_
  have htH : t ∉ c.H := let ⟨o, e, _⟩ := ht; hid_not e
  have htl : t < s1.heap.objs.size := let ⟨o, e, _⟩ := ht1; Heap.lt_size e
  have huH : s1.heap.objs.size ∉ c.H := I1.alive.new (Nat.le_refl _)
  have hnn : vs.length = ds.length := hv.length
  have hal : ∀ b, b ∈ [s1.heap.objs.size + 1, s1.heap.objs.size, t] → ∃ o, h'.get? b = some o := fun b hb => by
    rcases List.mem_cons.mp hb with rfl | hb
    · exact ⟨_, hE⟩
    rcases List.mem_cons.mp hb with rfl | hb
    · obtain ⟨o, e, _⟩ := hI; exact ⟨o, e⟩
    · rw [List.mem_singleton.mp hb]; obtain ⟨o, e, _⟩ := ht1; exact ⟨o, hk' _ _ e⟩
  refine comp_tail [s1.heap.objs.size] (Sp := fun I H g h => SrcT c.prog c.w c.A I s1.heap.objs.size ds.length H g (fun i => .int (i : Int)) (fun i => ds.getD i .none) h) (s2 := { s1 with heap := h' }) (Ia := s1.heap.objs.size + 1) I1 f1 (Kp.heap (tk := s1.toks) hk') (none_of_ge (Nat.le_succ _)) ⟨_, hE⟩
    (fun x hx => by rw [List.mem_singleton.mp hx]; exact ⟨size_none _, hal _ (List.mem_cons_of_mem _ List.mem_cons_self)⟩) (fun q => absurd (List.mem_singleton.mp q) (Nat.succ_ne_self _)) ?_ (fun _ _ _ _ _ _ S k hb => S.more k hb) ok (run_T ok hx hy out hsz huH fun i I C Da s1' s2' hi => turn i _ I C Da s1' s2' hi huH) ?_
  · have W := WalksT.enumerateD (draws_tup (A := c.A.in1) (prog := c.prog) (w := c.w) I1.amb.handled s1.heap.objs.size t (Nat.ne_of_lt htl) vs.toArray) (s1.heap.objs.size + 1) (Nat.succ_ne_self _) ?_ List.mem_cons_self
    rw [show vs.toArray.size = ds.length by rw [List.size_toArray, hnn]] at W
    refine ⟨_, _, _, _, W, ?_, ?_, ?_, ?_, ?_⟩
    rotate_left 5
    · intro q
      rcases List.mem_cons.mp q with q | q
      · exact absurd q (Nat.succ_ne_self _)
      · have q' := List.mem_singleton.mp q
        rw [← q'] at htl
        exact absurd htl (Nat.not_lt.mpr (Nat.le_succ _))
    · rintro i h ⟨⟨old, e⟩, ⟨o, e', _⟩, _⟩
      exact ⟨⟨_, e⟩, ⟨_, e'⟩⟩
    · rintro i vals hi ⟨ti, v, hv', rfl⟩
      refine ⟨_, _, rfl, .int _ _, ?_⟩
      obtain ⟨v', hv2, iv⟩ := hv.get i (ds.getD i .none) (by simp [List.getD, hi])
      have : vs.toArray[i]? = some v' := by simpa using hv2
      rw [this] at hv'; cases hv'; exact iv
    · exact ⟨⟨_, hE0⟩, hI, let ⟨o, e, r⟩ := ht1; ⟨o, hk' _ _ e, r⟩⟩
    · intro b hb
      rcases List.mem_cons.mp hb with rfl | hb
      · exact .inl rfl
      rcases List.mem_cons.mp hb with rfl | hb
      · exact .inr (.inl rfl)
      · rw [List.mem_singleton.mp hb]
        refine .inr (.inr fun q => ?_)
        rcases List.mem_cons.mp q with q | q
        · exact absurd q (Nat.ne_of_lt htl)
        · exact htH q
    · exact hal
  · intro C Da s' I' hLC hCH hC₀ hi h hm
    show wpAny _ _ (assign (.Name z p) c.env (.ref Da)) _ _ _
    refine wpAny_assign_Name (I'.store_local (c := c.more C) hz hi fun s'' I'' hb => ?_)
    obtain ⟨m, hm⟩ := hm
    refine ⟨m, hm.at' fun o e => (hb C hLC).trans e, fun h' hb' => k _ ?_⟩
    have hcells : ∀ x b, (x, b) ∈ c.env.cells → b ∈ c.H := fun x b h => (I.cells x b h).1
    exact I''.forget I.sub hcells hCH hC₀ fun b o hb e => (hb'.2 b hb).trans e
end

set_option maxRecDepth 100000 in
set_option maxHeartbeats 8000000 in
open_top hd for PySem.Challenge.rw_wn0080_01


noncomputable section
noncomputable abbrev KF (w : World) : Frag := hd.heap_39 w.params
noncomputable def fdAt (w : World) (f : Nat) : FuncData := match (KF w).lookup f with
  | some ⟨_, _, .func fd, _⟩ => fd
  | _ => default
noncomputable def bodyOf (fd : FuncData) : List Stmt := match fd.body with
  | .stmts b => b
  | _ => []

theorem k_strcoll (w : World) : (KF w).lookup 101 = some ⟨.type "function", none, .func (fdAt w 101), #[]⟩ := by kernel_rfl

theorem of_k {p : Prop} [Decidable p] (h : decide p = true) : p := of_decide_eq_true h

theorem c_strcoll (prog : Program) (w : World) (n : Nat) (a b : Str) :
    FnK (KF w) prog w (n + 1) (.ref 101) [.str a, .str b] (.int (b2i (decide (b.cps.toList < a.cps.toList)) - b2i (decide (a.cps.toList < b.cps.toList)))) := by
  refine fn_of (ns := ["a", "b"]) (body := bodyOf (fdAt w 101)) (k_strcoll w) (by kernel_rfl) (by kernel_rfl) (by kernel_rfl) (by kernel_rfl) ?_ (by kernel_rfl) (by kernel_rfl) (by kernel_rfl) (by kernel_rfl) (by decide +kernel) (of_k (by kernel_rfl)) (by kernel_rfl) rfl ?_
  · intro vs hv
    obtain ⟨x, y, rfl⟩ := len2 hv
    kernel_rfl
  · intro A H s s1 I
    refine x_return I (d := .int (b2i (decide (b.cps.toList < a.cps.toList)) - b2i (decide (a.cps.toList < b.cps.toList)))) ?_ ?_
    · refine ev_bin op_subbool ?_ ?_
      · refine ev_cmp op_gts ?_ ?_
        · exact ev_name rfl
        · exact ev_name rfl
      · refine ev_cmp op_lts ?_ ?_
        · exact ev_name rfl
        · exact ev_name rfl
    · intro v s' I' i
      exact ⟨v, rfl, I'.kp rfl, i⟩
end


/-- the letters of a number, by sixteens -/
noncomputable def apF : Nat → Nat → List UInt8 → List UInt8
  | 0, _, acc => acc
  | f + 1, n, acc => if n = 0 then acc else apF f (n / 16) ((65 + n % 16).toUInt8 :: acc)
theorem apF_zero (f : Nat) (acc : List UInt8) : apF f 0 acc = acc := by cases f <;> rfl
theorem apF_step (f n : Nat) (acc : List UInt8) (h : n ≠ 0) : apF (f + 1) n acc = apF f (n / 16) ((65 + n % 16).toUInt8 :: acc) := by rw [apF, if_neg h]

noncomputable abbrev apLetters : List UInt8 := [65, 66, 67, 68, 69, 70, 71, 72, 73, 74, 75, 76, 77, 78, 79, 80]
theorem ap_pick : ∀ r : Nat, r < 16 → pickB apLetters (some (r : Int)) (some ((r : Int) + 1)) = [(65 + r).toUInt8] := by decide +kernel

theorem k_int2ap (w : World) : (KF w).lookup 94 = some ⟨.type "function", none, .func (fdAt w 94), #[]⟩ := by kernel_rfl

theorem c_int2ap (prog : Program) (w : World) (n : Nat) (num : Int) (f : Nat) (hf : num.natAbs < 16 ^ f) (hz : f ≤ 1000) :
    FnK (KF w) prog w (n + 1) (.ref 94) [.int num] (.bytes (apF f num.natAbs []).toArray) := by
  refine fn_of (ns := ["num"]) (body := bodyOf (fdAt w 94)) (k_int2ap w) (by kernel_rfl) (by kernel_rfl) (by kernel_rfl) (by kernel_rfl) ?_ (by kernel_rfl) (by kernel_rfl) (by kernel_rfl) (by kernel_rfl) (by decide +kernel) (of_k (by kernel_rfl)) (by kernel_rfl) rfl ?_
  · intro vs hv
    obtain ⟨x, rfl⟩ := len1 hv
    kernel_rfl
  · intro A H s s1 I
    refine x_assign I (d := .bytes ([] : List UInt8).toArray) ?_ (.inl rfl) fun s2 I2 => ?_
    · exact ev_bytes
    refine x_assign I2 (d := .bytes apLetters.toArray) ?_ (.inl rfl) fun s3 I3 => ?_
    · exact ev_bytes
    refine x_assign I3 (d := .int (num.natAbs : Int)) ?_ (.inl rfl) fun s4 I4 => ?_
    · refine ev_call_type rfl (by kernel_rfl) (T := "int") (by decide +kernel) (by decide) (ds := [.int (num.natAbs : Int)]) ?_ fn_int (by simp) rfl
      refine .cons ?_ .nil
      have e : (num.natAbs : Int) = if num < 0 then -num else num := by split <;> omega
      rw [e]
      refine ev_call_builtin rfl (by kernel_rfl) (id := "abs") (by decide +kernel) (by decide) (ds := [.int num]) ?_ fn_abs (by simp) rfl
      exact .cons (ev_name rfl) .nil
    have I5 := I4.sub' (σ' := ([("num", .int (num.natAbs : Int)), ("val", .bytes ([] : List UInt8).toArray), ("AP", .bytes apLetters.toArray)] : Vars)) ⟨rfl, rfl, rfl, trivial⟩
    refine x_while I5 (fun k σ => ∃ (m : Nat) (acc : List UInt8) (f' : Nat), k = m ∧ m < 16 ^ f' ∧ acc.length + f' ≤ f ∧ apF f' m acc = apF f num.natAbs [] ∧
      σ = ([("num", .int (m : Int)), ("val", .bytes acc.toArray), ("AP", .bytes apLetters.toArray)] : Vars)) ⟨num.natAbs, [], f, rfl, hf, by simp, rfl, rfl⟩ ?_
    rintro k σ ⟨m, acc, f', rfl, hm, hl, hr, rfl⟩
    refine ⟨((k : Int) != 0), tst_int (ev_name rfl), fun hb t It => ?_, fun hb t It => ?_⟩
    · have hk : k ≠ 0 := by intro h; subst h; simp at hb
      obtain ⟨g, rfl⟩ : ∃ g, f' = g + 1 := by
        cases f' with
        | zero => simp at hm; exact absurd hm hk
        | succ g => exact ⟨g, rfl⟩
      refine x_unpack2 It (d1 := .int ((k / 16 : Nat) : Int)) (d2 := .int ((k % 16 : Nat) : Int)) ?_ (.inl rfl) (.inl rfl) fun t2 It2 => ?_
      · have e1 : ((k / 16 : Nat) : Int) = (k : Int).fdiv 16 := by rw [Int.fdiv_eq_ediv_of_nonneg _ (by decide)]; rfl
        have e2 : ((k % 16 : Nat) : Int) = (k : Int).fmod 16 := by rw [Int.fmod_eq_emod_of_nonneg _ (by decide)]; rfl
        rw [e1, e2]
        refine ev_call_builtin rfl (by kernel_rfl) (id := "divmod") (by decide +kernel) (by decide) (ds := [.int k, .int 16]) ?_ (fn_divmod (by decide) (by decide)) (by simp) rfl
        exact .cons (ev_name rfl) (.cons ev_int .nil)
      refine x_assign It2 (d := .bytes ((65 + k % 16).toUInt8 :: acc).toArray) ?_ (.inl rfl) fun t3 It3 => ?_
      · have hp := ap_pick (k % 16) (Nat.mod_lt _ (by decide))
        have e : ((65 + k % 16).toUInt8 :: acc).toArray = (pickB apLetters (some ((k % 16 : Nat) : Int)) (some (((k % 16 : Nat) : Int) + 1))).toArray ++ acc.toArray := by rw [hp]; simp
        rw [e]
        refine ev_bin (op_addb ?_) (a := .bytes _) (b := .bytes _) ?_ ?_
        · rw [hp]; simp; omega
        · refine ev_sliceb (a := some ((k % 16 : Nat) : Int)) (b := some (((k % 16 : Nat) : Int) + 1)) (ev_name rfl) (.some (ev_name rfl)) (.some ?_) (by decide)
          exact ev_bin op_add (ev_name rfl) ev_int
        · exact ev_name rfl
      refine wpAny_execs_nil ⟨k / 16, ([("num", .int ((k / 16 : Nat) : Int)), ("val", .bytes ((65 + k % 16).toUInt8 :: acc).toArray), ("AP", .bytes apLetters.toArray)] : Vars), Nat.div_lt_self (Nat.pos_of_ne_zero hk) (by decide), ⟨k / 16, _, g, rfl, ?_, ?_, ?_, rfl⟩, It3.sub' ⟨rfl, rfl, rfl, trivial⟩⟩
      · rw [Nat.div_lt_iff_lt_mul (by decide)]; rw [Nat.pow_succ] at hm; exact hm
      · simp; omega
      · rw [← hr, apF_step _ _ _ hk]
    · have hk : k = 0 := by simpa using hb
      subst hk
      rw [apF_zero] at hr
      subst hr
      refine x_return It (ev_name rfl) fun v s' I' i => ?_
      exact ⟨v, rfl, I'.kp rfl, i⟩


theorem scOk {c : Cx} {scope : Scope} (h1 : (scope.names.all fun p => !(p.2 == .free) || !(c.env.kindOf p.1 == some .local)) = true) (h2 : (scope.names.all fun p => !(p.2 == .free) || (c.env.cells.lookup p.1).isSome) = true)
    (h3 : (scope.names.all fun p => !(p.2 == .cell)) = true) (h4 : scope.kind = .function) (h5 : (scope.names.all fun p => !(p.2 == .local) || scope.names.lookup p.1 == some .local) = true) : ScOk c scope where
  nloc := h1
  clos := h2
  cell := fun y hy e => by have := List.all_eq_true.mp h3 y hy; rw [e] at this; exact absurd this (by decide)
  kind := h4
  names := fun x hx e => by
    have := List.all_eq_true.mp h5 x hx
    rw [e] at this
    simpa using this
theorem outs_map {f : Nat → D} : ∀ n, outs (fun i => [f i]) n = (List.range n).map f
  | 0 => rfl
  | n + 1 => by rw [outs_succ, outs_map, List.range_succ, List.map_append]; rfl
theorem outs_ints {f : Nat → Int} (n : Nat) : D.list (outs (fun i => [.int (f i)]) n) = .ints ((List.range n).map f) := by
  rw [outs_map, D.ints, List.map_map]; rfl
theorem outs_strs {f : Nat → Str} (n : Nat) : D.list (outs (fun i => [.str (f i)]) n) = .list (((List.range n).map f).map .str) := by
  rw [outs_map, List.map_map]; rfl
theorem getD_map {α : Type} (f : α → D) (l : List α) (x : α) (i : Nat) (h : i < l.length) : (l.map f).getD i .none = f (l.getD i x) := by
  simp [List.getD, h]
theorem range_getD {α : Type} (l : List α) (x : α) : (List.range l.length).map (fun i => l.getD i x) = l := by
  apply List.ext_getElem
  · simp
  · intro i h1 h2; simp [List.getD, h2]

theorem k_word (w : World) : (KF w).lookup 125 = some ⟨.type "function", none, .func (fdAt w 125), #[]⟩ := by kernel_rfl
noncomputable def wordOf (M : Nat) (ns : List Int) : List Int := (List.range (M + 1)).map fun (j : Nat) => if ns.any (· == ((M : Int) + (j : Int) * (-1))) then 66 else 65
theorem rs_down (M : Nat) : Builtin.Range.rangeSize (M : Int) (-1) (-1) = ((M + 1 : Nat) : Int) := by
  unfold Builtin.Range.rangeSize
  simp
  omega

theorem c_word (prog : Program) (w : World) (n : Nat) (ns : List Int) (M : Nat) (hM : M ≤ 1000) (hm : (M : Int) ∈ ns) (hmx : ∀ a ∈ ns, a ≤ (M : Int)) :
    FnK (KF w) prog w (n + 1) (.ref 125) [.ints ns] (.bytes (byteArr (wordOf M ns))) := by
  refine fn_of (ns := ["places"]) (body := bodyOf (fdAt w 125)) (k_word w) (by kernel_rfl) (by kernel_rfl) (by kernel_rfl) (by kernel_rfl) ?_ (by kernel_rfl) (by kernel_rfl) (by kernel_rfl) (by kernel_rfl) (by decide +kernel) (of_k (by kernel_rfl)) (by kernel_rfl) rfl ?_
  · intro vs hv
    obtain ⟨x, rfl⟩ := len1 hv
    kernel_rfl
  · intro A H s s1 I
    refine x_return I (d := .bytes (byteArr (wordOf M ns))) ?_ fun v s' I' i => ⟨v, rfl, I'.kp rfl, i⟩
    refine ev_call_type rfl (by kernel_rfl) (T := "bytes") (by decide +kernel) (by decide) (ds := [.ints (wordOf M ns)]) (.cons ?_ .nil) (fn_bytes ?_ ?_) (by simp) rfl
    · rw [wordOf, ← outs_ints]
      refine ev_comp (d := .range M (-1) (-1)) (n := M + 1) (it := fun j => .int ((M : Int) + (j : Int) * (-1))) ?_ (fun s v I i => itr_range I.amb.handled ?_ (rs_down M) i) (scOk (by kernel_rfl) (by kernel_rfl) (by kernel_rfl) (by kernel_rfl) (by kernel_rfl)) (run_1 (scOk (by kernel_rfl) (by kernel_rfl) (by kernel_rfl) (by kernel_rfl) (by kernel_rfl)) (by kernel_rfl) _ (by simp [sizeLine]; omega) ?_)
      · refine ev_call_type rfl (by kernel_rfl) (T := "range") (by decide +kernel) (by decide) (ds := [.int M, .int (-1), .int (-1)]) (.cons ?_ (.cons (ev_neg ev_int) (.cons (ev_neg ev_int) .nil))) (fn_range3 (by decide) (by decide)) (by simp) rfl
        refine ev_call_builtin rfl (by kernel_rfl) (id := "max") (by decide +kernel) (by decide) (ds := [.ints ns]) (.cons (ev_name rfl) .nil) (fn_max (List.length_pos_of_mem hm) hm hmx) (by simp) rfl
      · exact small_down (by omega) (by omega) (by omega) (by omega)
      · intro i I C Da s1 s2 hi
        refine ⟨true, tstl_nil, fun _ => ⟨_, ?_, rfl⟩, fun h => by cases h⟩
        refine ev_ifexp (tst_cmp op_in (ev_name rfl) (ev_name rfl)) (fun h => ?_) (fun h => ?_)
        · simp only [h, if_true]; exact ev_int
        · simp only [h]; exact ev_int
    · intro a ha
      obtain ⟨j, _, rfl⟩ := List.mem_map.mp ha
      split <;> decide
    · simp [wordOf, sizeLine]; omega


theorem k_name (w : World) : (KF w).lookup 135 = some ⟨.type "function", none, .func (fdAt w 135), #[]⟩ := by kernel_rfl
noncomputable def nameB (f p : Nat) : List UInt8 := apF f (16 + p) []
noncomputable def nameOf (f p : Nat) : Str := Txt.join (Str.ofString "") ((nameB f p).map fun b => (⟨#[b.toNat]⟩ : Str))

theorem c_name (prog : Program) (w : World) (n : Nat) (p : Nat) (f : Nat) (hf : 16 + p < 16 ^ f) (hz : f ≤ 1000) (hl : (nameB f p).length ≤ 1000) :
    FnK (KF w) prog w (n + 2) (.ref 135) [.int p] (.str (nameOf f p)) := by
  refine fn_of (ns := ["place"]) (body := bodyOf (fdAt w 135)) (k_name w) (by kernel_rfl) (by kernel_rfl) (by kernel_rfl) (by kernel_rfl) ?_ (by kernel_rfl) (by kernel_rfl) (by kernel_rfl) (by kernel_rfl) (by decide +kernel) (of_k (by kernel_rfl)) (by kernel_rfl) rfl ?_
  · intro vs hv
    obtain ⟨x, rfl⟩ := len1 hv
    kernel_rfl
  · intro A H s s1 I
    refine x_return I (d := .str (nameOf f p)) ?_ fun v s' I' i => ⟨v, rfl, I'.kp rfl, i⟩
    refine @ev_join1 _ _ (Str.ofString "") _ _ _ _ _ ((nameB f p).map fun b => (⟨#[b.toNat]⟩ : Str)) ?_ ?_ ?_ ?_ ?_
    rotate_left 2
    · rfl
    · rfl
    · kernel_rfl
    · have e : ((nameB f p).map fun b => (⟨#[b.toNat]⟩ : Str)).map D.str = outs (fun j => [.str ⟨#[((nameB f p).toArray.getD j 0).toNat]⟩]) (nameB f p).toArray.size := by
        rw [outs_map, List.map_map]
        apply List.ext_getElem
        · simp
        · intro i h1 h2
          simp at h2
          simp [h2]
      rw [e]
      refine ev_comp (d := .bytes (nameB f p).toArray) ?_ (fun s v I i => itr_bytes I.amb.handled i) (scOk (by kernel_rfl) (by kernel_rfl) (by kernel_rfl) (by kernel_rfl) (by kernel_rfl)) (run_1 (scOk (by kernel_rfl) (by kernel_rfl) (by kernel_rfl) (by kernel_rfl) (by kernel_rfl)) (by kernel_rfl) _ (by simp [sizeLine]; omega) ?_)
      · refine ev_call_def (f := 94) rfl (by kernel_rfl) (by kernel_rfl) (ds := [.int (16 + (p : Int))]) (.cons (ev_bin op_add ev_int (ev_name rfl)) .nil) ?_ (by simp) rfl
        have := c_int2ap prog w n (16 + (p : Int)) f (by omega) hz
        have e2 : ((16 : Int) + (p : Int)).natAbs = 16 + p := by omega
        rw [e2] at this
        exact this
      · intro i I C Da s1 s2 hi
        refine ⟨true, tstl_nil, fun _ => ⟨_, ?_, rfl⟩, fun h => by cases h⟩
        refine ev_call_builtin rfl (by kernel_rfl) (id := "chr") (by decide +kernel) (by decide) (ds := [.int (((nameB f p).toArray.getD i 0).toNat : Int)]) (.cons (ev_name rfl) .nil) (fn_chr (by omega) ?_) (by simp) rfl
        have := UInt8.toNat_lt ((nameB f p).toArray.getD i 0)
        omega
    · rw [List.length_map]
      have h0 : (Str.ofString "").length = 0 := by decide +kernel
      rw [h0, Nat.mul_zero, Nat.add_zero]
      have := len_one_sum ((nameB f p).map UInt8.toNat)
      have e3 : (nameB f p).map (fun b : UInt8 => (⟨#[b.toNat]⟩ : Str)) = ((nameB f p).map UInt8.toNat).map (fun n => (⟨#[n]⟩ : Str)) := by rw [List.map_map]; rfl
      rw [e3, this, List.length_map]; omega


-- what _law_bare computes
noncomputable def tallI (rs : List Int) (c : Int) : Int := ((rs.filter fun r => decide (c < r)).length : Nat)
noncomputable def nAt (rs : List Int) (i : Nat) : Nat := (rs.getD i 0).toNat
noncomputable def hookT (rs : List Int) (size : Int) (i j : Nat) : Bool := rs.getD i 0 - (j : Int) + tallI rs j - (i : Int) - 1 == size
noncomputable def foundOf (rs : List Int) (size : Int) : List (Int × Int) := (List.range 5).flatMap fun i => (List.range (nAt rs i)).flatMap fun j => if hookT rs size i j then [((i : Int), (j : Int))] else []
noncomputable def stepOf (rs : List Int) (p : Int × Int) : List Int :=
  rs.take p.1.toNat ++ ((rs.drop (p.1 + 1).toNat).take (min (tallI rs p.2 - 1 + 1).toNat rs.length - (p.1 + 1).toNat)).map (· - 1) ++ [p.2] ++ rs.drop (tallI rs p.2 - 1 + 1).toNat
noncomputable def pickOf (rs : List Int) (size : Int) (turns : List Int) (taken : Int) : Int × Int :=
  (foundOf rs size).getD ((turns.getD (taken.fmod turns.length).toNat 0).fmod (foundOf rs size).length).toNat (0, 0)
noncomputable def bareF (size : Int) (turns : List Int) : Nat → List Int → Int → Int → Option (List Int × Int × Int)
  | 0, _, _, _ => none
  | f + 1, rs, taken, legs => if (foundOf rs size).isEmpty then some (rs, taken, legs) else
      bareF size turns f (stepOf rs (pickOf rs size turns taken)) (taken + 1) (legs + (tallI rs (pickOf rs size turns taken).2 - 1 - (pickOf rs size turns taken).1))

/-- five rows, none longer than the first -/
noncomputable def Good (rs : List Int) : Prop := rs.length = 5 ∧ ∀ i, i < 5 → 0 ≤ rs.getD i 0 ∧ rs.getD i 0 ≤ rs.getD 0 0 ∧ rs.getD i 0 ≤ 1000

noncomputable abbrev pairD (p : Int × Int) : D := .tup [.int p.1, .int p.2]
theorem found_map (rs : List Int) (size : Int) : outs (fun i => outs (fun j => if hookT rs size i j then [D.tup [.int (i : Int), .int (j : Int)]] else []) (nAt rs i)) 5 = (foundOf rs size).map pairD := by
  unfold outs foundOf
  rw [List.map_flatMap]
  congr 1
  funext i
  rw [List.map_flatMap]
  congr 1
  funext j
  split <;> rfl
theorem tall_outs (rs : List Int) (n : Nat) : outs (fun j => [D.int (tallI rs j)]) n = ((List.range n).map fun j : Nat => tallI rs j).map .int := by
  rw [outs_map, List.map_map]; rfl
theorem filter_outs (rs : List Int) (c : Int) : outs (fun k => if decide (c < rs.getD k 0) then [D.int (rs.getD k 0)] else []) rs.length = (rs.filter fun r => decide (c < r)).map .int := by
  have key : ∀ l : List Int, outs (fun k => if decide (c < l.getD k 0) then [D.int (l.getD k 0)] else []) l.length = l.flatMap fun r => if decide (c < r) then [D.int r] else [] := by
    intro l
    unfold outs
    conv => rhs; rw [← range_getD l 0, List.flatMap_map]
  rw [key]
  induction rs with
  | nil => rfl
  | cons r rs ih =>
    rw [List.flatMap_cons, ih, List.filter_cons]
    split <;> simp
theorem mem_found {rs : List Int} {size : Int} {p : Int × Int} (h : p ∈ foundOf rs size) : ∃ i j : Nat, p = ((i : Int), (j : Int)) ∧ i < 5 ∧ j < nAt rs i ∧ hookT rs size i j = true := by
  unfold foundOf at h
  obtain ⟨i, hi, h⟩ := List.mem_flatMap.mp h
  obtain ⟨j, hj, h⟩ := List.mem_flatMap.mp h
  by_cases e : hookT rs size i j = true
  · rw [if_pos e] at h
    exact ⟨i, j, List.mem_singleton.mp h, List.mem_range.mp hi, List.mem_range.mp hj, e⟩
  · rw [if_neg e] at h; cases h
theorem getD_mem' {α : Type} {l : List α} {i : Nat} {x : α} (h : i < l.length) : l.getD i x ∈ l := by
  simp [List.getD, h]
theorem fmod_idx {a : Int} {n : Nat} (h : 0 < n) : 0 ≤ a.fmod n ∧ a.fmod n < n := ⟨Int.fmod_nonneg_of_pos _ (by omega), Int.fmod_lt_of_pos _ (by omega)⟩
theorem pick_mem {rs : List Int} {size : Int} (turns : List Int) (taken : Int) (h : (foundOf rs size).isEmpty = false) : pickOf rs size turns taken ∈ foundOf rs size := by
  have hn : 0 < (foundOf rs size).length := by
    cases e : foundOf rs size with
    | nil => rw [e] at h; cases h
    | cons _ _ => simp
  obtain ⟨h1, h2⟩ := fmod_idx (a := turns.getD (taken.fmod turns.length).toNat 0) hn
  exact getD_mem' (by omega)
theorem tall_le (rs : List Int) (c : Int) : 0 ≤ tallI rs c ∧ tallI rs c ≤ rs.length := by
  unfold tallI
  have := List.length_filter_le (fun r => decide (c < r)) rs
  omega
theorem good_at {rs : List Int} (h : Good rs) (i : Nat) (hi : i < 5) : nAt rs i ≤ nAt rs 0 ∧ nAt rs i ≤ 1000 := by
  have := h.2 i hi
  unfold nAt
  omega
theorem found_len {rs : List Int} {size : Int} (h : Good rs) : (foundOf rs size).length ≤ 5 * 1000 := by
  have e : (foundOf rs size).length = ((foundOf rs size).map pairD).length := by rw [List.length_map]
  rw [e, ← found_map]
  refine outs_len _ 1000 5 fun i hi => ?_
  refine Nat.le_trans (outs_len _ 1 (nAt rs i) fun j hj => ?_) ?_
  · split <;> simp
  · have := (good_at h i hi).2; omega

theorem k_bare (w : World) : (KF w).lookup 113 = some ⟨.type "function", none, .func (fdAt w 113), #[]⟩ := by kernel_rfl

theorem tst_len {c : Cx} : True := trivial


theorem Itr.congr {c : Cx} {s : Shared} {v : Value} {n : Nat} {it it' : Nat → D} (h : Itr c s v n it) (e : ∀ i, i < n → it i = it' i) : Itr c s v n it' := fun Q E k =>
  h Q E fun I s' f hn ho S => k I s' f hn ho (S.casesOn fun fp P St W hob hP hst hfp hal => ⟨fp, P, St, W, hob, fun i v hi hv => e i hi ▸ hP i v hi hv, hst, hfp, hal⟩)
theorem itr_ints {c : Cx} {s : Shared} {ns : List Int} {v : Value} (hA : c.A.handled = none) (i : Is (hideAll s.heap c.H) (.ints ns) v) : Itr c s v ns.length (fun j => .int (ns.getD j 0)) := by
  have := itr_list (c := c) (s := s) hA i
  rw [List.length_map] at this
  exact this.congr fun j hj => getD_map _ _ _ _ hj
theorem sto_cell {c : Cx} {x : Str} (hk : c.env.kindOf x = some .cell) (hl : (c.env.cells.lookup x).isSome = true) (hs : ∀ p ∈ c.env.cells, p.2 ∈ c.m) : Sto c x := by
  obtain ⟨a, ha⟩ := Option.isSome_iff_exists.mp hl
  exact .inr ⟨hk, a, ha, hs _ (mem_of_lookup ha)⟩
theorem outs_f (f : Int → Int) (P : List Int) : outs (fun k => [D.int (f (P.getD k 0))]) P.length = (P.map f).map .int := by
  conv => rhs; rw [← range_getD P 0]
  rw [outs_map, List.map_map, List.map_map]
  rfl
theorem ev_ints {c : Cx} {σ : Vars} {e : Expr} {ns : List Int} {ds : List D} (h : Ev c σ e (.list ds)) (q : ds = ns.map .int) : Ev c σ e (.ints ns) := by subst q; exact h
theorem getD_map2 {α β : Type} (f : α → β) (l : List α) (x : α) (i : Nat) : (l.map f).getD i (f x) = f (l.getD i x) := by
  simp only [List.getD, List.getElem?_map]
  cases l[i]? <;> rfl
theorem ev_slice_ints {c : Cx} {σ : Vars} {x : Str} {p sp pos : Pos} {lo hi st : Option Expr} {a b k : Option Int} {ns : List Int} (h : Ev c σ (.Name x p) (.ints ns)) (h1 : EvO c σ lo a) (h2 : EvO c σ hi b) (h3 : EvO c σ st k) (h0 : k ≠ some 0) (hz : ns.length ≤ sizeLine) :
    Ev c σ (.Subscript (.Name x p) (.Slice lo hi st sp) pos) (.ints (pickD ns a b k)) := ev_ints (ev_slice h h1 h2 h3 h0 (by rw [List.length_map]; exact hz)) (pickD_map _ _ _ _ _)
theorem op_addi {c : Cx} {xs ys : List Int} (h : xs.length + ys.length ≤ sizeLine) : Op2 c (binaryOp .Add) (.ints xs) (.ints ys) (.ints (xs ++ ys)) := by
  have := op_addl (c := c) (xs := xs.map .int) (ys := ys.map .int) (by simp; exact h)
  show Op2 c _ _ _ (D.list ((xs ++ ys).map .int))
  rw [List.map_append]; exact this
theorem ev_d {c : Cx} {σ : Vars} {e : Expr} {d d' : D} (h : Ev c σ e d) (q : d = d') : Ev c σ e d' := q ▸ h

set_option maxHeartbeats 4000000 in
theorem c_bare (prog : Program) (w : World) (n : Nat) (rs₀ : List Int) (size : Int) (turns : List Int) (G : List Int → Prop) (g0 : G rs₀) (gg : ∀ rs, G rs → Good rs)
    (gs : ∀ rs p, G rs → p ∈ foundOf rs size → G (stepOf rs p)) (ht : 0 < turns.length) (ht' : turns.length ≤ 1000) (f : Nat) (out : List Int × Int × Int) (hrun : bareF size turns f rs₀ 0 0 = some out) :
    FnK (KF w) prog w (n + 1) (.ref 113) [.ints rs₀, .int size, .ints turns] (.tup [.ints out.1, .int out.2.1, .int out.2.2]) := by
  refine fn_of (ns := ["rows", "size", "turns"]) (body := bodyOf (fdAt w 113)) (k_bare w) (by kernel_rfl) (by kernel_rfl) (by kernel_rfl) (by kernel_rfl) ?_ (by kernel_rfl) (by kernel_rfl) (by kernel_rfl) (by kernel_rfl) (by decide +kernel) (of_k (by kernel_rfl)) (by kernel_rfl) rfl ?_
  · intro vs hv
    obtain ⟨x, y, z, rfl⟩ := len3 hv
    kernel_rfl
  · intro A H s s1 I
    have hcm : ∀ p ∈ (cxOf true (KF w) prog w n A H (fdAt w 113) 113 s).env.cells, p.2 ∈ (cxOf true (KF w) prog w n A H (fdAt w 113) 113 s).m := fun p hp => List.mem_cons_of_mem _ (List.mem_map_of_mem hp)
    refine x_assign I (d := .int 0) ev_int (.inl rfl) fun s2 I2 => ?_
    refine x_assign I2 (d := .int 0) ev_int (.inl rfl) fun s3 I3 => ?_
    have I4 := I3.sub' (σ' := ([("rows", .ints rs₀), ("size", .int size), ("turns", .ints turns), ("taken", .int 0), ("legs", .int 0)] : Vars)) ⟨rfl, rfl, rfl, rfl, rfl, trivial⟩
    refine x_while I4 (fun k σ => ∃ (rs : List Int) (taken legs : Int), G rs ∧ bareF size turns k rs taken legs = some out ∧
      σ = ([("rows", .ints rs), ("size", .int size), ("turns", .ints turns), ("taken", .int taken), ("legs", .int legs)] : Vars)) ⟨rs₀, 0, 0, g0, hrun, rfl⟩ ?_
    rintro k σ ⟨rs, taken, legs, hG, hb, rfl⟩
    refine ⟨true, tst_true, fun _ t It => ?_, fun h => by cases h⟩
    have hgd := gg rs hG
    obtain ⟨hlen, hgood⟩ := hgd
    have h00 := hgood 0 (by decide)
    obtain ⟨k, rfl⟩ : ∃ j, k = j + 1 := by
      cases k with
      | zero => cases hb
      | succ j => exact ⟨j, rfl⟩
    -- tall
    have n0 : ((nAt rs 0 : Nat) : Int) = rs.getD 0 0 := by unfold nAt; omega
    refine x_assign It (d := .ints ((List.range (nAt rs 0)).map fun j : Nat => tallI rs j)) ?_ (sto_cell rfl rfl hcm) fun t2 It2 => ?_
    · refine ev_ints (ds := outs (fun j => [D.int (tallI rs j)]) (nAt rs 0)) ?_ (tall_outs rs _)
      refine ev_comp1 (x := "column") (d := .range 0 (rs.getD 0 0) 1) (n := nAt rs 0) (it := fun j => .int (j : Int)) ?_ (fun s v I i => itr_range1 I.amb.handled (by omega) rfl (by omega) i) (scOk1 (by kernel_rfl) (by kernel_rfl) (fun _ _ => by rfl) (fun _ => by rfl) (by kernel_rfl) (by kernel_rfl) (by kernel_rfl)) _ (by have := (good_at ⟨hlen, hgood⟩ 0 (by decide)).2; simp [sizeLine]; omega) ?_
      · refine ev_call_type rfl (by kernel_rfl) (T := "range") (by decide +kernel) (by decide) (ds := [.int (rs.getD 0 0)]) (.cons ?_ .nil) fn_range1 (by simp) rfl
        exact ev_item (ev_name rfl) ev_int (by decide) (ints_get (by decide) (by omega)) (by decide) (fun _ _ => rfl)
      · intro i I C a Da s1 s2 hi
        refine ev_d ?_ (show D.int ((outs (fun k => if decide ((i : Int) < rs.getD k 0) then [D.int (rs.getD k 0)] else []) rs.length).length : Nat) = D.int (tallI rs i) by rw [filter_outs, List.length_map]; rfl)
        refine ev_call_builtin rfl (by kernel_rfl) (id := "len") (by decide +kernel) (by decide) (.cons ?_ .nil) (fn_len (ds := outs (fun k => if decide ((i : Int) < rs.getD k 0) then [D.int (rs.getD k 0)] else []) rs.length) ?_) (by simp) rfl
        · refine ev_comp (d := .ints rs) (n := rs.length) (it := fun j => .int (rs.getD j 0)) (ev_name rfl) (fun s v I i => itr_ints I.amb.handled i) (scOk (by kernel_rfl) (by kernel_rfl) (by kernel_rfl) (by kernel_rfl) (by kernel_rfl)) (run_1 (scOk (by kernel_rfl) (by kernel_rfl) (by kernel_rfl) (by kernel_rfl) (by kernel_rfl)) (by kernel_rfl) _ (by simp [sizeLine]; omega) ?_)
          intro j I2 C2 Da2 u1 u2 hj
          refine ⟨decide ((i : Int) < rs.getD j 0), tstl_one (tst_cmp op_gt (ev_name rfl) (ev_name rfl)), fun h => ⟨.int (rs.getD j 0), ev_name rfl, by simp only [h, if_true]⟩, fun h => by simp only [h, Bool.false_eq_true, if_false]⟩
        · rw [filter_outs, List.length_map]
          have := List.length_filter_le (fun r => decide ((i : Int) < r)) rs
          simp [sizeLine]; omega
    -- found
    have hex : ∀ i, i < 5 → 0 ≤ rs.getD i 0 ∧ rs.getD i 0 ≤ 1000 ∧ nAt rs i ≤ nAt rs 0 ∧ ((nAt rs i : Nat) : Int) = rs.getD i 0 := fun i hi => by
      have := hgood i hi
      unfold nAt; omega
    refine x_assign_comp (ds := (foundOf rs size).map pairD) It2 (d := .range 0 5 1) (n := 5) (it := fun j => .int (j : Int)) ?_ (fun s v I i => itr_range1 I.amb.handled (by decide) (by decide) (by decide) i) (scOk (by kernel_rfl) (by kernel_rfl) (by kernel_rfl) (by kernel_rfl) (by kernel_rfl)) ?_ rfl ?_ rfl
    · exact ev_call_type rfl (by kernel_rfl) (T := "range") (by decide +kernel) (by decide) (ds := [.int 5]) (.cons ev_int .nil) fn_range1 (by simp) rfl
    · rw [← found_map]
      refine run_2 (n2 := nAt rs) (it2 := fun _ j => .int (j : Int)) (d2 := fun i => .range 0 (rs.getD i 0) 1) (scOk (by kernel_rfl) (by kernel_rfl) (by kernel_rfl) (by kernel_rfl) (by kernel_rfl)) (by kernel_rfl) (by kernel_rfl) (by decide) (fun i j => if hookT rs size i j then [D.tup [.int (i : Int), .int (j : Int)]] else []) 1000 (by decide) (fun i hi => by have := hex i hi; omega) ?_ ?_ (fun _ _ => rfl) ?_
      · intro i I C Da s1 s2 hi
        refine ev_call_type rfl (by kernel_rfl) (T := "range") (by decide +kernel) (by decide) (ds := [.int (rs.getD i 0)]) (.cons ?_ .nil) fn_range1 (by simp) rfl
        exact ev_item (k := (i : Int)) (ev_name rfl) (ev_name rfl) (by omega) (by have := ints_get (ns := rs) (k := (i : Int)) (by omega) (by omega); simpa using this) (by omega) (fun _ _ => rfl)
      · intro i I C Da s1 s2 s v hi I i
        have := hex _ hi
        exact itr_range1 I.amb.handled (by omega) (by omega) (by omega) i
      · intro i j I C Da s1 s2 I2 s3 hi hj
        have := hex _ hi
        have hjt : j < nAt rs 0 := by omega
        refine ⟨hookT rs size i j, tstl_one (tst_cmp op_eq (a := .int (rs.getD i 0 - (j : Int) + tallI rs j - (i : Int) - 1)) ?_ (ev_name rfl)), fun h => ⟨.tup [.int (i : Int), .int (j : Int)], ?_, by simp only [h, if_true]⟩, fun h => by simp only [h, Bool.false_eq_true, if_false]⟩
        · refine ev_bin op_sub (ev_bin op_sub (ev_bin op_add (ev_bin op_sub ?_ (ev_name rfl)) ?_) (ev_name rfl)) ev_int
          · exact ev_item (k := (i : Int)) (ev_name rfl) (ev_name rfl) (by omega) (by have := ints_get (ns := rs) (k := (i : Int)) (by omega) (by omega); simpa using this) (by omega) (fun _ _ => rfl)
          · exact ev_item (k := (j : Int)) (ev_name rfl) (ev_name rfl) (by omega) (by
              have := ints_get (ns := (List.range (nAt rs 0)).map fun j : Nat => tallI rs j) (k := (j : Int)) (by omega) (by simp; omega)
              rw [this]; simp [List.getD, hjt]) (by omega) (fun _ _ => rfl)
        · exact ev_tuple (ds := [.int (i : Int), .int (j : Int)]) (.cons (ev_name rfl) (.cons (ev_name rfl) .nil)) rfl (by simp [sizeLine])
    intro t3 It3
    refine x_if It3 (b := (foundOf rs size).isEmpty) ?_ (fun h t4 It4 => ?_) (fun h t4 It4 => wpAny_execs_nil ?_)
    · refine tst_cmp (a := .list ((foundOf rs size).map pairD)) (b := .list []) ?_ (ev_name rfl) (ev_list .nil rfl (by decide))
      have := op_eqnil (c := cxOf true (KF w) prog w n A H (fdAt w 113) 113 s) (xs := (foundOf rs size).map pairD)
      rw [List.isEmpty_map] at this
      exact this
    · rw [bareF, if_pos h] at hb
      obtain rfl := Option.some.inj hb
      refine x_return It4 (ev_tuple (ds := [.ints rs, .int taken, .int legs]) (.cons (ev_name rfl) (.cons (ev_name rfl) (.cons (ev_name rfl) .nil))) rfl (by simp [sizeLine])) fun v s' I' i => ?_
      exact ⟨v, rfl, I'.kp rfl, i⟩
    rw [bareF, if_neg (by rw [h]; decide)] at hb
    have hp := pick_mem turns taken h
    have hfl := found_len (size := size) ⟨hlen, hgood⟩
    have hfn : 0 < (foundOf rs size).length := List.length_pos_of_mem hp
    obtain ⟨i, j, hpe, hi, hj, hhk⟩ := mem_found hp
    obtain ⟨x1, x2⟩ := fmod_idx (a := taken) ht
    obtain ⟨y1, y2⟩ := fmod_idx (a := turns.getD (taken.fmod turns.length).toNat 0) hfn
    have hexi := hex i hi
    have htl := tall_le rs (j : Int)
    refine x_unpack2 It4 (d1 := .int (i : Int)) (d2 := .int (j : Int)) ?_ (.inl rfl) (.inl rfl) fun t5 It5 => ?_
    · refine ev_item (k := (turns.getD (taken.fmod turns.length).toNat 0).fmod (foundOf rs size).length) (ds := (foundOf rs size).map pairD) (ev_name rfl) ?_ y1 ?_ (by omega) (fun _ _ => rfl)
      · refine ev_bin (op_mod (by omega)) ?_ ?_
        · refine ev_item (k := taken.fmod turns.length) (ds := turns.map .int) (ev_name rfl) ?_ x1 (ints_get x1 x2) (by omega) (fun _ _ => rfl)
          refine ev_bin (op_mod (by omega)) (ev_name rfl) ?_
          refine ev_d ?_ (show D.int ((turns.map D.int).length : Nat) = D.int turns.length by rw [List.length_map])
          exact ev_call_builtin rfl (by kernel_rfl) (id := "len") (by decide +kernel) (by decide) (.cons (ev_name rfl) .nil) (fn_len (ds := turns.map .int) (by simp [sizeLine]; omega)) (by simp) rfl
        · refine ev_d ?_ (show D.int (((foundOf rs size).map pairD).length : Nat) = D.int (foundOf rs size).length by rw [List.length_map])
          exact ev_call_builtin rfl (by kernel_rfl) (id := "len") (by decide +kernel) (by decide) (.cons (ev_name rfl) .nil) (fn_len (ds := (foundOf rs size).map pairD) (by rw [List.length_map]; simp [sizeLine]; omega)) (by simp) rfl
      · rw [get_of_lt (x := pairD (0, 0)) y1 (by rw [List.length_map]; exact y2)]
        have : ((foundOf rs size).map pairD).getD ((turns.getD (taken.fmod turns.length).toNat 0).fmod (foundOf rs size).length).toNat (pairD (0, 0)) = pairD (pickOf rs size turns taken) := by
          rw [pickOf, getD_map2]
        rw [this, hpe]
    refine x_assign It5 (d := .int (tallI rs (j : Int) - 1)) ?_ (.inl rfl) fun t6 It6 => ?_
    · refine ev_bin op_sub ?_ ev_int
      exact ev_item (k := (j : Int)) (ev_name rfl) (ev_name rfl) (by omega) (by
              have := ints_get (ns := (List.range (nAt rs 0)).map fun j : Nat => tallI rs j) (k := (j : Int)) (by omega) (by simp; omega)
              rw [this]; simp [List.getD, show j < nAt rs 0 by omega]) (by omega) (fun _ _ => rfl)
    have hstep : stepOf rs (pickOf rs size turns taken) = pickD rs none (some (i : Int)) none ++ (pickD rs (some ((i : Int) + 1)) (some (tallI rs (j : Int) - 1 + 1)) none).map (· - 1) ++ [(j : Int)] ++ pickD rs (some (tallI rs (j : Int) - 1 + 1)) none none := by
      rw [pickD_upto _ (by omega), pickD_run _ (by omega) (by omega), pickD_from _ (by omega), hpe]; rfl
    have l1 := pickD_len rs none (some (i : Int)) none
    have l2 := pickD_len rs (some ((i : Int) + 1)) (some (tallI rs (j : Int) - 1 + 1)) none
    have l3 := pickD_len rs (some (tallI rs (j : Int) - 1 + 1)) none none
    refine x_assign It6 (d := .ints (stepOf rs (pickOf rs size turns taken))) ?_ (sto_cell rfl rfl hcm) fun t7 It7 => ?_
    · rw [hstep]
      have lm : ((pickD rs (some ((i : Int) + 1)) (some (tallI rs (j : Int) - 1 + 1)) none).map (· - 1)).length ≤ 5 := by rw [List.length_map]; omega
      refine ev_bin (op_addi ?_) (ev_bin (op_addi ?_) (ev_bin (op_addi ?_) (ev_slice_ints (ev_name rfl) .none (.some (ev_name rfl)) .none (by decide) ?_) ?_) ?_) (ev_slice_ints (ev_name rfl) (.some (ev_bin op_add (ev_name rfl) ev_int)) .none .none (by decide) ?_)
      · simp only [List.length_append, List.length_cons, List.length_nil, sizeLine]; omega
      · simp only [List.length_append, List.length_cons, List.length_nil, sizeLine]; omega
      · simp only [List.length_append, List.length_cons, List.length_nil, sizeLine]; omega
      · simp only [sizeLine]; omega
      · refine ev_ints ?_ (outs_f (· - 1) (pickD rs (some ((i : Int) + 1)) (some (tallI rs (j : Int) - 1 + 1)) none))
        refine ev_comp (n := (pickD rs (some ((i : Int) + 1)) (some (tallI rs (j : Int) - 1 + 1)) none).length) (d := .ints (pickD rs (some ((i : Int) + 1)) (some (tallI rs (j : Int) - 1 + 1)) none)) (ev_slice_ints (ev_name rfl) (.some (ev_bin op_add (ev_name rfl) ev_int)) (.some (ev_bin op_add (ev_name rfl) ev_int)) .none (by decide) ?_) (fun s v I i => itr_ints I.amb.handled i) (scOk (by kernel_rfl) (by kernel_rfl) (by kernel_rfl) (by kernel_rfl) (by kernel_rfl)) (run_1 (scOk (by kernel_rfl) (by kernel_rfl) (by kernel_rfl) (by kernel_rfl) (by kernel_rfl)) (by kernel_rfl) _ ?_ ?_)
        · simp only [sizeLine]; omega
        · simp only [sizeLine]; omega
        · intro q I C Da s1 s2 hq
          exact ⟨true, tstl_nil, fun _ => ⟨_, ev_bin op_sub (ev_name rfl) ev_int, rfl⟩, fun h => by cases h⟩
      · exact ev_list (.cons (ev_name rfl) .nil) rfl (by simp [sizeLine])
      · simp only [sizeLine]; omega
    refine x_aug It7 (d := .int (taken + 1)) (ev_name rfl) ev_int op_iadd (.inl rfl) rfl fun t8 It8 => ?_
    refine x_aug It8 (d := .int (legs + (tallI rs (j : Int) - 1 - (i : Int)))) (ev_name rfl) (ev_bin op_sub (ev_name rfl) (ev_name rfl)) op_iadd (.inl rfl) rfl fun t9 It9 => ?_
    refine wpAny_execs_nil ⟨k, ([("rows", .ints (stepOf rs (pickOf rs size turns taken))), ("size", .int size), ("turns", .ints turns), ("taken", .int (taken + 1)), ("legs", .int (legs + (tallI rs (j : Int) - 1 - (i : Int))))] : Vars), Nat.lt_succ_self _, ⟨_, _, _, gs rs _ hG hp, ?_, rfl⟩, It9.sub' ⟨rfl, rfl, rfl, rfl, rfl, trivial⟩⟩
    rw [hpe] at hb ⊢
    exact hb


theorem kc_makes (w : World) : makesIn (KF w) 83 = true := by kernel_rfl
theorem kc_init (w : World) : findIn (KF w) (.ref 83) "__init__" = some (some (.ref 38)) := by kernel_rfl
theorem kc_fn38 (w : World) : typeIn (KF w) (.ref 38) = some (.type "function") := by kernel_rfl
theorem kc_fn52 (w : World) : typeIn (KF w) (.ref 52) = some (.type "function") := by kernel_rfl
theorem kc_get (w : World) (name : Str) : plainGet (KF w) 83 name = true := by kernel_rfl
theorem kc_over (w : World) : plainOver (KF w) 83 = true := by kernel_rfl
theorem kc_set (w : World) : findIn (KF w) (.ref 83) "__setattr__" = some (some (.builtin "object.__setattr__")) := by kernel_rfl
theorem kc_dict (w : World) : hasDictIn (KF w) 83 = true := by kernel_rfl
theorem kc_raw (w : World) : takerIn (KF w) 83 "raw" = some none := by kernel_rfl
theorem kc_n (w : World) : takerIn (KF w) 83 "n" = some none := by kernel_rfl
theorem kc_nt (w : World) : takerIn (KF w) 83 "nt" = some none := by kernel_rfl
theorem kc_norm (w : World) : takerIn (KF w) 83 "norm" = some none := by kernel_rfl
theorem kc_simple (w : World) : takerIn (KF w) 83 "is_simple" = some none := by kernel_rfl
theorem kc_fraw (w : World) : findIn (KF w) (.ref 83) "raw" = some none := by kernel_rfl
theorem kc_fnt (w : World) : findIn (KF w) (.ref 83) "nt" = some none := by kernel_rfl
theorem kc_fnorm (w : World) : findIn (KF w) (.ref 83) "norm" = some none := by kernel_rfl
theorem kc_findent (w : World) : findIn (KF w) (.ref 83) "indent_level" = some (some (.ref 52)) := by kernel_rfl
theorem kc_reads (w : World) : readsIn (KF w) 83 (.type "type") = true := by kernel_rfl
noncomputable def tokOf (r : Option CFound) : Tok := match r with
  | some (.val (.str _ t)) => t
  | _ => 0
theorem kc_S (w : World) : findCls (KF w) (.ref 83) (.type "type") "S" = some (.val (.str " " (tokOf (findCls (KF w) (.ref 83) (.type "type") "S")))) := by kernel_rfl
theorem kc_T (w : World) : findCls (KF w) (.ref 83) (.type "type") "T" = some (.val (.str "\t" (tokOf (findCls (KF w) (.ref 83) (.type "type") "T")))) := by kernel_rfl
theorem k_init (w : World) : (KF w).lookup 38 = some ⟨.type "function", none, .func (fdAt w 38), #[]⟩ := by kernel_rfl
theorem k_indent (w : World) : (KF w).lookup 52 = some ⟨.type "function", none, .func (fdAt w 52), #[]⟩ := by kernel_rfl
theorem k_lead (w : World) : (KF w).lookup 130 = some ⟨.type "function", none, .func (fdAt w 130), #[]⟩ := by kernel_rfl

/-- a Whitespace: its count, what trails, its tabs -/
noncomputable def WsP (count : List Int) (b nt : Int) (h : Heap) (v : Value) : Prop := ∃ x dx es n nv t, v = .ref x ∧ h.get? x = some (instObj 83 dx) ∧ h.get? dx = some (dictOf es n) ∧
  getL "norm" es = some (some nv) ∧ getL "nt" es = some (some (.int nt t)) ∧ getL "indent_level" es = some none ∧ Is h (.tup [.tup (count.map .int), .int b]) nv
noncomputable abbrev D.ws (count : List Int) (b nt : Int) : D := .pred (WsP count b nt)
theorem Is.ws_inv {h : Heap} {count : List Int} {b nt : Int} {v : Value} (i : Is h (.ws count b nt) v) : WsP count b nt h v := by
  cases i with
  | pred hp => exact hp h fun _ _ e => e

section
variable {c : Cx} {σ : Vars}
theorem ev_norm {x : Str} {p pos : Pos} {count : List Int} {b nt : Int} (w : World) (hK : c.K = KF w) (h : Ev c σ (.Name x p) (.ws count b nt)) : Ev c σ (.Attribute (.Name x p) "norm" pos) (.tup [.tup (count.map .int), .int b]) := fun s I Q E q => by
  refine Attribute_Name_ (h s I _ _ fun v s1 f1 i1 => ?_)
  obtain ⟨x, dx, es, n, nv, t, rfl, hx, hd, h1, h2, h3, i⟩ := i1.ws_inv
  have X : (KF w).In s1.heap := hK ▸ (I.to f1).ground.K
  refine get_inst X (hid_of _ _ hx) (hid_of _ _ hd) (kc_get w _) (kc_dict w) (kc_fnorm w) rfl h1 ?_ (q _ _ (f1.trans (Kp.tok s1 _)) i)
  obtain ⟨l, vs, rfl, _⟩ := i.tup_inv
  rfl
theorem ev_nt {x : Str} {p pos : Pos} {count : List Int} {b nt : Int} (w : World) (hK : c.K = KF w) (h : Ev c σ (.Name x p) (.ws count b nt)) : Ev c σ (.Attribute (.Name x p) "nt" pos) (.int nt) := fun s I Q E q => by
  refine Attribute_Name_ (h s I _ _ fun v s1 f1 i1 => ?_)
  obtain ⟨x, dx, es, n, nv, t, rfl, hx, hd, h1, h2, h3, i⟩ := i1.ws_inv
  have X : (KF w).In s1.heap := hK ▸ (I.to f1).ground.K
  exact get_inst X (hid_of _ _ hx) (hid_of _ _ hd) (kc_get w _) (kc_dict w) (kc_fnt w) rfl h2 rfl (q _ _ (f1.trans (Kp.tok s1 _)) (.int _ _))

theorem ev_indent {x : Str} {p ap pos : Pos} {e : Expr} {count : List Int} {b nt : Int} {tab r : Int} (w : World) (hK : c.K = KF w) (h : Ev c σ (.Name x p) (.ws count b nt)) (he : Ev c σ e (.int tab))
    (hc : FnK c.K c.prog c.w c.n (.ref 52) [.ws count b nt, .int tab] (.int r)) (hs : backTo pos (starEach [e] c.env) = [(false, eval e c.env)]) (pl : Sem Bool)
    (hev : eval (.Call (.Attribute (.Name x p) "indent_level" ap) [e] [] pos) c.env = (do
      let ov ← eval (.Name x p) c.env
      standAt ap.atName
      let (f, first) ← holding [ov] (getMethod ov "indent_level" pl)
      callWith pos f first (backTo pos (starEach [e] c.env)) (backToKw pos (keywordEach [] c.env)))) :
    Ev c σ (.Call (.Attribute (.Name x p) "indent_level" ap) [e] [] pos) (.int r) := fun s I Q E q => by
  refine methodCall_KW (pl := pl) (h s I _ _ fun v s1 f1 i1 => ?_) hev
  obtain ⟨x, dx, es, n, nv, t, rfl, hx, hd, h1, h2, h3, i⟩ := i1.ws_inv
  have X : (KF w).In s1.heap := hK ▸ (I.to f1).ground.K
  refine method_fn X (inst_at (hid_of _ _ hx) (hid_of _ _ hd)) (plainGet_of (kc_get w "x")).1 (plainGet_of (kc_get w "x")).2 (kc_findent w) (kc_fn52 w) (by show (lookIn _ (dictOf es n)).map _ = _; rw [lookIn_dict, h3]; rfl) ?_
  rw [hs]
  refine callWith_of (P := (KF w).In) rfl (keeps_K (K := KF w) (by kernel_rfl)) (Calls.evalArgs_plain (Calls.spliced_cons (he s1 (I.to f1) _ _ fun u s2 f2 i2 => Calls.spliced_nil ⟨hK ▸ ((I.to f1).to f2).ground.K, ?_⟩)))
  have I2 := (I.to f1).to f2
  exact hc c.A c.H s2 _ _ _ I2.amb I2.alive I2.ground (.cons (i1.ext (hid_ext f2.ext)) (.cons i2 .nil)) fun z s3 f3 i3 => q z s3 ((f1.trans f2).trans f3) i3
end

/-- the level, as the text computes it -/
noncomputable def ilG (count : List Int) (tab : Int) : Nat → Int
  | 0 => 0
  | i + 1 => ilG count tab i + (tab + (i : Int)).fdiv tab * count.getD (tab + (i : Int)).toNat 0
noncomputable def indentOf (count : List Int) (b nt tab : Int) : Int := b + tab * (ilG count tab ((count.length : Int) - tab).toNat + nt)

set_option maxHeartbeats 4000000 in
theorem c_indent (prog : Program) (w : World) (n : Nat) (count : List Int) (b nt tab : Int) (h0 : 1 ≤ tab) (h1 : tab ≤ 1000) (hc : count.length ≤ 1000) :
    FnK (KF w) prog w (n + 1) (.ref 52) [.ws count b nt, .int tab] (.int (indentOf count b nt tab)) := by
  refine fn_of (ns := ["self", "tabsize"]) (body := bodyOf (fdAt w 52)) (k_indent w) (by kernel_rfl) (by kernel_rfl) (by kernel_rfl) (by kernel_rfl) ?_ (by kernel_rfl) (by kernel_rfl) (by kernel_rfl) (by kernel_rfl) (by decide +kernel) (of_k (by kernel_rfl)) (by kernel_rfl) rfl ?_
  · intro vs hv
    obtain ⟨x, y, rfl⟩ := len2 hv
    kernel_rfl
  · intro A H s s1 I
    refine x_unpack2 I (d1 := .tup (count.map .int)) (d2 := .int b) (ev_norm w rfl (ev_name rfl)) (.inl rfl) (.inl rfl) fun s2 I2 => ?_
    refine x_assign I2 (d := .int 0) ev_int (.inl rfl) fun s3 I3 => ?_
    have I4 := I3.sub' (σ' := ([("self", .ws count b nt), ("tabsize", .int tab), ("count", .tup (count.map .int)), ("trailing", .int b), ("il", .int 0)] : Vars)) ⟨rfl, rfl, rfl, rfl, rfl, trivial⟩
    have hlen : (count.map D.int).length = count.length := List.length_map _
    refine x_for I4 (.inl rfl) (d := .range tab count.length 1) (n := ((count.length : Int) - tab).toNat) (it := fun j => .int (tab + (j : Int))) ?_ (fun s v I i => itr_range2 I.amb.handled (by omega) (by omega) (by omega) rfl (by omega) i)
      (fun i σ => σ = ([("self", .ws count b nt), ("tabsize", .int tab), ("count", .tup (count.map .int)), ("trailing", .int b), ("il", .int (ilG count tab i))] : Vars)) rfl ?_ ?_
    · refine ev_call_type rfl (by kernel_rfl) (T := "range") (by decide +kernel) (by decide) (ds := [.int tab, .int count.length]) (.cons (ev_name rfl) (.cons ?_ .nil)) fn_range2 (by simp) rfl
      have := fn_lent (K := KF w) (prog := prog) (w := w) (n := n) (ds := count.map .int) (by rw [hlen]; simp [sizeLine]; omega)
      rw [hlen] at this
      exact ev_call_builtin rfl (by kernel_rfl) (id := "len") (by decide +kernel) (by decide) (.cons (ev_name rfl) .nil) this (by simp) rfl
    · rintro i σ Ia t1 t2 hi rfl It back
      refine x_assign (c := Cx.turn _ Ia t1) It (d := .int (ilG count tab (i + 1))) ?_ (.inl rfl) fun t3 It3 => ?_
      · have hq : (tab + (i : Int)).fdiv tab ≤ tab + i := by
          rw [Int.fdiv_eq_ediv_of_nonneg _ (by omega)]
          exact Int.ediv_le_self _ (by omega)
        have hq0 : 0 ≤ (tab + (i : Int)).fdiv tab := Int.fdiv_nonneg (by omega) (by omega)
        refine ev_bin op_add (ev_name rfl) (ev_bin (op_mul (by omega)) (ev_bin (op_fdiv (by omega) (by omega)) (ev_name rfl) (ev_name rfl)) ?_)
        exact ev_itemt (k := tab + (i : Int)) (ev_name rfl) (ev_name rfl) (by omega) (ints_get (by omega) (by omega)) (by omega) (fun _ _ => rfl)
      · exact wpAny_execs_nil ⟨_, rfl, It3.sub' ⟨rfl, rfl, rfl, rfl, rfl, trivial⟩⟩
    · rintro σ t rfl It
      refine x_return It (d := .int (indentOf count b nt tab)) ?_ fun v s' I' i => ⟨v, rfl, I'.kp rfl, i⟩
      exact ev_bin op_add (ev_name rfl) (ev_bin (op_mul (by omega)) (ev_name rfl) (ev_bin op_add (ev_name rfl) (ev_nt w rfl (ev_name rfl))))


noncomputable def growL (count : List Int) (b : Nat) : List Int := if count.length ≤ b then count ++ List.replicate (b - count.length + 1) 0 else count
noncomputable def bumpL (count : List Int) (b : Nat) : List Int := (growL count b).set b ((growL count b).getD b 0 + 1)
noncomputable def wsF : List Nat → List Int → Nat → Int → List Int × Nat × Int
  | [], c, b, nt => (c, b, nt)
  | ch :: r, c, b, nt => if ch = 32 then wsF r c (b + 1) nt else wsF r (bumpL c b) 0 (nt + 1)
theorem growL_len (count : List Int) (b : Nat) : b < (growL count b).length ∧ (growL count b).length ≤ max count.length (b + 1) := by
  unfold growL
  split
  · simp; omega
  · constructor <;> omega
theorem bumpL_len (count : List Int) (b : Nat) : (bumpL count b).length = (growL count b).length := by unfold bumpL; simp
theorem intsAre_set : ∀ {vs : List Value} {ns : List Int} (k : Nat) (m : Int) (t : Tok), IntsAre vs ns → IntsAre (vs.set k (.int m t)) (ns.set k m)
  | _, _, k, m, t, .nil => by simpa using IntsAre.nil
  | _, _, 0, m, t, .cons n t' r => .cons m t r
  | _, _, k + 1, m, t, .cons n t' r => .cons n t' (intsAre_set k m t r)

theorem ev_attr_own {c : Cx} {σ : Vars} {y name : Str} {p pos : Pos} {x dx C : Addr} {es : List DictEntry} {n : Nat} {v : Value} {d : D} {attr : Option Value} (h : σ.lookup y = some (.ref x)) (hx : c.s₀.heap.get? x = some (instObj C dx)) (hd : c.s₀.heap.get? dx = some (dictOf es n))
    (hg : plainGet c.K C name = true) (hh : hasDictIn c.K C = true) (ha : findIn c.K (.ref C) name = some attr) (hn : noGet c.K attr = true) (hl : getL name es = some (some v)) (hv : handedIn v = true) (hi : ∀ h, Is h d v)
    (hdb : (y == ("__debug__" : Str)) = false := by decide) : Ev c σ (.Attribute (.Name y p) name pos) d := fun s I Q E q => by
  refine Attribute_Name_ (ev_name h hdb s I _ _ fun u s1 f1 i1 => ?_)
  obtain rfl := i1.ref_inv
  have I1 := I.to f1
  exact get_inst I1.ground.K (I1.fut.ext _ _ hx) (I1.fut.ext _ _ hd) hg hh ha hn hl hv (q _ _ (f1.trans (Kp.tok s1 _)) (hi _))

noncomputable abbrev wsS (x a : Addr) (b n nt : Int) : Vars := [("self", .ref x), ("S", .str " "), ("T", .str "\t"), ("count", .ref a), ("b", .int b), ("n", .int n), ("nt", .int nt)]



noncomputable abbrev cxI (prog : Program) (w : World) (n : Nat) (A : Around) (H : List Addr) (s : Shared) (dx : Addr) : Cx := { cxOf true (KF w) prog w n A H (fdAt w 38) 38 s with s₀ := { s with heap := hideAll s.heap [dx] } }

theorem tst_eqs {c : Cx} {σ : Vars} {l r : Expr} {p : Pos} {x y : Str} {t : Bool} (e : (x == y) = t) (h1 : Ev c σ l (.str x)) (h2 : Ev c σ r (.str y)) (hm : behindInMarks .Eq r = false := by with_unfolding_all rfl) : Tst c σ (.Compare l [.Eq] [r] p) t := by
  have := op_eqs (c := c) (a := x) (b := y)
  rw [e] at this
  exact tst_cmp this h1 h2 hm
inductive Own (c : Cx) (h : Heap) (a : Addr) (count : List Int) : Prop
  | mk (vs : List Value) (hl : h.IsList a vs.toArray) (hi : IntsAre vs count) (hn : c.s₀.heap.get? a = none) (hH : a ∉ c.H)
theorem Own.to {c : Cx} {h h' : Heap} {a : Addr} {count : List Int} (x : Own c h a count) (k : ∀ o, h.get? a = some o → h'.get? a = some o) : Own c h' a count :=
  let ⟨vs, ⟨o, e, r⟩, b, d, f⟩ := x; ⟨vs, ⟨o, k o e, r⟩, b, d, f⟩
theorem Own.ne {c : Cx} {σ : Vars} {s : Shared} {h : Heap} {a : Addr} {count : List Int} (x : Own c h a count) (I : In c σ s) : a ≠ c.env.locals ∧ a ∉ c.m ∧ ∀ y b, (y, b) ∈ c.env.cells → b ≠ a :=
  let ⟨_, _, _, _, f⟩ := x
  ⟨fun q => f (q ▸ I.sub _ I.locals.1), fun q => f (I.sub _ q), fun y b hb q => f (q ▸ (I.cells y b hb).1)⟩

inductive LoopJ (c1 : Cx) (l : List Nat) (x : Addr) (Ia : Addr) (i : Nat) (σ : Vars) (h : Heap) : Prop
  | mk (count : List Int) (b : Nat) (nn nt : Int) (a : Addr) (hw : wsF (l.drop i) count b nt = wsF l [] 0 0) (hs : σ = wsS x a b nn nt) (ho : Own c1 h a count) (ne : a ≠ Ia) (hc : count.length ≤ i) (hb : b ≤ i)

set_option maxHeartbeats 8000000 in
theorem init_walk (prog : Program) (w : World) (n : Nat) (A : Around) (H : List Addr) (s s₁ : Shared) (x dx : Addr) (ws : Str) (I : In (cxI prog w n A H s dx) ([("self", .ref x), ("ws", .str ws)] : Vars) s₁)
    (hx : s₁.heap.get? x = some (instObj 83 dx)) (hd : s₁.heap.get? dx = some (dictOf [] 0)) (hxd : x ≠ dx) (hdH : dx ∈ (cxI prog w n A H s dx).H) (hdm : dx ∉ (cxI prog w n A H s dx).m) (hxm : x ∉ (cxI prog w n A H s dx).m)
    (hch : ∀ cp ∈ ws.cps.toList, cp = 32 ∨ cp = 9) (hlen : ws.cps.size ≤ 250) (Q : Flow → Shared → Prop)
    (kQ : ∀ σ' s' es k nv t, In (cxI prog w n A H s dx) σ' s' → s'.heap.get? x = some (instObj 83 dx) → s'.heap.get? dx = some (dictOf es k) → getL "norm" es = some (some nv) →
        getL "nt" es = some (some (.int (wsF ws.cps.toList [] 0 0).2.2 t)) → getL "indent_level" es = some none →
        Is (hideAll s'.heap (cxI prog w n A H s dx).H) (.tup [.tup ((wsF ws.cps.toList [] 0 0).1.map .int), .int ((wsF ws.cps.toList [] 0 0).2.1 : Nat)]) nv → Q .next s') :
    wpAny (model prog w) (cxI prog w n A H s dx).A (execs (bodyOf (fdAt w 38)) (cxI prog w n A H s dx).env) Q (fun _ _ => False) s₁ := by
  have hd0 : (cxI prog w n A H s dx).s₀.heap.get? dx = none := hideAll_none _ (by simp)
  have hdL : dx ≠ (cxI prog w n A H s dx).env.locals := fun q => hdm (q ▸ I.locals.1)
  have hdC : ∀ y b, (y, b) ∈ (cxI prog w n A H s dx).env.cells → b ≠ dx := fun y b hb => by
    have : (cxI prog w n A H s dx).env.cells = [] := by rfl
    rw [this] at hb; cases hb
  -- self.raw = ws
  refine x_setattr I (d := .str ws) (x := x) (ev_name rfl) (ev_name rfl) fun v t1 f1 i1 => ?_
  obtain ⟨tw, rfl⟩ := i1.str_inv
  have I1 := I.to f1
  refine set_inst I1.ground.K (f1.ext _ _ hx) (f1.ext _ _ hd) (kc_set w) (kc_over w) (kc_raw w) (kc_dict w) (by rfl) (fun _ _ => Nat.le_of_ble_eq_true (by rfl)) fun h2 tk2 hsh2 tk2' hd2 hs2 => ?_
  have I2 : In (cxI prog w n A H s dx) _ { t1 with heap := h2, toks := tk2 } := I1.upd hdH hd0 hdL hdC (fun b o hb e => (hs2 b hb).trans e) ⟨_, hd2⟩
  have hx2 : h2.get? x = some (instObj 83 dx) := (hs2 x hxd).trans (f1.ext _ _ hx)
  generalize hS2 : ({ t1 with heap := h2, toks := tk2 } : Shared) = s2 at I2
  have hh2 : s2.heap = h2 := by rw [← hS2]
  rw [← hh2] at hx2 hd2
  -- from here on the object stands still
  have J2 := I2.base
  refine x_pair (c := Cx.base _ s2) J2 (d1 := .str " ") (d2 := .str "\t") ?_ (.inl rfl) (.inl rfl) (fun t3 I3 => ?_) (by rfl) (by rfl)
  · refine ev_tuple (.cons ?_ (.cons ?_ .nil)) rfl (by simp [sizeLine])
    · exact ev_clsattr (C := 83) rfl (by kernel_rfl) (kc_reads w) (kc_S w) rfl (fun h => .str _ _)
    · exact ev_clsattr (C := 83) rfl (by kernel_rfl) (kc_reads w) (kc_T w) rfl (fun h => .str _ _)
  refine x_new (c := Cx.base _ s2) I3 (ds := []) (evn_list .nil rfl (by simp [sizeLine])) rfl fun a vs t4 I4 hn4 hl4 ha4 keep4 => ?_
  cases ha4
  have ow4 : Own ((cxI prog w n A H s dx).base s2) t4.heap a [] := by
    refine ⟨[], hl4.isList, .nil, none_at I3.fut.ext hn4, fun q => ?_⟩
    obtain ⟨o, e⟩ := I3.alive a q
    rw [hn4] at e; cases e
  obtain ⟨n4a, n4b, n4c⟩ := ow4.ne I4
  have J4 := I4.base
  refine x_assign3 (c := Cx.base (Cx.base _ s2) t4) J4 (d := .int 0) ev_int (.inl rfl) (.inl rfl) (.inl rfl) fun t5 I5 => ?_
  have ow5 : Own ((cxI prog w n A H s dx).base s2) t5.heap a [] := ow4.to fun o e => I5.kept n4b e
  have I6 := (I4.unbase I5).sub' (σ' := wsS x a ((0 : Nat) : Int) 0 0) ⟨rfl, rfl, rfl, rfl, rfl, rfl, rfl, trivial⟩
  have hx5 : ((cxI prog w n A H s dx).base s2).s₀.heap.get? x = some (instObj 83 dx) := hideAll_get _ hx2 hxm
  have hd5 := hideAll_get (cxI prog w n A H s dx).m hd2 hdm
  have hasc : ws.cps.all (· < 128) = true := by
    rw [← Array.all_toList, List.all_eq_true]
    intro cp hc
    rcases hch cp hc with rfl | rfl <;> rfl
  refine x_for_own (c := Cx.base _ s2) I6 rfl (d := .str ws) (n := ws.cps.size) (it := fun j => .str ⟨#[ws.cps.getD j 0]⟩) ?_ (fun s v I i => itr1_str I.amb.handled hasc i) (LoopJ ((cxI prog w n A H s dx).base s2) ws.cps.toList x) ?_ ?_ ?_ ?_
  · exact ev_attr_own (C := 83) rfl hx5 hd5 (kc_get w _) (kc_dict w) (kc_fraw w) rfl (by rfl) rfl (fun h => .str _ _)
  · intro Ia s' f hn
    refine ⟨[], 0, 0, 0, a, rfl, rfl, ow5.to fun o e => f.ext _ _ e, fun q => ?_, Nat.le_refl _, Nat.le_refl _⟩
    obtain ⟨_, ⟨o, e, _⟩, _⟩ := ow5
    rw [q, hn] at e; cases e
  · rintro Ia i σ h h' ⟨count, b, nn, nt, a, e1, e2, ow, ne, e3, e4⟩ hk
    exact ⟨count, b, nn, nt, a, e1, e2, ow.to fun o e => hk _ _ ne e, ne, e3, e4⟩
  · rintro i σ Ia t1 t2 hi ⟨count, b, nn, nt, a, e1, rfl, ow, ne, e3, e4⟩ hIaH It hb2 back
    obtain ⟨na, nm, nc⟩ := ow.ne (back _ _ It)
    have ow2 : Own ((cxI prog w n A H s dx).base s2) t2.heap a count := ow.to fun o e => (hb2 a na).trans e
    have hil : i < ws.cps.toList.length := by rw [Array.length_toList]; exact hi
    have hcpe : ws.cps.getD i 0 = ws.cps.toList[i] := by simp [Array.getD, hi]
    have hcp := hch (ws.cps.getD i 0) (by rw [hcpe]; exact List.getElem_mem hil)
    have hdrop : ws.cps.toList.drop i = ws.cps.getD i 0 :: ws.cps.toList.drop (i + 1) := by rw [hcpe]; exact List.drop_eq_getElem_cons hil
    have hi250 : i < 250 := by omega
    generalize ws.cps.getD i 0 = cp at It hcp hdrop
    have Jb := It.base
    rcases hcp with rfl | rfl
    · refine x_if (c := Cx.base (Cx.loose ((cxI prog w n A H s dx).base s2) Ia t1) t2) Jb (b := true) (tst_eqs (x := ⟨#[32]⟩) (y := " ") (by decide +kernel) (ev_name rfl) (ev_name rfl)) (fun _ t3 I3 => ?_) (fun h => by cases h)
      refine x_assign (c := Cx.base (Cx.loose ((cxI prog w n A H s dx).base s2) Ia t1) t2) I3 (d := .int (nn + 1)) (ev_bin op_add (ev_name rfl) ev_int) (.inl rfl) fun t4 I4 => ?_
      refine x_assign (c := Cx.base (Cx.loose ((cxI prog w n A H s dx).base s2) Ia t1) t2) I4 (d := .int ((b + 1 : Nat) : Int)) (ev_bin op_add (ev_name rfl) ev_int) (.inl rfl) fun t5 I5 => ?_
      refine wpAny_execs_nil (wpAny_execs_nil ⟨wsS x a ((b + 1 : Nat) : Int) (nn + 1) nt, ⟨count, b + 1, nn + 1, nt, a, ?_, rfl, ow2.to (fun o e => I5.kept nm e), ne, by omega, by omega⟩, (It.unbase I5).sub' ⟨rfl, rfl, rfl, rfl, rfl, rfl, rfl, trivial⟩⟩)
      rw [← e1, hdrop, wsF, if_pos rfl]
    · refine x_if (c := Cx.base (Cx.loose ((cxI prog w n A H s dx).base s2) Ia t1) t2) Jb (b := false) (tst_eqs (x := ⟨#[9]⟩) (y := " ") (by decide +kernel) (ev_name rfl) (ev_name rfl)) (fun h => by cases h) (fun _ t3 I3 => ?_)
      refine x_if (c := Cx.base (Cx.loose ((cxI prog w n A H s dx).base s2) Ia t1) t2) I3 (b := true) (tst_eqs (x := ⟨#[9]⟩) (y := "\t") (by decide +kernel) (ev_name rfl) (ev_name rfl)) (fun _ t4 I4 => ?_) (fun h => by cases h)
      refine x_assign (c := Cx.base (Cx.loose ((cxI prog w n A H s dx).base s2) Ia t1) t2) I4 (d := .int (nn + 1)) (ev_bin op_add (ev_name rfl) ev_int) (.inl rfl) fun t5 I5 => ?_
      refine x_assign (c := Cx.base (Cx.loose ((cxI prog w n A H s dx).base s2) Ia t1) t2) I5 (d := .int (nt + 1)) (ev_bin op_add (ev_name rfl) ev_int) (.inl rfl) fun t6 I6 => ?_
      obtain ⟨vs, hl2, hi2, hf2, hH2⟩ := id ow2
      have hlb : (hideAll t2.heap (cxI prog w n A H s dx).m).IsList a vs.toArray := let ⟨o, e, r⟩ := hl2; ⟨o, hideAll_get _ e nm, r⟩
      have hHb : a ∉ Ia :: (cxI prog w n A H s dx).H := fun q => by
        rcases List.mem_cons.mp q with q | q
        · exact ne q
        · exact hH2 q
      have hcl : (count.map D.int).length = count.length := List.length_map _
      refine x_if_join (c := Cx.base (Cx.loose ((cxI prog w n A H s dx).base s2) Ia t1) t2) I6 (b := decide ((count.length : Int) ≤ (b : Int))) (tst_cmp (a := .int b) (b := .int count.length) op_ge (ev_name rfl) ?_)
        (fun s' => ∃ a', In (((cxI prog w n A H s dx).base s2).loose Ia t1) (wsS x a' b (nn + 1) (nt + 1)) s' ∧ Own ((cxI prog w n A H s dx).base s2) s'.heap a' (growL count b) ∧ a' ≠ Ia) ?_ ?_ ?_
      · refine ev_d ?_ (show D.int ((count.map D.int).length : Nat) = _ by rw [hcl])
        exact ev_call_builtin rfl (by kernel_rfl) (id := "len") (by decide +kernel) (by decide) (.cons (ev_own rfl hlb hHb hi2) .nil) (fn_len (ds := count.map .int) (by rw [hcl]; simp [sizeLine]; omega)) (by simp) rfl
      · intro hb t7 I7
        have hb' : count.length ≤ b := by have := of_decide_eq_true hb; omega
        refine x_new (c := Cx.base (Cx.loose ((cxI prog w n A H s dx).base s2) Ia t1) t2) I7 (ds := count.map .int ++ List.replicate ((b : Int) - count.length + 1).toNat (.int 0)) (evn_addl (ev_own rfl hlb hHb hi2) ?_ ?_) rfl fun l vs' t8 I8 hn8 hl8 ha8 keep8 => ?_
        · refine ev_bin (op_mull (x := .int 0) (n := (b : Int) - count.length + 1) (by omega) (by omega) (by omega)) (ev_list (.cons ev_int .nil) rfl (by simp [sizeLine])) (ev_bin op_add (ev_bin op_sub (ev_name rfl) ?_) ev_int)
          refine ev_d ?_ (show D.int ((count.map D.int).length : Nat) = _ by rw [hcl])
          exact ev_call_builtin rfl (by kernel_rfl) (id := "len") (by decide +kernel) (by decide) (.cons (ev_own rfl hlb hHb hi2) .nil) (fn_len (ds := count.map .int) (by rw [hcl]; simp [sizeLine]; omega)) (by simp) rfl
        · simp [sizeLine]; omega
        · have B7 := back _ _ (It.unbase I7)
          refine wpAny_execs_nil ⟨rfl, l, (It.unbase I8).sub' ⟨rfl, rfl, rfl, rfl, rfl, rfl, rfl, trivial⟩, ⟨vs', hl8.isList, ?_, none_at B7.fut.ext hn8, fun q => ?_⟩, fun q => ?_⟩
          · refine IsAll.ints (h := hideAll t8.heap (Ia :: (cxI prog w n A H s dx).H)) ?_
            have e : (growL count b).map D.int = count.map .int ++ List.replicate ((b : Int) - count.length + 1).toNat (.int 0) := by
              unfold growL
              rw [if_pos hb', List.map_append, List.map_replicate]
              congr 2; omega
            rw [e]; exact ha8
          · obtain ⟨o, e⟩ := B7.alive l q
            rw [hn8] at e; cases e
          · obtain ⟨o, e⟩ := (It.unbase I7).alive Ia List.mem_cons_self
            rw [← q, hn8] at e; cases e
      · intro hb t7 I7
        have hb' : ¬ count.length ≤ b := by have := of_decide_eq_false hb; omega
        refine wpAny_execs_nil ⟨rfl, a, (It.unbase I7).sub' ⟨rfl, rfl, rfl, rfl, rfl, rfl, rfl, trivial⟩, ?_, ne⟩
        have e : growL count b = count := by unfold growL; rw [if_neg hb']
        rw [e]
        exact ow2.to fun o e => I7.kept nm e
      · rintro t7 ⟨a', I7, ow7, ne7⟩
        obtain ⟨vs7, hl7, hi7, hf7, hH7⟩ := id ow7
        obtain ⟨g1, g2⟩ := growL_len count b
        obtain ⟨n7, m7, c7⟩ := ow7.ne (back _ _ I7)
        have hHb7 : a' ∉ Ia :: (cxI prog w n A H s dx).H := fun q => by
          rcases List.mem_cons.mp q with q | q
          · exact ne7 q
          · exact hH7 q
        have hlb7 : (hideAll t7.heap (cxI prog w n A H s dx).m).IsList a' vs7.toArray := let ⟨o, e, r⟩ := hl7; ⟨o, hideAll_get _ e m7, r⟩
        refine x_setitem (c := Cx.loose ((cxI prog w n A H s dx).base s2) Ia t1) I7 (d := .int ((growL count b).getD b 0 + 1)) (k := (b : Int)) (a := a') (vs := vs7) ?_ rfl (ev_name rfl) hl7 (by omega) (by rw [hi7.length]; omega) (by omega) fun v t10 h10 f10 i10 hl10 hs10 => ?_
        · refine ev_bin op_add (ev_item (k := (b : Int)) (ev_own rfl hlb7 hHb7 hi7) (ev_name rfl) (by omega) ?_ (by omega) (fun _ _ => rfl)) ev_int
          have := ints_get (ns := growL count b) (k := (b : Int)) (by omega) (by omega)
          simpa using this
        · obtain ⟨tv, rfl⟩ := i10.int_inv
          have I10 : In (((cxI prog w n A H s dx).base s2).loose Ia t1) (wsS x a' b (nn + 1) (nt + 1)) { t10 with heap := h10, toks := t10.toks } :=
            (I7.to f10).updFlat (a := a') (by rfl) (loose_none ne7 hf7) n7 c7 (fun b o hb e => (hs10.2 b hb).trans e) (let ⟨o, e, _⟩ := hl10; ⟨o, e⟩)
          have ow10 : Own ((cxI prog w n A H s dx).base s2) ({ t10 with heap := h10 } : Shared).heap a' (bumpL count b) := ⟨_, hl10, by
            have := intsAre_set b ((growL count b).getD b 0 + 1) tv hi7
            simpa [bumpL] using this, hf7, hH7⟩
          generalize hS : ({ t10 with heap := h10 } : Shared) = t11 at I10 ow10 ⊢
          have J11 := I10.base
          refine x_assign (c := Cx.base (Cx.loose ((cxI prog w n A H s dx).base s2) Ia t1) t11) J11 (d := .int ((0 : Nat) : Int)) ev_int (.inl rfl) fun t12 I12 => ?_
          refine wpAny_execs_nil (wpAny_execs_nil (wpAny_execs_nil ⟨wsS x a' ((0 : Nat) : Int) (nn + 1) (nt + 1), ⟨bumpL count b, 0, nn + 1, nt + 1, a', ?_, rfl, ow10.to (fun o e => I12.kept m7 e), ne7, ?_, by omega⟩, (I10.unbase I12).sub' ⟨rfl, rfl, rfl, rfl, rfl, rfl, rfl, trivial⟩⟩))
          · rw [← e1, hdrop, wsF, if_neg (by decide)]
          · rw [bumpL_len]; omega
  · rintro Ia σ t ⟨count, b, nn, nt, a, e1, rfl, ow, ne, e3, e4⟩ It
    have hx' : t.heap.get? x = some (instObj 83 dx) := It.kept hxm hx2
    have hd' := It.kept hdm hd2
    have I8 := I2.unbase It
    have e0 : wsF ws.cps.toList [] 0 0 = (count, b, nt) := by
      rw [← e1, List.drop_of_length_le (by rw [Array.length_toList]; exact Nat.le_refl _)]; rfl
    rw [e0] at kQ
    obtain ⟨na, nm, nc⟩ := ow.ne It
    obtain ⟨vs, hl, hi, hf, hHa⟩ := id ow
    have had : a ≠ dx := fun q => by rw [q, hd5] at hf; cases hf
    have hcl : (count.map D.int).length = count.length := List.length_map _
    -- self.n = n
    refine x_setattr (c := cxI prog w n A H s dx) I8 (d := .int nn) (x := x) (ev_name rfl) (ev_name rfl) fun v u1 g1 j1 => ?_
    obtain ⟨tn, rfl⟩ := j1.int_inv
    have K1 := I8.to g1
    refine set_inst K1.ground.K (g1.ext _ _ hx') (g1.ext _ _ hd') (kc_set w) (kc_over w) (kc_n w) (kc_dict w) (by rfl) (fun _ _ => Nat.le_of_ble_eq_true (by rfl)) fun h3 tk3 hsh3 tk3' hd3 hs3 => ?_
    have I9 : In (cxI prog w n A H s dx) _ { u1 with heap := h3, toks := tk3 } := K1.upd hdH hd0 hdL hdC (fun b o hb e => (hs3 b hb).trans e) ⟨_, hd3⟩
    have hx3 : h3.get? x = some (instObj 83 dx) := (hs3 x hxd).trans (g1.ext _ _ hx')
    have hl3 : h3.IsList a vs.toArray := let ⟨o, e, r⟩ := hl; ⟨o, (hs3 a had).trans (g1.ext _ _ e), r⟩
    -- self.nt = nt
    refine x_setattr (c := cxI prog w n A H s dx) I9 (d := .int nt) (x := x) (ev_name rfl) (ev_name rfl) fun v u2 g2 j2 => ?_
    obtain ⟨tnt, rfl⟩ := j2.int_inv
    have K2 := I9.to g2
    refine set_inst K2.ground.K (g2.ext _ _ hx3) (g2.ext _ _ hd3) (kc_set w) (kc_over w) (kc_nt w) (kc_dict w) (by rfl) (fun _ _ => Nat.le_of_ble_eq_true (by rfl)) fun h4 tk4 hsh4 tk4' hd4 hs4 => ?_
    have I10 : In (cxI prog w n A H s dx) _ { u2 with heap := h4, toks := tk4 } := K2.upd hdH hd0 hdL hdC (fun b o hb e => (hs4 b hb).trans e) ⟨_, hd4⟩
    have hx4 : h4.get? x = some (instObj 83 dx) := (hs4 x hxd).trans (g2.ext _ _ hx3)
    have hl4 : h4.IsList a vs.toArray := let ⟨o, e, r⟩ := hl3; ⟨o, (hs4 a had).trans (g2.ext _ _ e), r⟩
    generalize hS4 : ({ u2 with heap := h4, toks := tk4 } : Shared) = s4 at I10
    have hh4 : s4.heap = h4 := by rw [← hS4]
    rw [← hh4] at hx4 hd4 hl4
    -- self.norm = (tuple(count), b)
    have hlb4 : ((cxI prog w n A H s dx).base s4).s₀.heap.IsList a vs.toArray := let ⟨o, e, r⟩ := hl4; ⟨o, hideAll_get _ e nm, r⟩
    refine x_setattr (c := Cx.base (cxI prog w n A H s dx) s4) I10.base (d := .tup [.tup (count.map .int), .int b]) (x := x) ?_ (ev_name rfl) fun v u3 g3 j3 => ?_
    · refine ev_tuple (.cons ?_ (.cons (ev_name rfl) .nil)) rfl (by simp [sizeLine])
      exact ev_call_type rfl (by kernel_rfl) (T := "tuple") (by decide +kernel) (by decide) (.cons (ev_own rfl hlb4 hHa hi) .nil) (fn_tuple (by rw [hcl]; simp [sizeLine]; omega)) (by simp) rfl
    have K3 := I10.to g3
    refine set_inst K3.ground.K (g3.ext _ _ hx4) (g3.ext _ _ hd4) (kc_set w) (kc_over w) (kc_norm w) (kc_dict w) (by rfl) (fun _ _ => Nat.le_of_ble_eq_true (by rfl)) fun h5 tk5 hsh5 tk5' hd5' hs5 => ?_
    have I11 : In (cxI prog w n A H s dx) _ { u3 with heap := h5, toks := tk5 } := K3.upd hdH hd0 hdL hdC (fun b o hb e => (hs5 b hb).trans e) ⟨_, hd5'⟩
    have hx5' : h5.get? x = some (instObj 83 dx) := (hs5 x hxd).trans (g3.ext _ _ hx4)
    have hl5 : h5.IsList a vs.toArray := let ⟨o, e, r⟩ := hl4; ⟨o, (hs5 a had).trans (g3.ext _ _ e), r⟩
    have j5 := j3.ext (hid_extBut (H := (cxI prog w n A H s dx).H) (h' := h5) fun b o hb e => (hs5 b fun q => hb (q ▸ hdH)).trans e)
    generalize hS5 : ({ u3 with heap := h5, toks := tk5 } : Shared) = s5 at I11
    have hh5 : s5.heap = h5 := by rw [← hS5]
    rw [← hh5] at hx5' hd5' hl5 j5
    -- self.is_simple = len(count) <= 1
    have hlb5 : ((cxI prog w n A H s dx).base s5).s₀.heap.IsList a vs.toArray := let ⟨o, e, r⟩ := hl5; ⟨o, hideAll_get _ e nm, r⟩
    refine x_setattr (c := Cx.base (cxI prog w n A H s dx) s5) I11.base (d := .bool (decide ((count.map D.int).length ≤ (1 : Int)))) (x := x) ?_ (ev_name rfl) fun v u4 g4 j4 => ?_
    · refine ev_cmp (op_le (a := (((count.map D.int).length : Nat) : Int)) (b := 1)) ?_ ev_int
      exact ev_call_builtin rfl (by kernel_rfl) (id := "len") (by decide +kernel) (by decide) (.cons (ev_own rfl hlb5 hHa hi) .nil) (fn_len (ds := count.map .int) (by rw [hcl]; simp [sizeLine]; omega)) (by simp) rfl
    obtain rfl := j4.bool_inv
    have K4 := I11.to g4
    refine set_inst K4.ground.K (g4.ext _ _ hx5') (g4.ext _ _ hd5') (kc_set w) (kc_over w) (kc_simple w) (kc_dict w) (by rfl) (fun _ _ => Nat.le_of_ble_eq_true (by rfl)) fun h6 tk6 hsh6 tk6' hd6 hs6 => ?_
    have I12 : In (cxI prog w n A H s dx) _ { u4 with heap := h6, toks := tk6 } := K4.upd hdH hd0 hdL hdC (fun b o hb e => (hs6 b hb).trans e) ⟨_, hd6⟩
    exact wpAny_execs_nil (kQ _ _ _ _ _ tnt I12 ((hs6 x hxd).trans (g4.ext _ _ hx5')) hd6 rfl rfl rfl ((j5.ext (hid_ext g4.ext)).ext (hid_extBut fun b o hb e => (hs6 b fun q => hb (q ▸ hdH)).trans e)))


set_option maxHeartbeats 4000000 in
theorem c_cls (prog : Program) (w : World) (n : Nat) (ws : Str) (hch : ∀ cp ∈ ws.cps.toList, cp = 32 ∨ cp = 9) (hlen : ws.cps.size ≤ 250) :
    FnK (KF w) prog w (n + 2) (.ref 83) [.str ws] (.ws (wsF ws.cps.toList [] 0 0).1 ((wsF ws.cps.toList [] 0 0).2.1 : Nat) (wsF ws.cps.toList [] 0 0).2.2) := by
  intro A H s vs Q E hA hal hg hv k
  obtain ⟨v, rfl, iv⟩ := all1 hv
  obtain ⟨tw, rfl⟩ := iv.str_inv
  obtain ⟨hh, g, d, t, os⟩ := s
  refine wpAny_call (make_core (makes_of hg.K (kc_makes w)) (looks_findIn hg.K (kc_init w)) (fun self => bind_fn hg.K self (kc_fn38 w)) (.inl rfl) ?_)
  have k1 : Ext hh (hh.push emptyDict) := Ext.push _ _
  have kx : Ext hh ((hh.push emptyDict).push (instObj 83 hh.objs.size)) := k1.trans (Ext.push _ _)
  have hA' : Amb (n + 1) (A.under (.builtin "type.__call__" ⟨.ref 83 :: [Value.str ws tw], []⟩)) := ⟨hA.handled, by rw [depth_under_kw]; have := hA.depth; omega, by rw [units_under_make]; have := hA.units; omega⟩
  have hx2 : ((hh.push emptyDict).push (instObj 83 hh.objs.size)).get? (hh.objs.size + 1) = some (instObj 83 hh.objs.size) := by heap_get
  have hd2 : ((hh.push emptyDict).push (instObj 83 hh.objs.size)).get? hh.objs.size = some (dictOf [] 0) := Heap.get?_push_of_some _ (Heap.get?_push_size _ rfl)
  have hsz : ((hh.push emptyDict).push (instObj 83 hh.objs.size)).objs.size = hh.objs.size + 2 := by rw [Heap.size_push, Heap.size_push]
  generalize hH2 : (hh.push emptyDict).push (instObj 83 hh.objs.size) = h2 at kx hx2 hd2 hsz
  have hg2 : Gr (KF w) h2 := hg.ext kx
  have hdH : hh.objs.size ∉ H := hal.new (Nat.le_refl _)
  have hxH : hh.objs.size + 1 ∉ H := hal.new (Nat.le_succ _)
  have hal2 : Alive (hh.objs.size :: H) h2 := fun b hb => by
    rcases List.mem_cons.mp hb with rfl | hb
    · exact ⟨_, hd2⟩
    · exact hal.ext kx b hb
  refine codeAny_call_cells hA'.room (hg2.K _ _ (k_init w)) rfl hg2.nolimit (codeRec_of hg2.K (by kernel_rfl)) (body := bodyOf (fdAt w 38)) (by kernel_rfl) (binds := (["self", "ws"] : List Str).zip [Value.ref (hh.objs.size + 1), .str ws tw]) (by kernel_rfl) (by kernel_rfl)
    (fun y hy => kinds_of (ns := ["self", "ws"]) (by kernel_rfl) _ _ (List.of_mem_zip hy).1) (fun s₁ J => ?_) (by kernel_rfl) (by kernel_rfl) (by kernel_rfl)
  obtain ⟨I, kp⟩ := fn_in (K := KF w) (prog := prog) (w := w) (pu := true) (n := n) (H := hh.objs.size :: H) (ds := [.ref (hh.objs.size + 1), .str ws]) hA' hal2 hg2 (.cons (.ref _) (.cons (.str _ _) .nil)) (by kernel_rfl) (by kernel_rfl) (by kernel_rfl) (by decide +kernel) (of_k (by kernel_rfl))
    (kinds_of (ns := ["self", "ws"]) (by kernel_rfl) _) rfl J
  have I' := I.hide hh.objs.size (hg.ext fun b o e => hideAll_get _ (kx b o e) fun q => by rw [List.mem_singleton.mp q, size_none] at e; cases e)
  have hm : ∀ b ∈ (cxI prog w n (A.under (.builtin "type.__call__" ⟨.ref 83 :: [Value.str ws tw], []⟩)) (hh.objs.size :: H) ⟨h2, g, d, t, os⟩ hh.objs.size).m, hh.objs.size + 2 ≤ b := fun b hb => by
    have : (cxI prog w n (A.under (.builtin "type.__call__" ⟨.ref 83 :: [Value.str ws tw], []⟩)) (hh.objs.size :: H) ⟨h2, g, d, t, os⟩ hh.objs.size).m = [h2.objs.size] := by rfl
    rw [this] at hb
    rw [List.mem_singleton.mp hb, hsz]
    exact Nat.le_refl _
  refine wpAny_mono (init_walk prog w n (A.under (.builtin "type.__call__" ⟨.ref 83 :: [Value.str ws tw], []⟩)) (hh.objs.size :: H) ⟨h2, g, d, t, os⟩ s₁ (hh.objs.size + 1) hh.objs.size ws I' (kp.ext _ _ hx2) (kp.ext _ _ hd2) (Nat.succ_ne_self _) (List.mem_append.mpr (.inr List.mem_cons_self))
    (fun q => by have := hm _ q; omega) (fun q => by have := hm _ q; omega) hch hlen _ fun σ' s' es kk nv tnt Iw hx' hd' h1 h2' h3 i => ?_) (fun _ _ h => h) fun _ _ h => h.elim
  refine ⟨rfl, k _ s' ⟨fun b o e => Iw.fut.ext b o (hideAll_get _ (kx b o e) fun q => ?_), ?_⟩ (.pred fun h' e' => ⟨_, _, es, kk, nv, tnt, rfl, e' _ _ (hideAll_get H hx' hxH), e' _ _ (hideAll_get H hd' hdH), h1, h2', h3, ?_⟩)⟩
  · rw [List.mem_singleton.mp q, size_none] at e; cases e
  · obtain ⟨h5, t5, e5⟩ := Iw.same rfl
    exact ⟨h5, t5, e5⟩
  · exact (i.ext (hid_less fun b hb => List.mem_append.mpr (.inr (List.mem_cons_of_mem _ hb)))).ext e'


theorem sp_cps : (Str.ofString " ").cps = #[32] := by decide +kernel
theorem tab_cps : (Str.ofString "\t").cps = #[9] := by decide +kernel
theorem rep_fold : ∀ (k : Nat) (acc : Array Nat), ((List.replicate k (#[32] : Array Nat)).foldl (· ++ ·) acc).toList = acc.toList ++ List.replicate k 32
  | 0, acc => by simp
  | k + 1, acc => by
    rw [List.replicate_succ, List.foldl_cons, rep_fold k, Array.toList_append, List.append_assoc]
    rfl
theorem mul_sp (n : Nat) : (Txt.mul (Str.ofString " ") (n : Int)).cps.toList = List.replicate n 32 := by
  unfold Txt.mul
  by_cases h1 : (n : Int) < 1
  · rw [if_pos h1]
    have : n = 0 := by omega
    subst this; rfl
  · rw [if_neg h1]
    by_cases h2 : ((n : Int) == 1 || (Str.ofString " ").length == 0) = true
    · rw [if_pos h2]
      have hl : ((Str.ofString " ").length == 0) = false := by decide +kernel
      rw [hl, Bool.or_false] at h2
      have : n = 1 := by have := eq_of_beq h2; omega
      subst this
      rw [sp_cps]; rfl
    · rw [if_neg h2, sp_cps]
      show ((List.replicate n (#[32] : Array Nat)).foldl (· ++ ·) #[]).toList = _
      rw [rep_fold]; rfl
theorem join_cps : ∀ ys : List Str, (Txt.join (Str.ofString "") ys).cps.toList = ys.flatMap (·.cps.toList) := by
  have e0 : (Str.ofString "").cps.toList = [] := by decide +kernel
  intro ys
  show (Builtin.Str.glued _ ys).cps.toList = _
  rw [StrLaws.glued_eq_join]
  induction ys with
  | nil => rfl
  | cons x r ih =>
    cases r with
    | nil => rw [join_one]; simp
    | cons y r => rw [join_cons_cons, cps_toList_append, cps_toList_append, e0, List.append_nil, ih]; rfl

noncomputable def leadL (places : List Nat) (beyond : Nat) : List Nat := (places.flatMap fun p => List.replicate p 32 ++ [9]) ++ List.replicate beyond 32
noncomputable def leadS (places : List Nat) (beyond : Nat) : Str := Txt.join (Str.ofString "") (places.map fun p : Nat => Txt.mul (Str.ofString " ") (p : Int) ++ Str.ofString "\t") ++ Txt.mul (Str.ofString " ") (beyond : Int)
theorem leadS_cps (places : List Nat) (beyond : Nat) : (leadS places beyond).cps.toList = leadL places beyond := by
  unfold leadS leadL
  rw [cps_toList_append, join_cps, mul_sp, List.flatMap_map]
  congr 2
  funext p
  rw [cps_toList_append, mul_sp, tab_cps]
theorem leadL_two (places : List Nat) (beyond : Nat) : ∀ cp ∈ leadL places beyond, cp = 32 ∨ cp = 9 := fun cp h => by
  unfold leadL at h
  rcases List.mem_append.mp h with h | h
  · obtain ⟨p, _, h⟩ := List.mem_flatMap.mp h
    rcases List.mem_append.mp h with h | h
    · exact .inl (List.mem_replicate.mp h).2
    · exact .inr (List.mem_singleton.mp h)
  · exact .inl (List.mem_replicate.mp h).2

set_option maxHeartbeats 4000000 in
theorem c_lead (prog : Program) (w : World) (n : Nat) (places : List Nat) (beyond : Nat) (hl : (leadL places beyond).length ≤ 250) (hn : places.length ≤ 250) (hp : ∀ p ∈ places, p ≤ 250) :
    FnK (KF w) prog w (n + 3) (.ref 130) [.ints (places.map fun p : Nat => (p : Int)), .int beyond] (.ws (wsF (leadL places beyond) [] 0 0).1 ((wsF (leadL places beyond) [] 0 0).2.1 : Nat) (wsF (leadL places beyond) [] 0 0).2.2) := by
  have hsz : (leadS places beyond).cps.size ≤ 250 := by rw [← Array.length_toList, leadS_cps]; exact hl
  have hcls := c_cls prog w n (leadS places beyond) (by rw [leadS_cps]; exact leadL_two _ _) hsz
  rw [leadS_cps] at hcls
  have hby : beyond ≤ 250 := by
    unfold leadL at hl
    rw [List.length_append, List.length_replicate] at hl
    omega
  refine fn_of (ns := ["places", "beyond"]) (body := bodyOf (fdAt w 130)) (k_lead w) (by kernel_rfl) (by kernel_rfl) (by kernel_rfl) (by kernel_rfl) ?_ (by kernel_rfl) (by kernel_rfl) (by kernel_rfl) (by kernel_rfl) (by decide +kernel) (of_k (by kernel_rfl)) (by kernel_rfl) rfl ?_
  · intro vs hv
    obtain ⟨x, y, rfl⟩ := len2 hv
    kernel_rfl
  · intro A H s s1 I
    refine x_return I ?_ fun v s' I' i => ⟨v, rfl, I'.kp rfl, i⟩
    refine ev_call_def (f := 83) rfl (by kernel_rfl) (by kernel_rfl) (ds := [.str (leadS places beyond)]) (.cons ?_ .nil) hcls (by simp) rfl
    have hts : (Str.ofString "\t").length = 1 := by decide +kernel
    have hss : (Str.ofString " ").length = 1 := by decide +kernel
    have hst : (leadS places beyond).length = (Txt.join (Str.ofString "") (places.map fun p : Nat => Txt.mul (Str.ofString " ") (p : Int) ++ Str.ofString "\t")).length + (Txt.mul (Str.ofString " ") (beyond : Int)).length := by
      unfold leadS; rw [Str.length_append]
    have hj : (Txt.join (Str.ofString "") (places.map fun p : Nat => Txt.mul (Str.ofString " ") (p : Int) ++ Str.ofString "\t")).length + (Txt.mul (Str.ofString " ") (beyond : Int)).length ≤ 250 := by rw [← hst]; exact hsz
    have hml : ∀ p : Nat, (Txt.mul (Str.ofString " ") (p : Int)).length = p := fun p => by
      show (Txt.mul (Str.ofString " ") (p : Int)).cps.size = p
      rw [← Array.length_toList, mul_sp, List.length_replicate]
    refine ev_bin (op_adds (a := Txt.join (Str.ofString "") (places.map fun p : Nat => Txt.mul (Str.ofString " ") (p : Int) ++ Str.ofString "\t")) (b := Txt.mul (Str.ofString " ") (beyond : Int)) (by simp only [sizeLine]; omega)) ?_ (ev_bin (op_muls (mulOk_of 1 250 (by omega) (by omega) (by omega) (by decide) (by decide))) ev_str (ev_name rfl))
    refine @ev_join1 _ _ (Str.ofString "") _ _ _ _ _ (places.map fun p : Nat => Txt.mul (Str.ofString " ") (p : Int) ++ Str.ofString "\t") ?_ ?_ ?_ ?_ ?_
    rotate_left 2
    · rfl
    · rfl
    · kernel_rfl
    · have e : (places.map fun p : Nat => Txt.mul (Str.ofString " ") (p : Int) ++ Str.ofString "\t").map D.str = outs (fun j => [.str (Txt.mul (Str.ofString " ") ((places.getD j 0 : Nat) : Int) ++ Str.ofString "\t")]) places.length := by
        rw [outs_map]
        conv => lhs; rw [← range_getD places 0]
        rw [List.map_map, List.map_map]
        rfl
      rw [e]
      have hget : ∀ i, i < places.length → (places.map fun p : Nat => (p : Int)).getD i 0 = ((places.getD i 0 : Nat) : Int) := fun i hi => by simp [List.getD, hi]
      refine ev_comp (d := .ints (places.map fun p : Nat => (p : Int))) (n := places.length) (it := fun j => .int ((places.getD j 0 : Nat) : Int)) (ev_name rfl) (fun s v I i => ?_) (scOk (by kernel_rfl) (by kernel_rfl) (by kernel_rfl) (by kernel_rfl) (by kernel_rfl)) (run_1 (scOk (by kernel_rfl) (by kernel_rfl) (by kernel_rfl) (by kernel_rfl) (by kernel_rfl)) (by kernel_rfl) _ ?_ ?_)
      · have := itr_ints I.amb.handled i
        rw [List.length_map] at this
        exact this.congr fun j hj => by rw [hget j hj]
      · simp only [sizeLine]; omega
      · intro i I C Da s1 s2 hi
        have hpi := hp _ (getD_mem' (x := 0) hi)
        refine ⟨true, tstl_nil, fun _ => ⟨_, ?_, rfl⟩, fun h => by cases h⟩
        refine ev_bin (op_adds ?_) (ev_bin (op_muls (mulOk_of 1 250 (by omega) (by omega) (by omega) (by decide) (by decide))) ev_str (ev_name rfl)) ev_str
        rw [hml, hts]; simp only [sizeLine]; omega
    · have h0 : (Str.ofString "").length = 0 := by decide +kernel
      rw [h0, Nat.mul_zero, Nat.add_zero]
      have : ∀ l : List Nat, (∀ p ∈ l, p ≤ 250) → ((l.map fun p : Nat => Txt.mul (Str.ofString " ") (p : Int) ++ Str.ofString "\t").map (·.length)).sum ≤ l.length * 251 := by
        intro l
        induction l with
        | nil => intro _; simp
        | cons a l ih =>
          intro h
          have h1 := ih fun p hp => h p (List.mem_cons_of_mem _ hp)
          have h2 := h a List.mem_cons_self
          simp only [List.map_cons, List.sum_cons, List.length_cons, Str.length_append, hml, hts] at h1 ⊢
          omega
      have := this places hp
      omega


section
variable {M : Model} {A : Around} {R : GenEnd} {Y : Protocol} {n : Nat} {s₀ : Shared} {c : Code} {fs : List Frame} {s : Shared} {env : Env}
  {K : Flow → Sem Fin} {H : Value → Sem Fin} {gd : Bool → Bool} {lv : List Value → List Value}

theorem seg_For {target iter : Expr} {body : List Stmt} {pos : Pos}
    (h : wpAny M (A.over c fs) (eval iter env) (fun x s' => wpAny M (A.over c fs) (pyIter x) (fun it s'' => ∀ p, Seg M A R Y n s₀ (.forLoop target it body [] env) (M.den (.forLoop target it body [] env))
      (.ret (fun r => ((match r with | .ok f => (.pure f : Sem Flow) | .error e => .raise e).onRaise fun (x : Value) => do
        if (← field x 1) == Value.none then unsupported "frame.own-activation:exception-without-traceback"
        setFlight x env.frame).wrap K H gd lv) none (gd false) (lv []) c p [] :: fs) s'') (fun _ _ => False) s') (fun _ _ => False) s)
    (hs : ∀ x, foldedSetIterable iter env x = pure x) :
    Seg M A R Y n s₀ c ((exec (.For target iter body [] pos) env).wrap K H gd lv) fs s := by
  refine seg_at ?_
  show Seg M A R Y n s₀ c ((eval iter env >>= fun a => foldedSetIterable iter env a >>= fun x => standAt iter.pos >>= fun _ => holding [x] (pyIter x) >>= fun it => runOwn (.forLoop target it body [] env) env).wrap K H gd lv) fs s
  rw [Sem.bind_eq_wrap', Sem.wrap_wrap]
  refine seg_wrap (wpAny_mono h (fun x s' hx => ?_) fun _ _ z => z.elim)
  rw [hs]
  refine seg_at ?_
  show Seg M A R Y n s₀ c ((holding [x] (pyIter x) >>= fun it => runOwn (.forLoop target it body [] env) env).wrap K H gd lv) fs s'
  rw [Sem.bind_eq_wrap', Sem.wrap_wrap]
  exact seg_wrap (wpAny_holding (wpAny_mono hx (fun it s'' hi => seg_call hi) fun _ _ z => z.elim))

theorem seg_stmt {st : Stmt} {rest : List Stmt} (h : wpAny M (A.over c fs) (exec st env) (fun f s' => match f with | .next => Seg M A R Y n s₀ c ((execs rest env).wrap K H gd lv) fs s' | f => Seg M A R Y n s₀ c (K f) fs s') (fun _ _ => False) s) :
    Seg M A R Y n s₀ c ((execs (st :: rest) env).wrap K H gd lv) fs s :=
  seg_execs_cons (seg_wrap (wpAny_mono h (fun f s' h' => by cases f <;> exact h') fun _ _ z => z.elim))
theorem seg_last {st : Stmt} {Q : Prop} (h : wpAny M (A.over c fs) (exec st env) (fun f s' => Seg M A R Y n s₀ c (K f) fs s') (fun _ _ => False) s) :
    Seg M A R Y n s₀ c ((exec st env).wrap K H gd lv) fs s :=
  seg_wrap (wpAny_mono h (fun f s' h' => h') fun _ _ z => z.elim)

/-- a test that is met: the branch's own statements go on -/
theorem seg_If {t : Expr} {th el : List Stmt} {pos : Pos} (h : wpAny M (A.over c fs) (isTrue t env (eval t env)) (fun b s' => Seg M A R Y n s₀ c (((if b = true then execs th env else execs el env) : Sem Flow).wrap K H gd lv) fs s') (fun _ _ => False) s) :
    Seg M A R Y n s₀ c ((exec (.If t th el pos) env).wrap K H gd lv) fs s := by
  refine seg_at ?_
  show Seg M A R Y n s₀ c ((isTrue t env (eval t env) >>= fun b => if b = true then execs th env else execs el env).wrap K H gd lv) fs s
  rw [Sem.bind_eq_wrap', Sem.wrap_wrap]
  exact seg_wrap (wpAny_mono h (fun b s' h' => h') fun _ _ z => z.elim)
end

section
variable {prog : Program} {w : World} {A : Around} {R : GenEnd} {Y : Protocol} {n : Nat} {s₀ : Shared} {fs : List Frame} {s : Shared} {env : Env}

theorem seg_forLoop {x : Str} {px : Pos} {it : Value} {body : List Stmt}
    (h : wpAny (model prog w) (A.over (.forLoop (.Name x px) it body [] env) fs) (pyNext it) (fun r s1 => match r with
        | none => False
        | some v => wpAny (model prog w) (A.over (.forLoop (.Name x px) it body [] env) fs) (assign (.Name x px) env v) (fun _ s2 =>
            Seg (model prog w) A R Y n s₀ (.forLoop (.Name x px) it body [] env) ((execs body env).wrap (fun f => match f with
              | .next | .cont => .pure (.again (.forLoop (.Name x px) it body [] env))
              | .brk => .pure (.done .next)
              | .ret v => .pure (.done (.ret v))) (fun e => (do noteFrame e env; theTreesLotGoes e : Sem Unit).wrap (fun _ => .raise e) .raise id id) id id) fs s2) (fun _ _ => False) s1) (fun _ _ => False) s) :
    Seg (model prog w) A R Y n s₀ (.forLoop (.Name x px) it body [] env) ((model prog w).den (.forLoop (.Name x px) it body [] env)) fs s := by
  show Seg _ A R Y n s₀ _ ((forTurn (.Name x px) it body [] env).onRaise (fun x => do noteFrame x env; theTreesLotGoes x)) fs s
  unfold forTurn
  rw [Sem.onRaise_eq_wrap]
  refine seg_at ?_
  show Seg (model prog w) A R Y n s₀ _ (Sem.wrap _ _ _ _ (((pyNext it).onRaise _) >>= fun r => _)) fs s
  rw [Sem.bind_eq_wrap', Sem.wrap_wrap]
  refine seg_wrap (wpAny_onRaise (wpAny_mono h (fun r s1 h1 => ?_) fun _ _ z => z.elim))
  cases r with
  | none => exact h1.elim
  | some v =>
    show Seg (model prog w) A R Y n s₀ _ (Sem.wrap _ _ _ _ (assign (.Name x px) env v >>= fun _ => execs body env >>= fun f => match f with
      | .next | .cont => again (.forLoop (.Name x px) it body [] env)
      | .brk => pure (.done .next)
      | .ret v => pure (.done (.ret v)))) fs s1
    rw [Sem.bind_eq_wrap', Sem.wrap_wrap]
    refine seg_wrap (wpAny_mono h1 (fun _ s2 h2 => ?_) fun _ _ z => z.elim)
    show Seg (model prog w) A R Y n s₀ _ (Sem.wrap _ _ _ _ (execs body env >>= fun f => _)) fs s2
    rw [Sem.bind_eq_wrap', Sem.wrap_wrap]
    rw [Sem.wrap_congr (execs body env) _ _ (K' := fun f => match f with
            | .next | .cont => .pure (.again (.forLoop (.Name x px) it body [] env))
            | .brk => .pure (.done .next)
            | .ret v => .pure (.done (.ret v))) (H' := (fun e => (do noteFrame e env; theTreesLotGoes e : Sem Unit).wrap (fun _ => .raise e) .raise id id))
        (fun f => by cases f <;> rfl)
        (fun e => by first | exact Sem.bind_eq_wrap _ _ | (show (do noteFrame e env; theTreesLotGoes e : Sem Unit).bind (fun _ => .raise e) = _; rw [Sem.bind_eq_wrap]))]
    exact h2

theorem pyNext_genQ {E : Value → Shared → Prop} {a : Addr} {g n : Nat} {gs : GenState} {P : Nat → Shared → Shared → Prop} {Y : Protocol} {Q : Option Value → Shared → Prop} (hh : A.handled = none)
    (hl : s.heap.NoLimit) (hroom : A.depth < recursionLimit)
    (hg : s.heap.IsGen a g) (hgs : s.gens[g]? = some gs)
    (hgo : gs.Goes (model prog w) A.in1 (fun n s₀ r s₁ => False) Y n (.send .none) (s.setGen g .running))
    (hY : ∀ v s₁ gs', gs'.bare = true → Y (n - 1) (s.setGen g .running) v s₁ (fun r' s'' => match n with
        | 0 => False
        | m + 1 => gs'.Goes (model prog w) A.in1 (fun n s₀ r s₁ => False) Y m r' s'') → Q (some v) (s₁.setGen g gs')) :
    wpAny (model prog w) A (pyNext (.ref a)) Q E s := by
  unfold pyNext
  refine wpAny_bind (wpAny_attempt (wpAny_callSpecial?_slot (name := Str.ofString "__next__") hg.typeIs slot_gen_next
    (wpAny_call_entry slot_gen_next hg.typeIs entry_gen_next ?_ (args_gen_next _))))
  show wpAny _ A.in1 (Builtin.Generator.genWake (.ref a) (.send .none)) _ _ s
  unfold Builtin.Generator.genWake
  refine wpAny_bind (wpAny_holding (wpAny_genNumber hg (wpAny_bind (wpAny_genState hgs ?_))))
  cases gs with
  | running => exact hgo.elim
  | finished => exact hgo.elim
  | _ =>
    refine wpAny_bind (wpAny_roomToWake hl hroom ?_)
    show wpAny _ A.in1 (.resume g (.send .none) [] _) _ _ s
    refine wpAny_resumeQ hgs hgo (fun x s₁ hx => hx.elim) (fun v s₁ gs' hb hv => ?_)
    exact wpAny_pure ⟨v, rfl, wpAny_pure (hY v s₁ gs' hb hv)⟩
end


noncomputable def tokI (r : Option (Option Value)) : Tok := match r with
  | some (some (.int _ t)) => t
  | _ => 0
theorem k_charmax (w : World) : nsIn (KF w) mainGlobals "CHAR_MAX" = some (some (.int 127 (tokI (nsIn (KF w) mainGlobals "CHAR_MAX")))) := by kernel_rfl
theorem k_group (w : World) : (KF w).lookup 108 = some ⟨.type "function", none, .func (fdAt w 108), #[]⟩ := by kernel_rfl
noncomputable abbrev gEnv (w : World) (L : Addr) : Env := callEnvC (fdAt w 108) L 108

/-- what the generator promises at a yield, and what it asks of its consumer -/
noncomputable def Yp (size : Int) (hb hc : Heap) : Protocol := fun m s₀ v s' kap => (∃ t, v = .int size t) ∧ ∃ fp : List Addr, (∀ b ∈ fp, hc.get? b = none ∧ ∃ o, s'.heap.get? b = some o) ∧
  (∀ b o, b ∉ fp → s₀.heap.get? b = some o → s'.heap.get? b = some o) ∧ s'.os = s₀.os ∧ s'.gens = s₀.gens ∧
  (0 < m → ∀ s'', (∀ b ∈ fp, ∀ o, s'.heap.get? b = some o → s''.heap.get? b = some o) → Ext hb s''.heap → kap (.send .none) s'')
noncomputable abbrev Rno : GenEnd := fun _ _ _ _ => False

section
variable {prog : Program} {w : World} {B : Around} {E : Value → Shared → Prop} {s : Shared} {L : Addr} {m : Str → Option Value}
theorem g_local {x : Str} {p : Pos} {v : Value} {Q : Value → Shared → Prop} (hk : (gEnv w L).kindOf x = some .local) (hm : s.heap.Ns L m) (e : m x = some v) (q : Q v s) (hd : (x == ("__debug__" : Str)) = false := by decide) :
    wpAny (model prog w) B (eval (.Name x p) (gEnv w L)) Q E s := wpAny_Name (wpAny_loadName_local (by kernel_rfl) hk hm e q) hd
theorem g_charmax {p : Pos} {Q : Value → Shared → Prop} (gr : Gr (KF w) s.heap) (q : ∀ t, Q (.int 127 t) s) : wpAny (model prog w) B (eval (.Name "CHAR_MAX" p) (gEnv w L)) Q E s := by
  obtain ⟨mg, hg⟩ := gr.g
  exact Calls.Name_function_global (by kernel_rfl) (by kernel_rfl) (Calls.loadGlobal_global (show s.heap.Ns (gEnv w L).globals mg from hg) (mg_of gr.K hg (k_charmax w)) (q _)) (by decide)
theorem g_true {env : Env} {k : Nat} {p : Pos} {b : Bool} {Q : Value → Shared → Prop} (q : Q (.bool b) s) : wpAny (model prog w) B (eval (.Constant (.bool b) k p) env) Q E s := fun _ _ _ => q
theorem g_none {env : Env} {k : Nat} {p : Pos} {Q : Value → Shared → Prop} (q : Q .none s) : wpAny (model prog w) B (eval (.Constant .none k p) env) Q E s := fun _ _ _ => q
theorem g_store {x : Str} {p : Pos} {e : Expr} {p' : Pos} {v : Value} {Q : Flow → Shared → Prop} (hk : (gEnv w L).kindOf x = some .local)
    (he : wpAny (model prog w) B (eval e (gEnv w L)) (fun v' s' => v' = v ∧ ∃ tk, s' = { s with toks := tk }) E s) (hm : s.heap.Ns L m)
    (q : ∀ h' tk, h'.Ns L (fun y => if y = x then some v else m y) → Heap.SameBut L s.heap h' → Q .next { s with heap := h', toks := tk })
    (hs : swapsWith e (some (.Name x p)) p'.line (gEnv w L) = pure false := by rfl) :
    wpAny (model prog w) B (exec (.Assign [.Name x p] e p') (gEnv w L)) Q E s :=
  wpAny_Assign_Name (wpAny_mono he (fun v' s' h => by
    obtain ⟨rfl, tk, rfl⟩ := h
    exact wpAny_storeName_local (s := { s with toks := tk }) hk hm (fun h' hn hs => q h' _ hn hs) (by rfl)) fun _ _ z => z) hs
end

noncomputable def fb (w : World) : List Stmt := match bodyOf (fdAt w 108) with
  | [_, .For _ _ b _ _] => b
  | _ => []
noncomputable def wTest (w : World) : Expr := match fb w with
  | [_, .If _ [_, .While t _ _ _] _ _, _, _] => t
  | _ => .Constant .none 0 default
noncomputable def wBody (w : World) : List Stmt := match fb w with
  | [_, .If _ [_, .While _ b _ _] _ _, _, _] => b
  | _ => []

section
variable {prog : Program} {w : World} {size : Int} {hb hc : Heap} {L : Addr}

theorem gen_while (A : Around) (fs : List Frame) (hfs : splitAtGen fs = none) (hfg : fs.any Frame.guarded = false) (hcL : hc.get? L = none) : ∀ (n : Nat) (s₀ s : Shared) (fp : List Addr) (m : Str → Option Value) (t : Tok), s.heap.Ns L m → m "last_interval" = some (.int size t) →
    L ∈ fp → (∀ b ∈ fp, hc.get? b = none ∧ ∃ o, s.heap.get? b = some o) → (∀ b o, b ∉ fp → s₀.heap.get? b = some o → s.heap.get? b = some o) → s.os = s₀.os → s.gens = s₀.gens →
    Seg (model prog w) A Rno (Yp size hb hc) (n + 1) s₀ (.whileLoop (wTest w) (wBody w) [] (gEnv w L)) ((model prog w).den (.whileLoop (wTest w) (wBody w) [] (gEnv w L))) fs s := by
  intro n
  induction n using Nat.strongRecOn with
  | _ n ih =>
    intro s₀ s fp m t hm e hLfp hal hdf hos hge
    refine seg_whileLoop (isTrue_plain (g_true (wpAny_truthy_bool ?_)) (by rfl))
    rw [if_pos rfl]
    refine seg_execs_cons (seg_Expr_Yield hfs rfl hfg (g_local (by kernel_rfl) hm e fun kap hk => ⟨⟨t, rfl⟩, fp, hal, hdf, hos, hge, fun hpos s'' hk'' hx'' => hk .none s'' ?_⟩))
    obtain ⟨n', rfl⟩ : ∃ n', n = n' + 1 := ⟨n - 1, by omega⟩
    refine seg_execs_nil (K := fun f => match f with
            | .next | .cont => .pure (.again (.whileLoop (wTest w) (wBody w) [] (gEnv w L)))
            | .brk => .pure (.done .next)
            | .ret v => .pure (.done (.ret v))) (seg_again rfl ?_)
    have hm'' : s''.heap.Ns L m := hm.at' fun o q => hk'' L hLfp o q
    exact ih n' (Nat.lt_succ_self _) s'' s'' [L] m t hm'' e List.mem_cons_self (fun b hb => by
      rw [List.mem_singleton.mp hb]
      obtain ⟨o, _, _, q, _⟩ := hm''
      exact ⟨hcL, o, q⟩) (fun _ _ _ q => q) rfl rfl
end


section
variable {prog : Program} {w : World} {size : Int} {hb hc : Heap} {L : Addr}

theorem g_int {B : Around} {E : Value → Shared → Prop} {s : Shared} {env : Env} {n : Int} {k : Nat} {p : Pos} {Q : Value → Shared → Prop} (q : Q (.int n s.toks) { s with toks := s.toks + 1 }) : wpAny (model prog w) B (eval (.Constant (.int n) k p) env) Q E s := wpAny_Constant_int q

/-- the second turn: the 0 -/
theorem gen_for2 (A : Around) (fs : List Frame) (hfs : splitAtGen fs = none) (hfg : fs.any Frame.guarded = false) (hcL : hc.get? L = none) (hbK : Gr (KF w) hb) (n : Nat) (s : Shared) (m : Str → Option Value) (t t' : Tok) (px : Pos) (Ig l : Addr) (hm : s.heap.Ns L m) (e : m "last_interval" = some (.int size t))
    (hit : s.heap.IsListIter Ig l 1) (hl : s.heap.IsList l #[.int size t, .int 0 t']) (hIL : Ig ≠ L) (hcI : hc.get? Ig = none) (hx : Ext hb s.heap) (hbI : hb.get? Ig = none) (hbL : hb.get? L = none) :
    ∀ s₀, (∀ b o, b ≠ L → s₀.heap.get? b = some o → s.heap.get? b = some o) → s.os = s₀.os → s.gens = s₀.gens →
    Seg (model prog w) A Rno (Yp size hb hc) (n + 1) s₀ (.forLoop (.Name "interval" px) (.ref Ig) (fb w) [] (gEnv w L)) ((model prog w).den (.forLoop (.Name "interval" px) (.ref Ig) (fb w) [] (gEnv w L))) fs s := by
  intro s₀ hdf hos hge
  refine seg_forLoop (wpAny_pyNext_list_item hit hl (x := .int 0 t') rfl fun h1 hit1 hs1 => ?_)
  have hm1 : h1.Ns L m := hm.sameBut hs1 (Ne.symm hIL)
  refine wpAny_assign_Name (wpAny_storeName_local (s := { s with heap := h1 }) (by kernel_rfl) hm1 (fun h2 hm2 hs2 => ?_) (by rfl))
  have hx2 : Ext hb h2 := fun b o q => (hs2.2 b fun z => by
      have z' : b = L := z
      rw [z', hbL] at q; cases q).trans ((hs1.2 b fun z => by rw [z, hbI] at q; cases q).trans (hx b o q))
  have gr2 := hbK.ext hx2
  have hdf2 : ∀ b o, b ∉ [L, Ig] → s₀.heap.get? b = some o → h2.get? b = some o := fun b o hb' q => (hs2.2 b fun z => hb' (by have z' : b = L := z; rw [z']; exact List.mem_cons_self)).trans ((hs1.2 b fun z => hb' (by rw [z]; exact List.mem_cons_of_mem _ List.mem_cons_self)).trans (hdf b o (fun z => hb' (by rw [z]; exact List.mem_cons_self)) q))
  -- if interval == CHAR_MAX
  refine seg_stmt (wpAny_If (wpAny_isTrue_Compare1 (g_local (by kernel_rfl) hm2 (v := .int 0 t') (if_pos rfl) (g_charmax gr2 fun tc => PyProof.Rows.eq_int (wpAny_truthy_bool ?_)))))
  rw [if_neg (by decide)]
  refine wpAny_execs_nil ?_
  -- if interval == 0
  refine seg_execs_cons (seg_If (wpAny_isTrue_Compare1 (g_local (by kernel_rfl) hm2 (v := .int 0 t') (if_pos rfl) (g_int (PyProof.Rows.eq_int (wpAny_truthy_bool ?_))))))
  rw [if_pos (by decide)]
  refine seg_stmt (wpAny_If (wpAny_isTrue_Compare1 (g_local (by kernel_rfl) hm2 (show (if ("last_interval" : Str) = "interval" then _ else m "last_interval") = some (.int size t) by rw [if_neg (by decide), e]) (g_none (is_int_none (wpAny_truthy_bool ?_))))))
  rw [if_neg (by decide)]
  refine wpAny_execs_nil ?_
  refine seg_execs_cons (seg_While fun p => ?_)
  refine gen_while A _ (by show (splitAtGen fs).map _ = none; rw [hfs]; rfl) (by show (false || fs.any _) = false; rw [hfg]; rfl) hcL n s₀ _ [L, Ig] _ t hm2 (by rw [if_neg (by decide), e]) List.mem_cons_self ?_ hdf2 hos hge
  intro b hb'
  rcases List.mem_cons.mp hb' with rfl | hb'
  · obtain ⟨o, _, _, q, _⟩ := hm2; exact ⟨hcL, o, q⟩
  · rw [List.mem_singleton.mp hb']
    obtain ⟨o, q, _⟩ := hit1
    exact ⟨hcI, o, (hs2.2 Ig hIL).trans q⟩

/-- the first turn: the size -/
theorem gen_for1 (A : Around) (fs : List Frame) (hfs : splitAtGen fs = none) (hfg : fs.any Frame.guarded = false) (hcL : hc.get? L = none) (hbK : Gr (KF w) hb) (h127 : size ≠ 127) (h0 : size ≠ 0) (n : Nat) (s₀ s : Shared) (m : Str → Option Value) (t t' : Tok) (px : Pos) (Ig l : Addr) (hm : s.heap.Ns L m)
    (hit : s.heap.IsListIter Ig l 0) (hl : s.heap.IsList l #[.int size t, .int 0 t']) (hIL : Ig ≠ L) (hlL : l ≠ L) (hlI : l ≠ Ig) (hcI : hc.get? Ig = none) (hcl : hc.get? l = none) (hx : Ext hb s.heap) (hbI : hb.get? Ig = none) (hbL : hb.get? L = none)
    (hdf : ∀ b o, b ∉ [L, Ig, l] → s₀.heap.get? b = some o → s.heap.get? b = some o) (hos : s.os = s₀.os) (hge : s.gens = s₀.gens) :
    Seg (model prog w) A Rno (Yp size hb hc) (n + 1) s₀ (.forLoop (.Name "interval" px) (.ref Ig) (fb w) [] (gEnv w L)) ((model prog w).den (.forLoop (.Name "interval" px) (.ref Ig) (fb w) [] (gEnv w L))) fs s := by
  refine seg_forLoop (wpAny_pyNext_list_item hit hl (x := .int size t) rfl fun h1 hit1 hs1 => ?_)
  have hm1 : h1.Ns L m := hm.sameBut hs1 (Ne.symm hIL)
  refine wpAny_assign_Name (wpAny_storeName_local (s := { s with heap := h1 }) (by kernel_rfl) hm1 (fun h2 hm2 hs2 => ?_) (by rfl))
  have hx2 : Ext hb h2 := fun b o q => (hs2.2 b fun z => by
      have z' : b = L := z
      rw [z', hbL] at q; cases q).trans ((hs1.2 b fun z => by rw [z, hbI] at q; cases q).trans (hx b o q))
  have gr2 := hbK.ext hx2
  have hdf2 : ∀ b o, b ∉ [L, Ig, l] → s₀.heap.get? b = some o → h2.get? b = some o := fun b o hb' q => (hs2.2 b fun z => hb' (by have z' : b = L := z; rw [z']; exact List.mem_cons_self)).trans ((hs1.2 b fun z => hb' (by rw [z]; exact List.mem_cons_of_mem _ List.mem_cons_self)).trans (hdf b o hb' q))
  refine seg_stmt (wpAny_If (wpAny_isTrue_Compare1 (g_local (by kernel_rfl) hm2 (v := .int size t) (if_pos rfl) (g_charmax gr2 fun tc => PyProof.Rows.eq_int (wpAny_truthy_bool ?_)))))
  rw [if_neg (by simp [h127])]
  refine wpAny_execs_nil ?_
  refine seg_stmt (wpAny_If (wpAny_isTrue_Compare1 (g_local (by kernel_rfl) hm2 (v := .int size t) (if_pos rfl) (g_int (PyProof.Rows.eq_int (wpAny_truthy_bool ?_))))))
  rw [if_neg (by simp [h0])]
  refine wpAny_execs_nil ?_
  refine seg_execs_cons (seg_Expr_Yield hfs rfl hfg (g_local (by kernel_rfl) hm2 (v := .int size t) (if_pos rfl) fun kap hk => ⟨⟨t, rfl⟩, [L, Ig, l], ?_, hdf2, hos, hge, fun hpos s'' hk'' hx'' => hk .none s'' ?_⟩))
  · intro b hb'
    simp only [List.mem_cons, List.not_mem_nil, or_false] at hb'
    rcases hb' with rfl | rfl | rfl
    · obtain ⟨o, _, _, q, _⟩ := hm2; exact ⟨hcL, o, q⟩
    · obtain ⟨o, q, _⟩ := hit1
      exact ⟨hcI, o, (hs2.2 _ hIL).trans q⟩
    · obtain ⟨o, q, _⟩ := hl
      exact ⟨hcl, o, (hs2.2 _ hlL).trans ((hs1.2 _ hlI).trans q)⟩
  · obtain ⟨n', rfl⟩ : ∃ n', n = n' + 1 := ⟨n - 1, by omega⟩
    have hmR : s''.heap.Ns L (fun y => if y = ("interval" : Str) then some (.int size t) else m y) := Heap.Ns.at' (show h2.Ns L _ from hm2) fun o q => hk'' L List.mem_cons_self o q
    have hitR : s''.heap.IsListIter Ig l 1 := hit1.at fun o q => hk'' Ig (List.mem_cons_of_mem _ List.mem_cons_self) o ((hs2.2 Ig hIL).trans q)
    have hlR : s''.heap.IsList l #[.int size t, .int 0 t'] := hl.at fun o q => hk'' l (List.mem_cons_of_mem _ (List.mem_cons_of_mem _ List.mem_cons_self)) o ((hs2.2 l hlL).trans ((hs1.2 l hlI).trans q))
    refine seg_stmt (g_store (v := .int size t) (by kernel_rfl) (g_local (by kernel_rfl) hmR (v := .int size t) (if_pos rfl) ⟨rfl, s''.toks, rfl⟩) hmR fun h3 tk3 hm3 hs3 => ?_)
    refine seg_execs_nil (K := fun f => match f with
            | .next | .cont => .pure (.again (.forLoop (.Name "interval" px) (.ref Ig) (fb w) [] (gEnv w L)))
            | .brk => .pure (.done .next)
            | .ret v => .pure (.done (.ret v))) (seg_again rfl ?_)
    refine gen_for2 A fs hfs hfg hcL hbK n' _ _ t t' px Ig l hm3 (if_pos rfl) (hitR.at fun o q => (hs3.2 Ig hIL).trans q) (hlR.at fun o q => (hs3.2 l hlL).trans q) hIL hcI (fun b o q => (hs3.2 b fun z => by rw [z, hbL] at q; cases q).trans (hx'' b o q)) hbI hbL s'' (fun b o hb' q => (hs3.2 b hb').trans q) rfl rfl

/-- the whole generator, not yet begun -/
theorem gen_goes (A : Around) (hcL : hc.get? L = none) (hbK : Gr (KF w) hb) (h127 : size ≠ 127) (h0 : size ≠ 0) (n : Nat) (s : Shared) (m : Str → Option Value) (t t' : Tok) (l : Addr) (hm : s.heap.Ns L m) (hgr : m "grouping" = some (.ref l))
    (hl : s.heap.IsList l #[.int size t, .int 0 t']) (hlL : l ≠ L) (hcl : hc.get? l = none) (hcd : ∀ b o, hc.get? b = some o → ∃ o', s.heap.get? b = some o') (hx : Ext hb s.heap) (hbL : hb.get? L = none) :
    Seg (model prog w) A Rno (Yp size hb hc) (n + 1) s (.func (bodyOf (fdAt w 108)) (gEnv w L)) ((model prog w).den (.func (bodyOf (fdAt w 108)) (gEnv w L))) [] s := by
  refine seg_func ?_
  refine seg_stmt (g_store (v := .none) (by kernel_rfl) (g_none ⟨rfl, s.toks, rfl⟩) hm fun h1 tk1 hm1 hs1 => ?_)
  have hl1 : h1.IsList l #[.int size t, .int 0 t'] := hl.at fun o q => (hs1.2 l hlL).trans q
  refine seg_execs_cons (seg_For (g_local (by kernel_rfl) hm1 (v := .ref l) (by rw [if_neg (by decide), hgr]) (wpAny_pyIter_list hl1 fun p => ?_)) (fun _ => rfl))
  have hIs : h1.objs.size ≠ l := fun q => by obtain ⟨o, e, _⟩ := hl1; exact absurd (Heap.lt_size e) (by rw [← q]; exact Nat.lt_irrefl _)
  have hIL : h1.objs.size ≠ L := fun q => by obtain ⟨o, _, _, e, _⟩ := hm1; exact absurd (Heap.lt_size (show h1.get? L = some o from e)) (by rw [← q]; exact Nat.lt_irrefl _)
  have hnew : ∀ {h : Heap}, (∀ b o, h.get? b = some o → ∃ o', s.heap.get? b = some o') → h.get? h1.objs.size = none := fun {h} k => by
    cases e : h.get? h1.objs.size with
    | none => rfl
    | some o =>
      obtain ⟨o', e'⟩ := k _ _ e
      exact absurd (Heap.lt_size ((hs1.2 _ hIL).trans e')) (Nat.lt_irrefl _)
  refine gen_for1 A _ (by rfl) (by rfl) hcL hbK h127 h0 n s _ _ t t' _ h1.objs.size l (hm1.keeps (Ext.push _ _)) ⟨_, Heap.get?_push_size _ rfl, rfl, rfl⟩ (hl1.push _) hIL hlL (Ne.symm hIs) (hnew hcd) hcl
    (fun b o q => Heap.get?_push_of_some _ ((hs1.2 b fun z => by rw [z, hbL] at q; cases q).trans (hx b o q))) (hnew fun b o q => ⟨o, hx b o q⟩) hbL
    (fun b o hb' q => Heap.get?_push_of_some _ ((hs1.2 b fun z => hb' (by rw [z]; exact List.mem_cons_self)).trans q)) rfl rfl
end


set_option maxHeartbeats 4000000 in
theorem gen_call {c : Cx} {σ : Vars} {s : Shared} {q pos lp p0 p1 : Pos} {k0 : Nat} {size : Int} {Q E : Value → Shared → Prop} (I : In c σ s) (w : World) (hK : c.K = KF w) (hk : c.env.kindOf "_grouping_intervals" = some .globalImplicit) (hsz : σ.lookup ("size" : Str) = some (D.int size)) (hn1 : 1 ≤ c.n)
    (k : ∀ a L l t t' m s', Fut s s' → s'.gens = s.gens.push (.fresh (.func (bodyOf (fdAt w 108)) (gEnv w L))) → s'.heap.IsGen a s.gens.size → s'.heap.Ns L m → m "grouping" = some (.ref l) → s'.heap.IsList l #[.int size t, .int 0 t'] → l ≠ L → a ≠ l → a ≠ L →
      s.heap.get? L = none → s.heap.get? l = none → s.heap.get? a = none → Q (.ref a) s') :
    wpAny (model c.prog c.w) c.A (eval (.Call (.Name "_grouping_intervals" q) [.List [.Name "size" p0, .Constant (.int 0) k0 p1] lp] [] pos) c.env) Q E s := by
  have hn : nsIn c.K mainGlobals "_grouping_intervals" = some (some (.ref 108)) := by rw [hK]; kernel_rfl
  have hf : keepIn c.K (.ref 108) = true := by rw [hK]; kernel_rfl
  have hs : backTo pos (starEach [Expr.List [.Name "size" p0, .Constant (.int 0) k0 p1] lp] c.env) = [(false, eval (.List [.Name "size" p0, .Constant (.int 0) k0 p1] lp) c.env)] := by rfl
  show wpAny _ _ (do callWith pos (← eval (.Name "_grouping_intervals" q) c.env) [] (backTo pos (starEach [Expr.List [.Name "size" p0, .Constant (.int 0) k0 p1] lp] c.env)) (backToKw pos (keywordEach [] c.env))) Q E s
  refine wpAny_bind (name_global I hk hn ?_ (by decide))
  rw [hs]
  refine callWith_of (P := c.K.In) rfl (keeps_K hf) (Calls.evalArgs_plain (Calls.spliced_cons (evn_list (c := c) (ds := [.int size, .int 0]) (.cons (ev_name hsz) (.cons ev_int .nil)) rfl (by simp [sizeLine]) s I _ _ fun l vs s1 f1 hnl hl1 ha1 => Calls.spliced_nil ⟨(I.to f1).ground.K, ?_⟩)))
  have I1 := I.to f1
  have gr : Gr (KF w) s1.heap := hK ▸ I1.ground
  obtain ⟨v1, v2, rfl, i1, i2⟩ := all2 ha1
  obtain ⟨t, rfl⟩ := i1.int_inv
  obtain ⟨t', rfl⟩ := i2.int_inv
  refine wpAny_call (codeAny_call_generator (I.amb.room) (gr.K _ _ (k_group w)) rfl (by kernel_rfl) (by kernel_rfl) (body := bodyOf (fdAt w 108)) (by kernel_rfl) (codeRec_of gr.K (by kernel_rfl)) ?_)
  refine wpAny_of_eq (a := ([("grouping", .ref l)] : List (Str × Value))) (by kernel_rfl) ?_
  have hclo : (fdAt w 108).closure = [] := by kernel_rfl
  rw [hclo]
  refine wpAny_newFunctionEnv_cells (by kernel_rfl) (fun y hy => .inl (by rw [List.mem_singleton.mp hy]; kernel_rfl)) fun env he s2 J => ?_
  have kx : Ext s1.heap s2.heap := J.toInCall.keep
  obtain ⟨h2, tk2, hs2, _⟩ := J.done
  have hlL : env.locals = s1.heap.objs.size := by rw [he]; rfl
  have hnL : s1.heap.get? env.locals = none := by rw [hlL]; exact size_none _
  have hll : l ≠ env.locals := fun q => by
    obtain ⟨nn, e⟩ := hl1
    rw [q, hnL] at e; cases e
  have hgd : s2.gens = s1.gens := by rw [hs2]
  have hge1 : s1.gens = s.gens := by obtain ⟨_, h3, tk3, e⟩ := f1; rw [e]
  have hos1 : s1.os = s.os := by obtain ⟨_, h3, tk3, e⟩ := f1; rw [e]
  have hos2 : s2.os = s1.os := by rw [hs2]
  refine ⟨gr.nolimit.keeps kx, ?_⟩
  have hgL : env = gEnv w env.locals := by rw [hlL, he]; rfl
  refine k s2.heap.objs.size env.locals l t t' (bindL env.kindOf ([("grouping", .ref l)] : List (Str × Value)) fun _ => none) _ ⟨(f1.ext.trans kx).trans (Ext.push _ _), hos2.trans hos1, fun i x e => ?_, fun hb => ?_⟩ ?_ ?_ (J.toInCall.ns.keeps (Ext.push _ _)) ?_ ?_ hll ?_ ?_ (none_at f1.ext hnL) hnl (none_at (f1.ext.trans kx) (size_none _))
  · show (s2.gens.push _)[i]? = some x
    rw [hgd, hge1]
    have hi : i < s.gens.size := by
      obtain ⟨hi, _⟩ := Array.getElem?_eq_some_iff.mp e; exact hi
    rw [Array.getElem?_push_lt hi]
    rw [← e]; simp [hi]
  · show AllBare (s2.gens.push _)
    rw [hgd, hge1]
    exact hb.push rfl
  · show s2.gens.push (.fresh (.func (bodyOf (fdAt w 108)) env)) = s.gens.push _
    rw [hgd, hge1, ← hgL]
  · have hgs : s2.gens.size = s.gens.size := by rw [hgd, hge1]
    exact hgs ▸ ⟨_, .str (fdAt w 108).name s2.toks, .str (fdAt w 108).qualname (s2.toks + 1), Heap.get?_push_size _ rfl, rfl, rfl, rfl⟩
  · refine bindL_get _ _ (by simp) ?_ (by rfl)
    rw [he]; kernel_rfl
  · exact (isList_ext kx hl1.isList).push _
  · intro q
    obtain ⟨nn, e⟩ := hl1
    exact absurd (Heap.lt_size (kx _ _ e)) (by rw [← q]; exact Nat.lt_irrefl _)
  · intro q
    obtain ⟨o, _, _, e, _⟩ := J.toInCall.ns
    exact absurd (Heap.lt_size e) (by rw [← q]; exact Nat.lt_irrefl _)


noncomputable def colStep (size : Int) (piece : List UInt8) (i : Nat) (st : List Int × List Int) : List Int × List Int :=
  if (((piece.getD (piece.length - 1 - i) 0).toNat : Int) == 66) = true then (st.1 ++ [(i : Int) + size * st.2.getD i 0], st.2.set i (st.2.getD i 0 + 1)) else st
noncomputable def colF (size : Int) (piece : List UInt8) : Nat → List Int × List Int → List Int × List Int
  | 0, st => st
  | i + 1, st => colStep size piece i (colF size piece i st)
noncomputable def fallF (size : Int) : Nat → List UInt8 → List Int × List Int → List Int
  | 0, _, st => st.1
  | f + 1, word, st => if word.isEmpty = true then st.1 else fallF size f (pickB word none (some (-size))) (colF size (pickB word (some (-size)) none) (pickB word (some (-size)) none).length st)

theorem colStep_len (size : Int) (piece : List UInt8) (i : Nat) (st : List Int × List Int) : (colStep size piece i st).2.length = st.2.length ∧ (colStep size piece i st).1.length ≤ st.1.length + 1 := by
  unfold colStep
  split <;> simp
theorem colF_len (size : Int) (piece : List UInt8) : ∀ (k : Nat) (st : List Int × List Int), (colF size piece k st).2.length = st.2.length ∧ (colF size piece k st).1.length ≤ st.1.length + k
  | 0, st => ⟨rfl, Nat.le_refl _⟩
  | k + 1, st => by
    obtain ⟨a, b⟩ := colF_len size piece k st
    obtain ⟨c, d⟩ := colStep_len size piece k (colF size piece k st)
    exact ⟨c.trans a, by show (colStep _ _ _ _).1.length ≤ _; omega⟩
theorem clipNeg (len s : Nat) (hs : 0 < s) : clipAt len (-(s : Int)) = len - s := by
  unfold clipAt
  rw [if_pos (by omega)]
  omega
theorem pick_lens (word : List UInt8) (size : Int) (h : 2 ≤ size) : (pickB word (some (-size)) none).length ≤ size.toNat ∧ (pickB word (some (-size)) none).length ≤ word.length ∧ (pickB word none (some (-size))).length = word.length - size.toNat := by
  obtain ⟨s, rfl⟩ := Int.eq_ofNat_of_zero_le (Int.le_trans (by decide) h)
  have hs : 0 < s := by omega
  unfold pickB
  simp only [Option.elim, List.length_take, List.length_drop, clipNeg _ _ hs, Int.toNat_natCast, Nat.min_self, Nat.sub_zero]
  exact ⟨by rw [Nat.sub_sub_eq_min]; exact Nat.min_le_right _ _, Nat.sub_le _ _, Nat.min_eq_left (Nat.sub_le _ _)⟩

theorem k_fallen (w : World) : (KF w).lookup 120 = some ⟨.type "function", none, .func (fdAt w 120), #[]⟩ := by kernel_rfl

noncomputable abbrev fσ (word : List UInt8) (size : Int) (fa da : Addr) : Vars := [("word", .bytes word.toArray), ("size", .int size), ("fallen", .ref fa), ("depth", .ref da)]

noncomputable abbrev cxF (prog : Program) (w : World) (n : Nat) (A : Around) (H : List Addr) (s : Shared) : Cx := cxOf false (KF w) prog w n A H (fdAt w 120) 120 s
/-- the two lists that the frame owns -/
inductive Two (h : Heap) (fa da : Addr) (st : List Int × List Int) : Prop
  | mk (vf : List Value) (hlf : h.PlainList fa vf.toArray) (hif : IntsAre vf st.1) (vd : List Value) (hld : h.IsList da vd.toArray) (hid : IntsAre vd st.2)
theorem Two.to {h h' : Heap} {fa da : Addr} {st : List Int × List Int} (x : Two h fa da st) (k1 : ∀ o, h.get? fa = some o → h'.get? fa = some o) (k2 : ∀ o, h.get? da = some o → h'.get? da = some o) : Two h' fa da st :=
  let ⟨vf, a, b, vd, a', b'⟩ := x; ⟨vf, a.at k1, b, vd, a'.at k2, b'⟩
theorem Two.fa_alive {h : Heap} {fa da : Addr} {st : List Int × List Int} (x : Two h fa da st) : ∃ o, h.get? fa = some o := let ⟨_, ⟨_, e⟩, _, _, _, _⟩ := x; ⟨_, e⟩
theorem Two.da_alive {h : Heap} {fa da : Addr} {st : List Int × List Int} (x : Two h fa da st) : ∃ o, h.get? da = some o := let ⟨_, _, _, _, ⟨_, e, _⟩, _⟩ := x; ⟨_, e⟩
inductive ColJ (σ₀ : Vars) (fa da Ia : Addr) (σ : Vars) (h : Heap) (st : List Int × List Int) : Prop
  | mk (hs : σ = σ₀) (T : Two h fa da st) (n1 : fa ≠ Ia) (n2 : da ≠ Ia)

set_option maxHeartbeats 8000000 in
/-- one turn of the consumer, after the generator has handed out the size -/
theorem fallen_body (prog : Program) (w : World) (n : Nat) (A : Around) (H : List Addr) (s S t2 : Shared) (word : List UInt8) (size : Int) (st : List Int × List Int) (fa da : Addr) (h2 : 2 ≤ size) (hs : size ≤ 100) (hw : st.1.length + word.length ≤ 1000) (hd : st.2.length = size.toNat)
    (hfd : fa ≠ da)
    (I : In ((cxF prog w n A H s).keep [fa, da] S) (("step", .int size) :: fσ word size fa da) t2) (T : Two t2.heap fa da st)
    (hfH : fa ∉ (cxF prog w n A H s).H) (hdH : da ∉ (cxF prog w n A H s).H) (Q : Flow → Shared → Prop)
    (kb : word.isEmpty = true → ∀ t, In ((cxF prog w n A H s).keep [fa, da] S) (("step", .int size) :: fσ word size fa da) t → Two t.heap fa da st → Q .brk t)
    (kn : word.isEmpty = false → ∀ t, In ((cxF prog w n A H s).keep [fa, da] S) (fσ (pickB word none (some (-size))) size fa da) t → Two t.heap fa da (colF size (pickB word (some (-size)) none) (pickB word (some (-size)) none).length st) → Q .next t) :
    wpAny (model prog w) (cxF prog w n A H s).A (execs (match bodyOf (fdAt w 120) with | [_, _, .For _ _ b _ _, _] => b | _ => []) (cxF prog w n A H s).env) Q (fun _ _ => False) t2 := by
  have hmf : fa ∉ (cxF prog w n A H s).m := fun q => hfH (I.sub _ q)
  have hmd : da ∉ (cxF prog w n A H s).m := fun q => hdH (I.sub _ q)
  have hLm : (cxF prog w n A H s).env.locals ∈ (cxF prog w n A H s).m := I.locals.1
  have hfL : fa ≠ (cxF prog w n A H s).env.locals := fun q => hmf (q ▸ hLm)
  have hdL : da ≠ (cxF prog w n A H s).env.locals := fun q => hmd (q ▸ hLm)
  have hnc : (cxF prog w n A H s).env.cells = [] := by rfl
  have ew : (word.toArray.toList == ([] : List UInt8).toArray.toList) = word.isEmpty := by cases word <;> rfl
  obtain ⟨p1, p2, p3⟩ := pick_lens word size h2
  have hs0 : ∀ a ∈ [fa, da], ((cxF prog w n A H s).keep [fa, da] S).s₀.heap.get? a = none := fun a ha => hideAll_none _ (List.mem_append.mpr (.inl ha))
  have Ib := I.base
  -- if word == b'': break
  refine x_if (c := Cx.base ((cxF prog w n A H s).keep [fa, da] S) t2) Ib (b := word.isEmpty) (tst_cmp (a := .bytes word.toArray) (b := .bytes ([] : List UInt8).toArray) (ew ▸ op_eqb) (ev_name rfl) ev_bytes) (fun hb t3 I3 => ?_) (fun hb t3 I3 => wpAny_execs_nil ?_)
  · exact x_break (c := Cx.base ((cxF prog w n A H s).keep [fa, da] S) t2) (kb hb t3 (I.unbase I3) (T.to (fun o e => I3.kept hmf e) fun o e => I3.kept hmd e))
  refine x_assign (c := Cx.base ((cxF prog w n A H s).keep [fa, da] S) t2) I3 (d := .bytes (pickB word (some (-size)) none).toArray) (ev_sliceb (a := some (-size)) (b := none) (ev_name rfl) (.some (ev_neg (ev_name rfl))) .none (by simp only [sizeLine]; omega)) (.inl rfl) fun t4 I4 => ?_
  refine x_assign (c := Cx.base ((cxF prog w n A H s).keep [fa, da] S) t2) I4 (d := .bytes (pickB word none (some (-size))).toArray) (ev_sliceb (a := none) (b := some (-size)) (ev_name rfl) .none (.some (ev_neg (ev_name rfl))) (by simp only [sizeLine]; omega)) (.inl rfl) fun t5 I5 => ?_
  have T5 : Two t5.heap fa da st := T.to (fun o e => I5.kept hmf e) fun o e => I5.kept hmd e
  generalize hpc : pickB word (some (-size)) none = piece at *
  generalize hwd : pickB word none (some (-size)) = word' at *
  have J5 := (I.unbase I5).sub' (σ' := ([("piece", .bytes piece.toArray), ("word", .bytes word'.toArray), ("size", .int size), ("fallen", .ref fa), ("depth", .ref da)] : Vars)) ⟨rfl, rfl, rfl, rfl, rfl, trivial⟩
  have hps : (piece.toArray.size : Int) = piece.length := by simp
  have lenE : ∀ {c' : Cx} {σ' : Vars} {p q : Pos}, c'.K = KF w → c'.env = (cxF prog w n A H s).env → True := fun _ _ => trivial
  refine x_for_own (c := Cx.keep (cxF prog w n A H s) [fa, da] S) J5 rfl (d := .range 0 piece.length 1) (n := piece.length) (it := fun j => .int (0 + (j : Int))) ?_ (fun s v I i => itr1_range I.amb.handled (by decide) (by decide) (by omega) (by omega) (by omega) i)
    (fun Ia i σ h => ColJ [("piece", .bytes piece.toArray), ("word", .bytes word'.toArray), ("size", .int size), ("fallen", .ref fa), ("depth", .ref da)] fa da Ia σ h (colF size piece i st)) ?_ ?_ ?_ ?_
  · refine ev_call_type rfl (by kernel_rfl) (T := "range") (by decide +kernel) (by decide) (ds := [.int piece.length]) (.cons ?_ .nil) fn_range1 (by simp) rfl
    refine ev_d ?_ (show D.int (piece.toArray.size : Nat) = _ by rw [hps])
    exact ev_call_builtin rfl (by kernel_rfl) (id := "len") (by decide +kernel) (by decide) (.cons (ev_name rfl) .nil) (fn_lenb (by simp; omega)) (by simp) rfl
  · intro Ia s' f hn
    refine ⟨rfl, T5.to (fun o e => f.ext _ _ e) (fun o e => f.ext _ _ e), fun q => ?_, fun q => ?_⟩
    · obtain ⟨o, e⟩ := T5.fa_alive; rw [q, hn] at e; cases e
    · obtain ⟨o, e⟩ := T5.da_alive; rw [q, hn] at e; cases e
  · rintro Ia i σ h h' ⟨e1, e2, e3, e4⟩ hk
    exact ⟨e1, e2.to (fun o e => hk _ _ e3 e) (fun o e => hk _ _ e4 e), e3, e4⟩
  · rintro i σ Ia t6 t7 hi ⟨rfl, T6, ne1, ne2⟩ hIaH It hb2 back
    have e0 : (0 : Int) + (i : Int) = i := by omega
    rw [e0] at It
    have T7 := T6.to (h' := t7.heap) (fun o e => (hb2 fa hfL).trans e) (fun o e => (hb2 da hdL).trans e)
    obtain ⟨q1, q2⟩ := colF_len size piece i st
    have hHf : fa ∉ Ia :: (cxF prog w n A H s).H := fun q => by
      rcases List.mem_cons.mp q with q | q
      · exact ne1 q
      · exact hfH q
    have hHd : da ∉ Ia :: (cxF prog w n A H s).H := fun q => by
      rcases List.mem_cons.mp q with q | q
      · exact ne2 q
      · exact hdH q
    have hCf : ∀ x b, (x, b) ∈ (cxF prog w n A H s).env.cells → b ≠ fa := fun x b hb' => by rw [hnc] at hb'; cases hb'
    have hCd : ∀ x b, (x, b) ∈ (cxF prog w n A H s).env.cells → b ≠ da := fun x b hb' => by rw [hnc] at hb'; cases hb'
    have kx : ((piece.length : Int) - 1 - (i : Int)).toNat = piece.length - 1 - i := by omega
    refine x_if (c := Cx.base (Cx.loose ((cxF prog w n A H s).keep [fa, da] S) Ia t6) t7) It.base (b := ((piece.getD (piece.length - 1 - i) 0).toNat : Int) == 66) (tst_cmp (a := .int ((piece.getD (piece.length - 1 - i) 0).toNat : Int)) (b := .int 66) op_eq ?_ ev_int) (fun hb' t8 I8 => ?_) (fun hb' t8 I8 => ?_)
    · refine ev_d (ev_itemb (b := piece) (k := (piece.length : Int) - 1 - (i : Int)) (ev_name rfl) (ev_bin op_sub (ev_bin op_sub ?_ ev_int) (ev_name rfl)) (by omega) (by omega) (by omega) (fun _ _ => rfl)) (by rw [kx])
      refine ev_d ?_ (show D.int (piece.toArray.size : Nat) = _ by rw [hps])
      exact ev_call_builtin rfl (by kernel_rfl) (id := "len") (by decide +kernel) (by decide) (.cons (ev_name rfl) .nil) (fn_lenb (by simp; omega)) (by simp) rfl
    · have J8 := It.unbase I8
      have T8 := T7.to (h' := t8.heap) (fun o e => I8.kept hmf e) (fun o e => I8.kept hmd e)
      obtain ⟨vf, hlf, hif, vd, hld, hid⟩ := T8
      have hldb : (hideAll t8.heap (cxF prog w n A H s).m).IsList da vd.toArray := let ⟨o, e, r⟩ := hld; ⟨o, hideAll_get _ e hmd, r⟩
      have hil : i < (colF size piece i st).2.length := by rw [q1, hd]; omega
      refine x_append (c := Cx.loose ((cxF prog w n A H s).keep [fa, da] S) Ia t6) J8 (d := .int ((i : Int) + size * (colF size piece i st).2.getD i 0)) (a := fa) (vs := vf) ?_ rfl hlf (by rw [hif.length]; simp only [sizeLine]; omega) (fun v t9 h9 f9 i9 hl9 hs9 => ?_) (by rfl) (by rfl) (by kernel_rfl) (by rfl) (by rfl)
      · refine ev_bin op_add (ev_name rfl) (ev_bin (op_mul (by omega)) (ev_name rfl) (ev_item (k := (i : Int)) (ev_own rfl hldb hHd hid) (ev_name rfl) (by omega) ?_ (by omega) (fun _ _ => rfl)))
        have := ints_get (ns := (colF size piece i st).2) (k := (i : Int)) (by omega) (by omega)
        simpa using this
      · obtain ⟨tv, rfl⟩ := i9.int_inv
        have J9 : In (((cxF prog w n A H s).keep [fa, da] S).loose Ia t6) _ { t9 with heap := h9, toks := t9.toks } :=
          (J8.to f9).updFlat (a := fa) (by rfl) (loose_none ne1 (hs0 fa List.mem_cons_self)) hfL hCf (fun b o hb e => (hs9.2 b hb).trans e) (let ⟨o, e⟩ := hl9; ⟨_, e⟩)
        have hld9 : h9.IsList da vd.toArray := let ⟨o, e, r⟩ := hld; ⟨o, (hs9.2 da (Ne.symm hfd)).trans (f9.ext _ _ e), r⟩
        refine x_augitem (c := Cx.loose ((cxF prog w n A H s).keep [fa, da] S) Ia t6) J9 (a := da) (vs := vd) (ns := (colF size piece i st).2) (k := (i : Int)) (m := 1) rfl rfl ev_int hld9 hid (by omega) (by omega) (by omega) fun t t10 h10 f10 hl10 hs10 => ?_
        have J10 : In (((cxF prog w n A H s).keep [fa, da] S).loose Ia t6) _ { t10 with heap := h10, toks := t10.toks } :=
          (J9.to f10).updFlat (a := da) (by rfl) (loose_none ne2 (hs0 da (List.mem_cons_of_mem _ List.mem_cons_self))) hdL hCd (fun b o hb e => (hs10.2 b hb).trans e) (let ⟨o, e, _⟩ := hl10; ⟨o, e⟩)
        have ec : colF size piece (i + 1) st = ((colF size piece i st).1 ++ [(i : Int) + size * (colF size piece i st).2.getD i 0], (colF size piece i st).2.set i ((colF size piece i st).2.getD i 0 + 1)) := by
          show colStep _ _ _ _ = _
          rw [colStep, if_pos hb']
        refine wpAny_execs_nil (wpAny_execs_nil ⟨_, ⟨rfl, ?_, ne1, ne2⟩, J10.sub' ⟨rfl, rfl, rfl, rfl, rfl, trivial⟩⟩)
        rw [ec]
        refine ⟨_, hl9.at fun o e => (hs10.2 fa hfd).trans (f10.ext _ _ e), ?_, _, hl10, ?_⟩
        · have : ∀ {vs : List Value} {ns : List Int} {k : Int} {t : Tok}, IntsAre vs ns → IntsAre (vs ++ [.int k t]) (ns ++ [k]) := by
            intro vs ns k t h
            induction h with
            | nil => exact .cons _ _ .nil
            | cons n t r ih => exact .cons _ _ ih
          exact this hif
        · have := intsAre_set i ((colF size piece i st).2.getD i 0 + 1) t hid
          simpa using this
    · have ec : colF size piece (i + 1) st = colF size piece i st := by
        show colStep _ _ _ _ = _
        rw [colStep, if_neg (by rw [hb']; decide)]
      refine wpAny_execs_nil (wpAny_execs_nil ⟨_, ⟨rfl, ?_, ne1, ne2⟩, (It.unbase I8).sub' ⟨rfl, rfl, rfl, rfl, rfl, trivial⟩⟩)
      rw [ec]
      exact T7.to (fun o e => I8.kept hmf e) (fun o e => I8.kept hmd e)
  · rintro Ia σ t ⟨rfl, T6, _, _⟩ It
    exact wpAny_execs_nil (kn hb _ (It.sub' ⟨rfl, rfl, rfl, rfl, trivial⟩) T6)


structure GenIn (prog : Program) (w : World) (A : Around) (size : Int) (hb hc : Heap) (a : Addr) (g k : Nat) (s : Shared) : Prop where
  isgen : s.heap.IsGen a g
  gs : ∃ (gs : GenState) (fp : List Addr), s.gens[g]? = some gs ∧ (∀ b ∈ fp, hc.get? b = none ∧ ∃ o, s.heap.get? b = some o) ∧
    (0 < k → ∀ s'', (∀ b ∈ fp, ∀ o, s.heap.get? b = some o → s''.heap.get? b = some o) → Ext hb s''.heap → (∀ b o, hc.get? b = some o → ∃ o', s''.heap.get? b = some o') →
      gs.Goes (model prog w) A.in1 Rno (Yp size hb hc) k (.send .none) s'')

theorem GenIn.to {prog : Program} {w : World} {A : Around} {size : Int} {hb hc : Heap} {a : Addr} {g k : Nat} {s s' : Shared} (x : GenIn prog w A size hb hc a g k s) (hg : s'.gens = s.gens)
    (ha : ∀ o, s.heap.get? a = some o → s'.heap.get? a = some o) (hk : ∀ b o, hc.get? b = none → s.heap.get? b = some o → s'.heap.get? b = some o) : GenIn prog w A size hb hc a g k s' where
  isgen := let ⟨o, nm, qn, e, r⟩ := x.isgen; ⟨o, nm, qn, ha o e, r⟩
  gs := by
    obtain ⟨gs, fp, e, hal, go⟩ := x.gs
    refine ⟨gs, fp, hg ▸ e, fun b hb => let ⟨p, o, q⟩ := hal b hb; ⟨p, o, hk b o p q⟩, fun hpos s'' k1 k2 k3 => go hpos s'' (fun b hb o q => k1 b hb o (hk b o (hal b hb).1 q)) k2 k3⟩

/-- one more from the generator -/
theorem GenIn.next {prog : Program} {w : World} {A : Around} {size : Int} {hb hc : Heap} {a : Addr} {g k : Nat} {s : Shared} {Q : Option Value → Shared → Prop} {E : Value → Shared → Prop} (x : GenIn prog w A size hb hc a g (k + 1) s) (hh : A.handled = none)
    (hl : s.heap.NoLimit) (hroom : A.depth < recursionLimit) (hx : Ext hb s.heap) (hcx : ∀ b o, hc.get? b = some o → ∃ o', s.heap.get? b = some o') (hac : ∃ o, hc.get? a = some o)
    (q : ∀ (t : Tok) (s' : Shared) (fp : List Addr), (∀ b ∈ fp, hc.get? b = none) → (∀ b o, b ∉ fp → s.heap.get? b = some o → s'.heap.get? b = some o) → s'.os = s.os → (∀ i, i ≠ g → s'.gens[i]? = s.gens[i]?) → (AllBare s.gens → AllBare s'.gens) →
      GenIn prog w A size hb hc a g k s' → Q (some (.int size t)) s') :
    wpAny (model prog w) A (pyNext (.ref a)) Q E s := by
  obtain ⟨ig, gs, fp, hgs, hal, go⟩ := x
  refine pyNext_genQ (P := fun _ _ _ => True) (Y := Yp size hb hc) (n := k + 1) hh hl hroom ig hgs (go (Nat.succ_pos _) (s.setGen g .running) (fun b _ o e => e) hx hcx) fun v s₁ gs' hbare hv => ?_
  obtain ⟨⟨t, rfl⟩, fp', hal', hk', hos, hge, hkap⟩ := hv
  have haf : a ∉ fp' := fun z => by obtain ⟨o, e⟩ := hac; rw [(hal' a z).1] at e; cases e
  have hg1 : (s₁.setGen g gs').gens = (s.gens.setIfInBounds g .running).setIfInBounds g gs' := by
    show s₁.gens.setIfInBounds g gs' = _
    rw [hge]; rfl
  have hin : g < s.gens.size := by
    obtain ⟨hi, _⟩ := Array.getElem?_eq_some_iff.mp hgs; exact hi
  refine q t (s₁.setGen g gs') fp' (fun b hb => (hal' b hb).1) (fun b o hb e => hk' b o hb e) hos (fun i hi => ?_) (fun hba => ?_) ⟨?_, gs', fp', ?_, hal', fun hpos s'' k1 k2 k3 => ?_⟩
  · rw [hg1, Array.getElem?_setIfInBounds_ne (Ne.symm hi), Array.getElem?_setIfInBounds_ne (Ne.symm hi)]
  · intro y hy
    rw [hg1] at hy
    obtain ⟨i, hi⟩ := Array.mem_iff_getElem?.mp hy
    by_cases e : i = g
    · subst e
      rw [Array.getElem?_setIfInBounds_self_of_lt (by simpa using hin)] at hi
      cases hi; exact hbare
    · rw [Array.getElem?_setIfInBounds_ne (Ne.symm e), Array.getElem?_setIfInBounds_ne (Ne.symm e)] at hi
      exact hba y (Array.mem_of_getElem? hi)
  · obtain ⟨o, nm, qn, e, r⟩ := ig
    exact ⟨o, nm, qn, hk' a o haf e, r⟩
  · rw [hg1, Array.getElem?_setIfInBounds_self_of_lt (by simpa using hin)]
  · exact hkap hpos s'' k1 k2



/-- what stands throughout the loop -/
structure FSt (c : Cx) (hc : Heap) (fa da a : Addr) (g : Nat) : Prop where
  cH : ∀ b ∈ c.H, ∃ o, hc.get? b = some o
  cs : ∀ b o, c.s₀.heap.get? b = some o → ∃ o, hc.get? b = some o
  cf : ∃ o, hc.get? fa = some o
  cd : ∃ o, hc.get? da = some o
  ca : ∃ o, hc.get? a = some o
  af : a ≠ fa
  ad : a ≠ da
  aH : a ∉ c.H
  gs : ∀ (i : Nat) (x : GenState), c.s₀.gens[i]? = some x → i ≠ g
  fr : ∀ z ∈ [fa, da], c.s₀.heap.get? z = none
inductive FInv (c : Cx) (size : Int) (hc : Heap) (fa da a : Addr) (g : Nat) (res : List Int) (k : Nat) (s' : Shared) : Prop
  | mk (wd : List UInt8) (st : List Int × List Int) (q1 : wd.length < k) (q1' : wd.length ≤ 900) (q2 : st.2.length = size.toNat) (q3 : st.1.length + wd.length ≤ 1000) (q4 : fallF size k wd st = res) (I : In c (fσ wd size fa da) s') (T : Two s'.heap fa da st)
      (G : GenIn c.prog c.w c.A size c.s₀.heap hc a g k s') (al : ∀ b o, hc.get? b = some o → ∃ o', s'.heap.get? b = some o')

theorem fallen_fin {c : Cx} (hpu : c.pure = false) {size : Int} {hc : Heap} {fa da a : Addr} {g : Nat} {res : List Int} (F : FSt c hc fa da a g) (h2 : 2 ≤ size) {k : Nat} {s6 s8 : Shared} {wd : List UInt8} {st : List Int × List Int} (q1 : wd.length < k + 1) (q1' : wd.length ≤ 900) (q2 : st.2.length = size.toNat)
    (q3 : st.1.length + wd.length ≤ 1000) (q4 : fallF size (k + 1) wd st = res) (I6 : In c (fσ wd size fa da) s6) (al6 : ∀ b o, hc.get? b = some o → ∃ o', s6.heap.get? b = some o') (G6 : GenIn c.prog c.w c.A size c.s₀.heap hc a g k s6) (hne : wd.isEmpty = false)
    (J8 : In (c.keep [fa, da] s6) (fσ (pickB wd none (some (-size))) size fa da) s8) (T8 : Two s8.heap fa da (colF size (pickB wd (some (-size)) none) (pickB wd (some (-size)) none).length st)) : FInv c size hc fa da a g res k s8 := by
  obtain ⟨r1, r2, r3⟩ := pick_lens wd size h2
  have hwl : 0 < wd.length := by
    cases wd with
    | nil => cases hne
    | cons _ _ => exact Nat.succ_pos _
  obtain ⟨c1, c2⟩ := colF_len size (pickB wd (some (-size)) none) (pickB wd (some (-size)) none).length st
  have kept : ∀ b o, b ∉ [fa, da] ++ c.m → s6.heap.get? b = some o → s8.heap.get? b = some o := fun b o hb e => J8.fut.ext b o (hideAll_get _ e hb)
  have hcm : ∀ b ∈ [fa, da] ++ c.m, ∃ o, hc.get? b = some o := fun b hb => by
    rcases List.mem_append.mp hb with hb | hb
    · rcases List.mem_cons.mp hb with rfl | hb
      · exact F.cf
      · rw [List.mem_singleton.mp hb]; exact F.cd
    · exact F.cH b (I6.sub b hb)
  have ham : a ∉ [fa, da] ++ c.m := fun hb => by
    rcases List.mem_append.mp hb with hb | hb
    · rcases List.mem_cons.mp hb with hb | hb
      · exact F.af hb
      · exact F.ad (List.mem_singleton.mp hb)
    · exact F.aH (I6.sub a hb)
  refine ⟨pickB wd none (some (-size)), colF size (pickB wd (some (-size)) none) (pickB wd (some (-size)) none).length st, by omega, by omega, c1.trans q2, by omega, ?_, I6.unkeep F.fr J8 hpu, T8, G6.to ?_ (fun o e => kept a o ham e) (fun b o hb e => kept b o (fun q => ?_) e), fun b o e => ?_⟩
  · rw [← q4, fallF, if_neg (by rw [hne]; decide)]
  · obtain ⟨h8, tk8, e8⟩ := J8.same rfl
    rw [e8]
  · obtain ⟨o', e'⟩ := hcm b q
    rw [hb] at e'; cases e'
  · by_cases hb : b ∈ [fa, da] ++ c.m
    · rcases List.mem_append.mp hb with hb | hb
      · rcases List.mem_cons.mp hb with rfl | hb
        · exact T8.fa_alive
        · rw [List.mem_singleton.mp hb]; exact T8.da_alive
      · exact J8.alive b (I6.sub b hb)
    · obtain ⟨o', e'⟩ := al6 b o e
      exact ⟨o', kept b o' hb e'⟩

set_option maxHeartbeats 8000000 in
theorem c_fallen (prog : Program) (w : World) (n : Nat) (word : List UInt8) (size : Int) (h2 : 2 ≤ size) (hs : size ≤ 100) (hw : word.length ≤ 900) :
    FnF (KF w) prog w (n + 2) (.ref 120) [.bytes word.toArray, .int size] (.ints (fallF size (word.length + 1) word ([], List.replicate size.toNat 0))) := by
  refine fn_ofF (ns := ["word", "size"]) (body := bodyOf (fdAt w 120)) (k_fallen w) (by kernel_rfl) (by kernel_rfl) (by kernel_rfl) (by kernel_rfl) ?_ (by kernel_rfl) (by kernel_rfl) (by kernel_rfl) (by kernel_rfl) (by decide +kernel) (of_k (by kernel_rfl)) (by kernel_rfl) rfl ?_
  · intro vs hv
    obtain ⟨x, y, rfl⟩ := len2 hv
    kernel_rfl
  · intro A H s s1 I
    refine x_new I (ds := []) (evn_list .nil rfl (by simp [sizeLine])) rfl fun fa vs t2 I2 hn2 hl2 ha2 keep2 => ?_
    cases ha2
    refine x_new I2 (ds := List.replicate size.toNat (.int 0)) (evn_mull (n := size) (ev_list (.cons ev_int .nil) rfl (by simp [sizeLine])) (ev_name rfl) (by omega) (by omega) (by omega)) rfl fun da vd t3 I3 hn3 hl3 ha3 keep3 => ?_
    have I3' : In (cxF prog w (n + 1) A H s) (fσ word size fa da) t3 := I3.sub' ⟨rfl, rfl, rfl, rfl, trivial⟩
    clear I3
    have hfL : fa ≠ (cxF prog w (n + 1) A H s).env.locals := fun q => by
      obtain ⟨o, e⟩ := I.alive _ (I.sub _ I.locals.1)
      rw [q] at hn2; rw [hn2] at e; cases e
    have hfH : fa ∉ (cxF prog w (n + 1) A H s).H := fun q => by obtain ⟨o, e⟩ := I.alive _ q; rw [hn2] at e; cases e
    have hdH : da ∉ (cxF prog w (n + 1) A H s).H := fun q => by obtain ⟨o, e⟩ := I2.alive _ q; rw [hn3] at e; cases e
    have hdL : da ≠ (cxF prog w (n + 1) A H s).env.locals := fun q => hdH (q ▸ I.sub _ I.locals.1)
    have hfd : fa ≠ da := fun q => by obtain ⟨nn, e⟩ := hl2; rw [q, hn3] at e; cases e
    have hf0 : s.heap.get? fa = none := none_at I.fut.ext hn2
    have hd0 : s.heap.get? da = none := none_at I2.fut.ext hn3
    have T3 : Two t3.heap fa da ([], List.replicate size.toNat 0) := by
      refine ⟨[], ?_, .nil, vd, hl3.isList, ?_⟩
      · obtain ⟨nn, e⟩ := hl2
        exact ⟨nn, keep3 _ _ hfL e⟩
      · refine IsAll.ints (h := hideAll t3.heap (cxF prog w (n + 1) A H s).H) ?_
        rw [List.map_replicate]
        exact ha3
    refine wpAny_execs_cons (wpAny_For (gen_call (c := cxF prog w (n + 1) A H s) I3' w rfl (by rfl) (by rfl) (Nat.succ_le_succ (Nat.zero_le n)) fun a L l t t' m s4 f4 hgens hgen hns hm hl hlL hal haL hL0 hl0 ha0 => ?_) (fun _ => by rfl))
    refine wpAny_pyIter_gen hgen ?_
    have I4 : In (cxF prog w (n + 1) A H s) (fσ word size fa da) s4 := I3'.toFut f4 rfl
    have T4 : Two s4.heap fa da ([], List.replicate size.toNat 0) := T3.to (fun o e => f4.ext _ _ e) (fun o e => f4.ext _ _ e)
    have hca : ∀ b, b ≠ L → b ≠ l → ∀ o, s4.heap.get? b = some o → (hideAll s4.heap [L, l]).get? b = some o := fun b h1 h2 o e => hideAll_get _ e fun q => by
      rcases List.mem_cons.mp q with q | q
      · exact h1 q
      · exact h2 (List.mem_singleton.mp q)
    generalize hhc : hideAll s4.heap [L, l] = hc at hca
    have hcx : ∀ b o, hc.get? b = some o → s4.heap.get? b = some o := fun b o e => by rw [← hhc] at e; exact of_hideAll _ e
    have hcL : hc.get? L = none := by rw [← hhc]; exact hideAll_none _ List.mem_cons_self
    have hcl : hc.get? l = none := by rw [← hhc]; exact hideAll_none _ (List.mem_cons_of_mem _ List.mem_cons_self)
    have hcA : ∀ b, (∃ o, t3.heap.get? b = some o) → ∃ o, hc.get? b = some o := fun b ⟨o, e⟩ => ⟨o, hca b (fun q => by rw [q, hL0] at e; cases e) (fun q => by rw [q, hl0] at e; cases e) o (f4.ext _ _ e)⟩
    have hcf : ∃ o, hc.get? fa = some o := hcA fa T3.fa_alive
    have hcd : ∃ o, hc.get? da = some o := hcA da T3.da_alive
    have hcH : ∀ b ∈ (cxF prog w (n + 1) A H s).H, ∃ o, hc.get? b = some o := fun b hb => hcA b (I3'.alive b hb)
    have hcs : ∀ b o, s.heap.get? b = some o → ∃ o, hc.get? b = some o := fun b o e => hcA b ⟨o, I3'.fut.ext _ _ e⟩
    have hcaa : ∃ o, hc.get? a = some o := by
      obtain ⟨o, nm, qn, e, r⟩ := hgen
      exact ⟨o, hca a haL hal o e⟩
    have haf : a ≠ fa := fun q => by obtain ⟨o, e⟩ := T3.fa_alive; rw [← q, ha0] at e; cases e
    have had : a ≠ da := fun q => by obtain ⟨o, e⟩ := T3.da_alive; rw [← q, ha0] at e; cases e
    have haH : a ∉ (cxF prog w (n + 1) A H s).H := fun q => by obtain ⟨o, e⟩ := I3'.alive a q; rw [ha0] at e; cases e
    have hgs : ∀ (i : Nat) (x : GenState), s.gens[i]? = some x → i ≠ t3.gens.size := fun i x e q => by
      have h1 := I3'.fut.gens i x e
      obtain ⟨hi, _⟩ := Array.getElem?_eq_some_iff.mp h1
      omega
    have gr0 : Gr (KF w) s.heap := I.gr
    have G4 : GenIn prog w (cxF prog w (n + 1) A H s).A size s.heap hc a t3.gens.size (word.length + 1) s4 := by
      refine ⟨hgen, .fresh (.func (bodyOf (fdAt w 108)) (gEnv w L)), [L, l], by rw [hgens]; simp, fun b hb => ?_, fun _ s'' k1 k2 k3 => ⟨rfl, ?_⟩⟩
      · rcases List.mem_cons.mp hb with rfl | hb
        · obtain ⟨o, _, _, e, _⟩ := hns; exact ⟨hcL, o, e⟩
        · rw [List.mem_singleton.mp hb]
          obtain ⟨o, e, _⟩ := hl; exact ⟨hcl, o, e⟩
      · refine gen_goes _ hcL gr0 (by omega) (by omega) word.length s'' m t t' l (hns.at' fun o q => k1 L List.mem_cons_self o q) hm (hl.at fun o q => k1 l (List.mem_cons_of_mem _ List.mem_cons_self) o q) hlL hcl k3 k2 ?_
        exact none_at I3'.fut.ext hL0
    have FF : FSt (cxF prog w (n + 1) A H s) hc fa da a t3.gens.size := ⟨hcH, hcs, hcf, hcd, hcaa, haf, had, haH, hgs, fun z hz => by
      rcases List.mem_cons.mp hz with rfl | hz
      · exact hf0
      · rw [List.mem_singleton.mp hz]; exact hd0⟩
    clear hcH hcs hcf hcd hcaa haf had haH hgs hf0 hd0
    refine codeAny_forLoop (FInv (cxF prog w (n + 1) A H s) size hc fa da a t3.gens.size (fallF size (word.length + 1) word ([], List.replicate size.toNat 0))) ?_ (word.length + 1)
      ⟨word, ([], List.replicate size.toNat 0), Nat.lt_succ_self _, hw, by simp, by simp; omega, rfl, I4, T4, G4, fun b o e => ⟨o, hcx b o e⟩⟩ (fun _ => by rfl)
    rintro k s5 ⟨wd, st, q1, q1', q2, q3, q4, I5, T5, G5, al5⟩
    obtain ⟨k, rfl⟩ : ∃ j, k = j + 1 := ⟨k - 1, by omega⟩
    refine G5.next I5.amb.handled I5.ground.nolimit I5.amb.room I5.fut.ext al5 FF.ca fun tk s6 fp p1 p2 p3 p4 p5 G6 => ?_
    have hff : ∀ b, (∃ o, hc.get? b = some o) → b ∉ fp := fun b ⟨o, e⟩ q => by rw [p1 b q] at e; cases e
    have I6 : In (cxF prog w (n + 1) A H s) (fσ wd size fa da) s6 := I5.gen rfl (by rfl) p2 (fun b hb => hff b (FF.cH b hb)) (fun b o e => hff b (FF.cs b o e)) p3 (fun i x e => (p4 i (FF.gs i x e)).trans (I5.fut.gens i x e)) p5
    have T6 : Two s6.heap fa da st := T5.to (fun o e => p2 _ _ (hff _ FF.cf) e) (fun o e => p2 _ _ (hff _ FF.cd) e)
    have al6 : ∀ b o, hc.get? b = some o → ∃ o', s6.heap.get? b = some o' := fun b o e => let ⟨o', e'⟩ := al5 b o e; ⟨o', p2 _ _ (hff b ⟨o, e⟩) e'⟩
    clear p1 p2 p3 p4 p5 hff I5 T5 G5 al5
    refine wpAny_assign_Name ((I6.keep FF.fr).store_local (c := (cxF prog w (n + 1) A H s).keep [fa, da] s6) (by rfl) (.int size tk) fun s7 I7 hb7 => ?_)
    have T7 : Two s7.heap fa da st := T6.to (fun o e => (hb7 _ hfL).trans e) (fun o e => (hb7 _ hdL).trans e)
    clear hb7 T6
    refine wpAny_mono (fallen_body prog w (n + 1) A H s s6 s7 wd size st fa da h2 hs q3 q2 hfd I7 T7 hfH hdH _ (fun hem s8 J8 T8 => ?_) fun hne s8 J8 T8 => ?_) (fun _ _ h => h) fun _ _ z => z.elim
    · have I8 := I6.unkeep FF.fr J8 rfl
      obtain ⟨vs, hlv, hiv, _, _, _⟩ := T8
      have hst : fallF size (word.length + 1) word ([], List.replicate size.toNat 0) = st.1 := by rw [← q4, fallF, if_pos hem]
      rw [hst]
      have hlb : ((cxF prog w (n + 1) A H s).base s8).s₀.heap.IsList fa vs.toArray := let ⟨nn, e⟩ := hlv; ⟨_, hideAll_get _ e fun q => hfH (I6.sub _ q), rfl, _, rfl⟩
      refine x_return (c := (cxF prog w (n + 1) A H s).base s8) I8.base (d := .ints st.1) (ev_own rfl hlb hfH hiv) fun v s9 I9 i9 => ?_
      exact ⟨v, rfl, (I8.unbase I9).fut, i9⟩
    · exact ⟨k, Nat.lt_succ_self k, fallen_fin (c := cxF prog w (n + 1) A H s) rfl FF h2 q1 q1' q2 q3 q4 I6 al6 G6 hne J8 T8⟩


noncomputable def lawT : Arguments × List Stmt × Scope := match PySem.Challenge.rw_wn0080_01.row.prog.theDef "law" with
  | some x => x
  | none => (⟨[], [], none, [], [], none, []⟩, [], ⟨.function, [], false, false, []⟩)
noncomputable abbrev lawFd (pm cd doc : Value) : FuncData := Calls.docDef "law" lawT.1 lawT.2.1 lawT.2.2 pm cd doc
noncomputable abbrev cxL (prog : Program) (w : World) (n : Nat) (A : Around) (H : List Addr) (pm cd doc : Value) (fa : Addr) (s : Shared) : Cx := cxOf false (KF w) prog w n A H (lawFd pm cd doc) fa s

section
variable {c : Cx} {σ : Vars} {s : Shared} {Q : Flow → Shared → Prop} {E : Value → Shared → Prop} {rest : List Stmt}
/-- x = [..], a list that the frame will change: it is hidden from the others' data -/
theorem x_newS {x : Str} {e : Expr} {p p' : Pos} {ds : List D} (I : In c σ s) (he : EvN c σ e ds) (hx : Sto c x)
    (k : ∀ l vs s', In (c.more l) ((x, .ref l) :: σ) s' → l ∉ c.H → c.s₀.heap.get? l = none → s'.heap.PlainList l vs.toArray → IsAll (hideAll s'.heap c.H) ds vs → wpAny (model c.prog c.w) c.A (execs rest c.env) Q E s')
    (hs : swapsWith e (some (.Name x p)) p'.line c.env = pure false := by rfl) :
    wpAny (model c.prog c.w) c.A (execs (.Assign [.Name x p] e p' :: rest) c.env) Q E s := by
  refine wpAny_execs_cons (wpAny_Assign_Name (he s I _ _ fun l vs s1 f1 hn hl ha => ?_) hs)
  obtain ⟨I1, hlH, hl0⟩ := I.ins f1 hn (let ⟨nn, e⟩ := hl; ⟨_, e⟩)
  have hL : l ≠ c.env.locals := fun q => hlH (q ▸ I.sub _ I.locals.1)
  have hx' : Sto (c.more l) x := hx
  have key : ∀ s', In (c.more l) ((x, .ref l) :: σ) s' → (∀ b, b ∉ c.m → s'.heap.get? b = s1.heap.get? b) → wpAny (model c.prog c.w) c.A (execs rest c.env) Q E s' := fun s' I' hb => by
    refine k l vs s' I' hlH hl0 (let ⟨nn, e⟩ := hl; ⟨nn, (hb l fun q => hlH (I.sub _ q)).trans e⟩) (ha.ext (hid_extBut fun b o hH e => (hb b fun q => hH (I.sub _ q)).trans e))
  rcases hx with hx | ⟨hx, a, hc, ha'⟩
  · exact I1.store_local (c := c.more l) hx (.ref l) fun s' I' hb => key s' I' fun b hb' => hb b fun q => hb' (q ▸ I.locals.1)
  · exact I1.store_cellD (c := c.more l) hx hc ha' (.ref l) fun s' I' hb => key s' I' fun b hb' => hb b fun q => hb' (q ▸ ha')

theorem In.own_done {x : Str} {a : Addr} {vs : List Value} {ns : List Int} (J : In (c.more a) σ s) (hm : ∀ b ∈ c.m, b ∈ c.H) (hc : ∀ x b, (x, b) ∈ c.env.cells → b ∈ c.H) (hx : σ.lookup x = some (.ref a)) (ha : a ∉ c.H) (hl : s.heap.IsList a vs.toArray) (hi : IntsAre vs ns) :
    In c ((x, .ints ns) :: σ) s := by
  have J1 := J.drop hm hc
  refine { J1 with vars := fun y d e => ?_ }
  rw [List.lookup_cons] at e
  cases hb : y == x with
  | true =>
    rw [hb] at e; cases e
    have := eq_of_beq hb; subst this
    obtain ⟨v, r, i⟩ := J1.vars y (.ref a) hx
    obtain rfl := i.ref_inv
    obtain ⟨o, e, r'⟩ := hl
    exact ⟨_, r, .list ⟨o, hideAll_get _ e ha, r'⟩ (IsAll.ofInts hi)⟩
  | false => rw [hb] at e; exact J1.vars y d e

theorem ev_last {x : Str} {p pos : Pos} {e : Expr} {a : Addr} {vs : List Value} {ns : List Int} (h : σ.lookup x = some (.ref a)) (hl : c.s₀.heap.IsList a vs.toArray) (hi : IntsAre vs ns) (he : Ev c σ e (.int (-1))) (hne : 0 < ns.length)
    (hs : ∀ o i, subscripted e false o i = operate [o, i] (getItem o i)) (hd : (x == ("__debug__" : Str)) = false := by decide) : Ev c σ (.Subscript (.Name x p) e pos) (.int (ns.getD (ns.length - 1) 0)) := fun s I Q E q =>
  Subscript_ (ev_name h hd s I _ _ fun v s1 f1 i1 => he s1 (I.to f1) _ _ fun u s2 f2 i2 => by
    obtain rfl := i1.ref_inv
    obtain ⟨t, rfl⟩ := i2.int_inv
    have hl' : s2.heap.IsList a vs.toArray := isList_ext ((I.to f1).to f2).fut.ext hl
    have hn : vs.length = ns.length := hi.length
    obtain ⟨tv, hv⟩ := ints_at hi (ns.length - 1) (by omega)
    have hk : ((-1 : Int) + (vs.toArray.size : Int)).toNat = ns.length - 1 := by rw [List.size_toArray, hn]; omega
    exact subscriptTail_builtin hl'.typeIs slot_list_getitem.lookup (wpAny_getItem_list_neg hl' (by decide) (by rw [List.size_toArray, hn]; omega) (by decide) (by rw [hk]; simpa using hv) (q _ _ (f1.trans f2) (.int _ _))) (hs _ _) (fun _ => rfl))
end

noncomputable abbrev startsL : List Int := [1, 1, 2, 1, 2, 1, 3]
noncomputable def dealtAt (xs : List Int) (k : Nat) : Int := startsL.getD k 0 + ((pickD xs (some (k : Int)) none (some 7)).map fun x => x.fmod 5040).sum
noncomputable def dealtF (xs : List Int) : List Int := (List.range 7).map (dealtAt xs)
theorem dealtF_len (xs : List Int) : (dealtF xs).length = 7 := by simp [dealtF]
theorem dealtF_at (xs : List Int) (k : Nat) (h : k < 7) : (dealtF xs).getD k 0 = dealtAt xs k := by simp [dealtF, List.getD, h]

section
variable (prog : Program) (w : World) (n : Nat) (A : Around) (H : List Addr) (pm cd doc : Value) (fa : Addr) (s : Shared)
set_option maxHeartbeats 4000000 in
theorem law_dealt {xs : List Int} {s₁ : Shared} {Q : Flow → Shared → Prop} {E : Value → Shared → Prop} (hx : xs.length ≤ 63) (I : In (cxL prog w n A H pm cd doc fa s) ([("script", .ints xs)] : Vars) s₁)
    (k : ∀ s', In (cxL prog w n A H pm cd doc fa s) ([("dealt", .ints (dealtF xs)), ("script", .ints xs)] : Vars) s' → wpAny (model prog w) (cxL prog w n A H pm cd doc fa s).A (execs (lawT.2.1.drop 1) (cxL prog w n A H pm cd doc fa s).env) Q E s') :
    wpAny (model prog w) (cxL prog w n A H pm cd doc fa s).A (execs lawT.2.1 (cxL prog w n A H pm cd doc fa s).env) Q E s₁ := by
  refine x_assign_enum (c := cxL prog w n A H pm cd doc fa s) (ds := startsL.map .int) I (.cons ev_int (.cons ev_int (.cons ev_int (.cons ev_int (.cons ev_int (.cons ev_int (.cons ev_int .nil))))))) (by rfl) (by kernel_rfl) (by decide +kernel) (by rfl) (by simp [sizeLine]) (by rfl)
    (scOk (by kernel_rfl) (by kernel_rfl) (by kernel_rfl) (by kernel_rfl) (by kernel_rfl)) (by kernel_rfl) (by kernel_rfl) (fun i => .int (dealtAt xs i)) ?_ (by rfl) ?_ (by rfl) (fun _ => by rfl)
  · intro i u I C Da s1 s2 hi hu
    have hi' : i < 7 := hi
    refine ev_bin op_add (a := .int (startsL.getD i 0)) (b := .int ((pickD xs (some (i : Int)) none (some 7)).map fun x => x.fmod 5040).sum) (ev_d (ev_name rfl) (getD_map D.int startsL 0 i hi)) ?_
    refine ev_call_builtin rfl (by kernel_rfl) (id := "sum") (by decide +kernel) (by decide) (ds := [.ints ((pickD xs (some (i : Int)) none (some 7)).map fun x => x.fmod 5040)]) (.cons ?_ .nil) fn_sum (by simp) rfl
    have lp := pickD_len xs (some (i : Int)) none (some 7)
    refine ev_ints ?_ (outs_f (fun x => x.fmod 5040) (pickD xs (some (i : Int)) none (some 7)))
    refine ev_comp (n := (pickD xs (some (i : Int)) none (some 7)).length) (d := .ints (pickD xs (some (i : Int)) none (some 7))) (ev_slice_ints (ev_name rfl) (.some (ev_name rfl)) .none (.some ev_int) (by decide) (by simp only [sizeLine]; omega)) (fun s v I i => itr_ints I.amb.handled i) (scOk (by kernel_rfl) (by kernel_rfl) (by kernel_rfl) (by kernel_rfl) (by kernel_rfl)) (run_1 (scOk (by kernel_rfl) (by kernel_rfl) (by kernel_rfl) (by kernel_rfl) (by kernel_rfl)) (by kernel_rfl) _ (by simp only [sizeLine]; omega) ?_)
    intro q I C Da s1 s2 hq
    exact ⟨true, tstl_nil, fun _ => ⟨_, ev_bin (op_mod (by decide)) (ev_name rfl) ev_int, rfl⟩, fun h => by cases h⟩
  · intro s' I'
    rw [show (startsL.map D.int).length = 7 from rfl, outs_ints] at I'
    exact k s' I'
end


noncomputable def sizeF (xs : List Int) : Int := 2 + (dealtAt xs 5).fmod 4
noncomputable def rowsF (xs : List Int) : Nat → List Int
  | 0 => [(dealtAt xs 0).fmod 3]
  | k + 1 => rowsF xs k ++ [(rowsF xs k).getD k 0 + (dealtAt xs (k + 1)).fmod 3]
theorem rowsF_len (xs : List Int) : ∀ k, (rowsF xs k).length = k + 1
  | 0 => rfl
  | k + 1 => by rw [rowsF, List.length_append, rowsF_len xs k]; rfl
noncomputable def placesI (xs : List Int) : List Int := (List.range 5).map fun (k : Nat) => (rowsF xs 4).getD k 0 + (k : Int)
theorem ints_snoc {vs : List Value} {ns : List Int} {k : Int} {t : Tok} (h : IntsAre vs ns) : IntsAre (vs ++ [.int k t]) (ns ++ [k]) := by
  induction h with
  | nil => exact .cons _ _ .nil
  | cons n t r ih => exact .cons _ _ ih

section
variable (prog : Program) (w : World) (n : Nat) (A : Around) (H : List Addr) (pm cd doc : Value) (fa : Addr) (s : Shared)
set_option maxHeartbeats 8000000 in
theorem law_rows {xs : List Int} {s₁ : Shared} {Q : Flow → Shared → Prop} {E : Value → Shared → Prop} (hx : xs.length ≤ 63) (I : In (cxL prog w n A H pm cd doc fa s) ([("dealt", .ints (dealtF xs)), ("script", .ints xs)] : Vars) s₁)
    (k : ∀ s', In (cxL prog w n A H pm cd doc fa s) ([("places", .ints (placesI xs)), ("rows", .ints (rowsF xs 4)), ("size", .int (sizeF xs)), ("dealt", .ints (dealtF xs)), ("script", .ints xs)] : Vars) s' → wpAny (model prog w) (cxL prog w n A H pm cd doc fa s).A (execs (lawT.2.1.drop 5) (cxL prog w n A H pm cd doc fa s).env) Q E s') :
    wpAny (model prog w) (cxL prog w n A H pm cd doc fa s).A (execs (lawT.2.1.drop 1) (cxL prog w n A H pm cd doc fa s).env) Q E s₁ := by
  have hcm : ∀ p ∈ (cxL prog w n A H pm cd doc fa s).env.cells, p.2 ∈ (cxL prog w n A H pm cd doc fa s).m := fun p hp => List.mem_cons_of_mem _ (List.mem_map_of_mem hp)
  have hdl : (dealtF xs).length = 7 := dealtF_len xs
  have hat : ∀ {k : Nat}, k < 7 → ((dealtF xs).map D.int)[((k : Nat) : Int).toNat]? = some (.int (dealtAt xs k)) := fun {k} hk => by
    have := ints_get (ns := dealtF xs) (k := (k : Int)) (by omega) (by omega)
    rw [this]
    congr 2
    rw [Int.toNat_natCast, dealtF_at xs k hk]
  refine x_assign (c := cxL prog w n A H pm cd doc fa s) I (d := .int (sizeF xs)) ?_ (sto_cell rfl rfl hcm) fun s2 I2 => ?_
  · exact ev_bin op_add ev_int (ev_bin (op_mod (by decide)) (ev_item (k := ((5 : Nat) : Int)) (ev_name rfl) ev_int (by decide) (hat (by decide)) (by decide) (fun _ _ => rfl)) ev_int)
  refine x_newS (c := cxL prog w n A H pm cd doc fa s) I2 (ds := [.int ((dealtAt xs 0).fmod 3)]) (evn_list (.cons ?_ .nil) rfl (by simp [sizeLine])) (sto_cell rfl rfl hcm) fun a vs s3 I3 haH ha0 hl3 ha3 => ?_
  · exact ev_bin (op_mod (by decide)) (ev_item (k := ((0 : Nat) : Int)) (ev_name rfl) ev_int (by decide) (hat (by decide)) (by decide) (fun _ _ => rfl)) ev_int
  have hi3 : IntsAre vs (rowsF xs 0) := IsAll.ints (h := hideAll s3.heap (cxL prog w n A H pm cd doc fa s).H) ha3
  have ham : a ∉ (cxL prog w n A H pm cd doc fa s).m := fun q => haH (I.sub _ q)
  have haL : a ≠ (cxL prog w n A H pm cd doc fa s).env.locals := fun q => ham (q ▸ I.locals.1)
  have haC : ∀ y b, (y, b) ∈ (cxL prog w n A H pm cd doc fa s).env.cells → b ≠ a := fun y b hb q => haH (q ▸ (I.cells y b hb).1)
  have I3' : In ((cxL prog w n A H pm cd doc fa s).more a) ([("rows", .ref a), ("size", .int (sizeF xs)), ("dealt", .ints (dealtF xs)), ("script", .ints xs)] : Vars) s3 := I3.sub' ⟨rfl, rfl, rfl, rfl, trivial⟩
  refine x_for_own (c := (cxL prog w n A H pm cd doc fa s).more a) I3' (by rfl) (d := .range 1 5 1) (n := 4) (it := fun j => .int (1 + (j : Int))) ?_ (fun s v I i => itr1_range I.amb.handled (by decide) (by decide) (by decide) (by decide) (by decide) i)
    (fun Ia i σ h => σ = ([("rows", .ref a), ("size", .int (sizeF xs)), ("dealt", .ints (dealtF xs)), ("script", .ints xs)] : Vars) ∧ (∃ vs : List Value, h.PlainList a vs.toArray ∧ IntsAre vs (rowsF xs i)) ∧ a ≠ Ia) ?_ ?_ ?_ ?_
  · exact ev_call_type rfl (by kernel_rfl) (T := "range") (by decide +kernel) (by decide) (ds := [.int 1, .int 5]) (.cons ev_int (.cons ev_int .nil)) fn_range2 (by simp) rfl
  · intro Ia s' f hn
    refine ⟨rfl, ⟨vs, let ⟨nn, e⟩ := hl3; ⟨nn, f.ext _ _ e⟩, hi3⟩, fun q => ?_⟩
    obtain ⟨nn, e⟩ := hl3; rw [q, hn] at e; cases e
  · rintro Ia i σ h h' ⟨e1, ⟨vs, ⟨nn, e⟩, r⟩, ne⟩ hk
    exact ⟨e1, ⟨vs, ⟨nn, hk _ _ ne e⟩, r⟩, ne⟩
  · rintro i σ Ia t1 t2 hi ⟨rfl, ⟨vs, hl, hiv⟩, ne⟩ hIaH It hb2 back
    have hl2 : t2.heap.PlainList a vs.toArray := let ⟨nn, e⟩ := hl; ⟨nn, (hb2 a haL).trans e⟩
    have hlb : (hideAll t2.heap (cxL prog w n A H pm cd doc fa s).m).IsList a vs.toArray := let ⟨nn, e⟩ := hl2; ⟨_, hideAll_get _ e ham, rfl, _, rfl⟩
    have hrl := rowsF_len xs i
    refine x_append (c := Cx.loose ((cxL prog w n A H pm cd doc fa s).more a) Ia t1) It (d := .int ((rowsF xs i).getD i 0 + (dealtAt xs (i + 1)).fmod 3)) (a := a) (vs := vs) ?_ rfl hl2 (by rw [hiv.length]; simp only [sizeLine]; omega) (fun v t9 h9 f9 i9 hl9 hs9 => ?_) (by rfl) (by rfl) (by kernel_rfl) (by rfl) (by rfl)
    · refine ev_bin op_add (a := .int ((rowsF xs i).getD i 0)) (ev_d (ev_last rfl hlb hiv (ev_neg ev_int) (by omega) (fun _ _ => rfl)) (by rw [hrl]; rfl)) (ev_bin (op_mod (by decide)) (ev_item (k := 1 + (i : Int)) (ev_name rfl) (ev_name rfl) (by omega) ?_ (by omega) (fun _ _ => rfl)) ev_int)
      have := hat (k := i + 1) (by omega)
      have e : ((i + 1 : Nat) : Int) = 1 + (i : Int) := by omega
      rw [e] at this
      exact this
    · obtain ⟨tv, rfl⟩ := i9.int_inv
      have J9 : In (((cxL prog w n A H pm cd doc fa s).more a).loose Ia t1) _ { t9 with heap := h9, toks := t9.toks } :=
        (It.to f9).upd (List.mem_cons_of_mem _ List.mem_cons_self) (loose_none ne ha0) haL haC (fun b o hb e => (hs9.2 b hb).trans e) (let ⟨o, e⟩ := hl9; ⟨_, e⟩)
      refine wpAny_execs_nil ⟨_, ⟨rfl, ⟨_, hl9, ?_⟩, ne⟩, J9.sub' ⟨rfl, rfl, rfl, rfl, trivial⟩⟩
      exact ints_snoc hiv
  · rintro Ia σ t ⟨rfl, ⟨vs, hl, hiv⟩, ne⟩ It
    have I4 : In (cxL prog w n A H pm cd doc fa s) (("rows", .ints (rowsF xs 4)) :: _) t := It.own_done (c := cxL prog w n A H pm cd doc fa s) I.sub (fun x b h => (I.cells x b h).1) rfl haH hl.isList hiv
    refine x_assign_comp (c := cxL prog w n A H pm cd doc fa s) (ds := (placesI xs).map .int) I4 (d := .range 0 5 1) (n := 5) (it := fun j => .int (j : Int)) ?_ (fun s v I i => itr_range1 I.amb.handled (by decide) (by decide) (by decide) i) (scOk (by kernel_rfl) (by kernel_rfl) (by kernel_rfl) (by kernel_rfl) (by kernel_rfl)) ?_ rfl ?_ rfl
    · exact ev_call_type rfl (by kernel_rfl) (T := "range") (by decide +kernel) (by decide) (ds := [.int 5]) (.cons ev_int .nil) fn_range1 (by simp) rfl
    · have e : (placesI xs).map D.int = outs (fun k => [D.int ((rowsF xs 4).getD k 0 + (k : Int))]) 5 := by
        rw [outs_map, placesI, List.map_map]; rfl
      rw [e]
      refine run_1 (scOk (by kernel_rfl) (by kernel_rfl) (by kernel_rfl) (by kernel_rfl) (by kernel_rfl)) (by kernel_rfl) _ (by simp [sizeLine]) ?_
      intro i I C Da s1 s2 hi
      refine ⟨true, tstl_nil, fun _ => ⟨_, ?_, rfl⟩, fun h => by cases h⟩
      have hrl := rowsF_len xs 4
      refine ev_bin op_add (ev_item (k := (i : Int)) (ev_name rfl) (ev_name rfl) (by omega) ?_ (by omega) (fun _ _ => rfl)) (ev_name rfl)
      have := ints_get (ns := rowsF xs 4) (k := (i : Int)) (by omega) (by omega)
      simpa using this
    · intro s5 I5
      exact k s5 (I5.sub' ⟨rfl, rfl, rfl, rfl, rfl, trivial⟩)
end


noncomputable def turnsF (xs : List Int) : List Int := (pickD xs none (some 24) none).map (fun x => x.fmod 5040) ++ [dealtAt xs 6, 1]
noncomputable def restI (left : List Int) : List Int := (List.range 5).map fun (k : Nat) => left.getD (4 - k) 0 + (k : Int)

section
variable (prog : Program) (w : World) (n : Nat) (A : Around) (H : List Addr) (pm cd doc : Value) (fa : Addr) (s : Shared)
set_option maxHeartbeats 8000000 in
theorem law_bared {xs : List Int} {s₁ : Shared} {Q : Flow → Shared → Prop} {E : Value → Shared → Prop} (hx : xs.length ≤ 63) (I : In (cxL prog w (n + 3) A H pm cd doc fa s) ([("places", .ints (placesI xs)), ("rows", .ints (rowsF xs 4)), ("size", .int (sizeF xs)), ("dealt", .ints (dealtF xs)), ("script", .ints xs)] : Vars) s₁)
    (G : List Int → Prop) (g0 : G (rowsF xs 4).reverse) (gg : ∀ rs, G rs → Good rs) (gs : ∀ rs p, G rs → p ∈ foundOf rs (sizeF xs) → G (stepOf rs p)) (f : Nat) (out : List Int × Int × Int) (hrun : bareF (sizeF xs) (turnsF xs) f (rowsF xs 4).reverse 0 0 = some out) (hol : out.1.length = 5)
    (k : ∀ s', In (cxL prog w (n + 3) A H pm cd doc fa s) ([("rest", .ints (restI out.1)), ("places", .ints (placesI xs)), ("size", .int (sizeF xs)), ("taken", .int out.2.1), ("legs", .int out.2.2)] : Vars) s' → wpAny (model prog w) (cxL prog w (n + 3) A H pm cd doc fa s).A (execs (lawT.2.1.drop 7) (cxL prog w (n + 3) A H pm cd doc fa s).env) Q E s') :
    wpAny (model prog w) (cxL prog w (n + 3) A H pm cd doc fa s).A (execs (lawT.2.1.drop 5) (cxL prog w (n + 3) A H pm cd doc fa s).env) Q E s₁ := by
  have hcm : ∀ p ∈ (cxL prog w (n + 3) A H pm cd doc fa s).env.cells, p.2 ∈ (cxL prog w (n + 3) A H pm cd doc fa s).m := fun p hp => List.mem_cons_of_mem _ (List.mem_map_of_mem hp)
  have hdl : (dealtF xs).length = 7 := dealtF_len xs
  have hrl := rowsF_len xs 4
  have lp := pickD_len xs none (some 24) none
  have htl : (turnsF xs).length = (pickD xs none (some 24) none).length + 2 := by simp [turnsF]
  have hat : ∀ {k : Nat}, k < 7 → ((dealtF xs).map D.int)[((k : Nat) : Int).toNat]? = some (.int (dealtAt xs k)) := fun {k} hk => by
    have := ints_get (ns := dealtF xs) (k := (k : Int)) (by omega) (by omega)
    rw [this]
    congr 2
    rw [Int.toNat_natCast, dealtF_at xs k hk]
  refine x_unpack3 (c := cxL prog w (n + 3) A H pm cd doc fa s) I (d1 := .ints out.1) (d2 := .int out.2.1) (d3 := .int out.2.2) ?_ (sto_cell rfl rfl hcm) (.inl rfl) (.inl rfl) fun s2 I2 => ?_
  · refine ev_call_def (f := 113) rfl (by kernel_rfl) (by kernel_rfl) (ds := [.ints (rowsF xs 4).reverse, .int (sizeF xs), .ints (turnsF xs)]) (.cons ?_ (.cons (ev_name rfl) (.cons ?_ .nil))) (c_bare prog w (n + 2) _ _ _ G g0 gg gs (by omega) (by omega) f out hrun) (by simp) rfl
    · rw [← pickD_rev]
      exact ev_slice_ints (ev_name rfl) .none .none (.some (ev_neg ev_int)) (by decide) (by simp only [sizeLine]; omega)
    · refine ev_bin (op_addi ?_) ?_ (ev_list (ds := [.int (dealtAt xs 6), .int 1]) (.cons (ev_item (k := ((6 : Nat) : Int)) (ev_name rfl) ev_int (by decide) (hat (by decide)) (by decide) (fun _ _ => rfl)) (.cons ev_int .nil)) rfl (by simp [sizeLine]))
      · simp only [List.length_map, List.length_cons, List.length_nil, sizeLine]; omega
      · refine ev_ints ?_ (outs_f (fun x => x.fmod 5040) (pickD xs none (some 24) none))
        refine ev_comp (n := (pickD xs none (some 24) none).length) (d := .ints (pickD xs none (some 24) none)) (ev_slice_ints (ev_name rfl) .none (.some ev_int) .none (by decide) (by simp only [sizeLine]; omega)) (fun s v I i => itr_ints I.amb.handled i) (scOk (by kernel_rfl) (by kernel_rfl) (by kernel_rfl) (by kernel_rfl) (by kernel_rfl)) (run_1 (scOk (by kernel_rfl) (by kernel_rfl) (by kernel_rfl) (by kernel_rfl) (by kernel_rfl)) (by kernel_rfl) _ (by simp only [sizeLine]; omega) ?_)
        intro q I C Da s1 s2 hq
        exact ⟨true, tstl_nil, fun _ => ⟨_, ev_bin (op_mod (by decide)) (ev_name rfl) ev_int, rfl⟩, fun h => by cases h⟩
  refine x_assign (c := cxL prog w (n + 3) A H pm cd doc fa s) I2 (d := .ints (restI out.1)) ?_ (sto_cell rfl rfl hcm) fun s3 I3 => ?_
  · have e : D.ints (restI out.1) = .list (outs (fun k => [D.int (out.1.getD (4 - k) 0 + (k : Int))]) 5) := (outs_ints 5).symm
    rw [e]
    refine ev_comp (d := .range 0 5 1) (n := 5) (it := fun j => .int (j : Int)) ?_ (fun s v I i => itr_range1 I.amb.handled (by decide) (by decide) (by decide) i) (scOk (by kernel_rfl) (by kernel_rfl) (by kernel_rfl) (by kernel_rfl) (by kernel_rfl)) (run_1 (scOk (by kernel_rfl) (by kernel_rfl) (by kernel_rfl) (by kernel_rfl) (by kernel_rfl)) (by kernel_rfl) _ (by simp [sizeLine]) ?_)
    · exact ev_call_type rfl (by kernel_rfl) (T := "range") (by decide +kernel) (by decide) (ds := [.int 5]) (.cons ev_int .nil) fn_range1 (by simp) rfl
    · intro i I C Da s1 s2 hi
      refine ⟨true, tstl_nil, fun _ => ⟨_, ?_, rfl⟩, fun h => by cases h⟩
      refine ev_bin op_add (ev_item (k := 4 - (i : Int)) (ev_name rfl) (ev_bin op_sub ev_int (ev_name rfl)) (by omega) ?_ (by omega) (fun _ _ => rfl)) (ev_name rfl)
      have := ints_get (ns := out.1) (k := 4 - (i : Int)) (by omega) (by omega)
      rw [this, show (4 - (i : Int)).toNat = 4 - i by omega]
  · exact k s3 (I3.sub' ⟨rfl, rfl, rfl, rfl, rfl, trivial⟩)
end


noncomputable def pow16 (ns : List Int) : Int := (ns.map fun p => (16 : Int) ^ p.toNat).sum
theorem tst_neb {c : Cx} {σ : Vars} {l r : Expr} {p : Pos} {x y : Array UInt8} (e : x.toList = y.toList) (h1 : Ev c σ l (.bytes x)) (h2 : Ev c σ r (.bytes y)) (hm : behindInMarks .NotEq r = false := by with_unfolding_all rfl) : Tst c σ (.Compare l [.NotEq] [r] p) false := by
  have := op_neb (c := c) (a := x) (b := y)
  rw [show (x.toList != y.toList) = false by rw [e]; simp] at this
  exact tst_cmp this h1 h2 hm
theorem tst_ne {c : Cx} {σ : Vars} {l r : Expr} {p : Pos} {x y : Int} {t : Bool} (e : (x != y) = t) (h1 : Ev c σ l (.int x)) (h2 : Ev c σ r (.int y)) (hm : behindInMarks .NotEq r = false := by with_unfolding_all rfl) : Tst c σ (.Compare l [.NotEq] [r] p) t := by
  have := op_ne (c := c) (a := x) (b := y)
  rw [e] at this
  exact tst_cmp this h1 h2 hm

section
variable (prog : Program) (w : World) (n : Nat) (A : Around) (H : List Addr) (pm cd doc : Value) (fa : Addr) (s : Shared)
set_option maxHeartbeats 8000000 in
theorem law_words {s₁ : Shared} {Q : Flow → Shared → Prop} {E : Value → Shared → Prop} (pl rs fl : List Int) (sz : Int) (taken legs : Int) (M M' f f' : Nat) (h2 : 2 ≤ sz) (hs : sz ≤ 100) (hpl : pl.length ≤ 100) (hfl : fl.length ≤ 100)
    (hpb : ∀ p ∈ pl, 0 ≤ p ∧ p ≤ 1000) (hfb : ∀ p ∈ fl, 0 ≤ p ∧ p ≤ 1000) (hM : M ≤ 800) (hm : (M : Int) ∈ pl) (hmx : ∀ a ∈ pl, a ≤ (M : Int)) (hM' : M' ≤ 800) (hm' : (M' : Int) ∈ rs) (hmx' : ∀ a ∈ rs, a ≤ (M' : Int))
    (hf : (pow16 pl).natAbs < 16 ^ f) (hf1 : f ≤ 900) (heq : apF f (pow16 pl).natAbs [] = (byteArr (wordOf M pl)).toList) (hf' : (pow16 fl).natAbs < 16 ^ f') (hf1' : f' ≤ 900) (heq' : apF f' (pow16 fl).natAbs [] = (byteArr (wordOf M' rs)).toList)
    (hlen : (apF f (pow16 pl).natAbs []).length ≤ 900) (hfall : fallF sz ((apF f (pow16 pl).natAbs []).length + 1) (apF f (pow16 pl).natAbs []) ([], List.replicate sz.toNat 0) = fl)
    (I : In (cxL prog w (n + 3) A H pm cd doc fa s) ([("rest", .ints rs), ("places", .ints pl), ("size", .int sz), ("taken", .int taken), ("legs", .int legs)] : Vars) s₁)
    (k : ∀ s', In (cxL prog w (n + 3) A H pm cd doc fa s) ([("fallen", .ints fl), ("rest", .ints rs), ("places", .ints pl), ("size", .int sz), ("taken", .int taken), ("legs", .int legs)] : Vars) s' → wpAny (model prog w) (cxL prog w (n + 3) A H pm cd doc fa s).A (execs (lawT.2.1.drop 11) (cxL prog w (n + 3) A H pm cd doc fa s).env) Q E s') :
    wpAny (model prog w) (cxL prog w (n + 3) A H pm cd doc fa s).A (execs (lawT.2.1.drop 7) (cxL prog w (n + 3) A H pm cd doc fa s).env) Q E s₁ := by
  have hcm : ∀ p ∈ (cxL prog w (n + 3) A H pm cd doc fa s).env.cells, p.2 ∈ (cxL prog w (n + 3) A H pm cd doc fa s).m := fun p hp => List.mem_cons_of_mem _ (List.mem_map_of_mem hp)
  -- word = Int2AP(sum([16 ** place for place in places]))
  refine x_assign (c := cxL prog w (n + 3) A H pm cd doc fa s) I (d := .bytes (apF f (pow16 pl).natAbs []).toArray) ?_ (.inl rfl) fun s2 I2 => ?_
  · refine ev_call_def (f := 94) rfl (by kernel_rfl) (by kernel_rfl) (ds := [.int (pow16 pl)]) (.cons ?_ .nil) (c_int2ap prog w (n + 2) _ f hf (by omega)) (by simp) rfl
    refine ev_call_builtin rfl (by kernel_rfl) (id := "sum") (by decide +kernel) (by decide) (ds := [.ints (pl.map fun p => (16 : Int) ^ p.toNat)]) (.cons ?_ .nil) fn_sum (by simp) rfl
    refine ev_ints ?_ (outs_f (fun p => (16 : Int) ^ p.toNat) pl)
    refine ev_comp (n := pl.length) (d := .ints pl) (ev_name rfl) (fun s v I i => itr_ints I.amb.handled i) (scOk (by kernel_rfl) (by kernel_rfl) (by kernel_rfl) (by kernel_rfl) (by kernel_rfl)) (run_1 (scOk (by kernel_rfl) (by kernel_rfl) (by kernel_rfl) (by kernel_rfl) (by kernel_rfl)) (by kernel_rfl) _ (by simp only [sizeLine]; omega) ?_)
    intro q I C Da s1 s2 hq
    have hb := hpb _ (getD_mem' (x := 0) hq)
    exact ⟨true, tstl_nil, fun _ => ⟨_, ev_bin (op_pow hb.1 (by omega) (by decide)) ev_int (ev_name rfl), rfl⟩, fun h => by cases h⟩
  refine x_if (c := cxL prog w (n + 3) A H pm cd doc fa s) I2 (b := false) (tst_neb (x := (apF f (pow16 pl).natAbs []).toArray) (y := byteArr (wordOf M pl)) heq (ev_name rfl) ?_) (fun h => by cases h) (fun _ s3 I3 => wpAny_execs_nil ?_)
  · exact ev_call_def (f := 125) rfl (by kernel_rfl) (by kernel_rfl) (ds := [.ints pl]) (.cons (ev_name rfl) .nil) (c_word prog w (n + 2) pl M (by omega) hm hmx) (by simp) rfl
  refine x_assign_callF (c := cxL prog w (n + 3) A H pm cd doc fa s) I3 rfl rfl (by kernel_rfl) (by kernel_rfl) (ds := [.bytes (apF f (pow16 pl).natAbs []).toArray, .int sz]) (.cons (ev_name rfl) (.cons (ev_name rfl) .nil)) (c_fallen prog w (n + 1) _ sz h2 hs hlen) (by simp) rfl (.inl rfl) (fun s4 I4 => ?_) rfl
  rw [hfall] at I4
  refine x_if (c := cxL prog w (n + 3) A H pm cd doc fa s) I4 (b := false) (tst_neb (x := (apF f' (-(pow16 fl)).natAbs []).toArray) (y := byteArr (wordOf M' rs)) (by rw [Int.natAbs_neg]; exact heq') ?_ ?_) (fun h => by cases h) (fun _ s5 I5 => wpAny_execs_nil ?_)
  · refine ev_call_def (f := 94) rfl (by kernel_rfl) (by kernel_rfl) (ds := [.int (-(pow16 fl))]) (.cons (ev_neg ?_) .nil) (c_int2ap prog w (n + 2) _ f' (by rw [Int.natAbs_neg]; exact hf') (by omega)) (by simp) rfl
    refine ev_call_builtin rfl (by kernel_rfl) (id := "sum") (by decide +kernel) (by decide) (ds := [.ints (fl.map fun p => (16 : Int) ^ p.toNat)]) (.cons ?_ .nil) fn_sum (by simp) rfl
    refine ev_ints ?_ (outs_f (fun p => (16 : Int) ^ p.toNat) fl)
    refine ev_comp (n := fl.length) (d := .ints fl) (ev_name rfl) (fun s v I i => itr_ints I.amb.handled i) (scOk (by kernel_rfl) (by kernel_rfl) (by kernel_rfl) (by kernel_rfl) (by kernel_rfl)) (run_1 (scOk (by kernel_rfl) (by kernel_rfl) (by kernel_rfl) (by kernel_rfl) (by kernel_rfl)) (by kernel_rfl) _ (by simp only [sizeLine]; omega) ?_)
    intro q I C Da s1 s2 hq
    have hb := hfb _ (getD_mem' (x := 0) hq)
    exact ⟨true, tstl_nil, fun _ => ⟨_, ev_bin (op_pow hb.1 (by omega) (by decide)) ev_int (ev_name rfl), rfl⟩, fun h => by cases h⟩
  · exact ev_call_def (f := 125) rfl (by kernel_rfl) (by kernel_rfl) (ds := [.ints rs]) (.cons (ev_name rfl) .nil) (c_word prog w (n + 2) rs M' (by omega) hm' hmx') (by simp) rfl
  exact k s5 (I5.sub' ⟨rfl, rfl, rfl, rfl, rfl, rfl, trivial⟩)
end


noncomputable abbrev casts (l : List Nat) : List Int := l.map fun p : Nat => (p : Int)
noncomputable abbrev wsO (pl : List Nat) (by' : Nat) : List Int × Nat × Int := wsF (leadL pl by') [] 0 0
noncomputable abbrev wsD (pl : List Nat) (by' : Nat) : D := .ws (wsO pl by').1 ((wsO pl by').2.1 : Nat) (wsO pl by').2.2
noncomputable def indW (pl : List Nat) (by' : Nat) (tab : Int) : Int := indentOf (wsO pl by').1 ((wsO pl by').2.1 : Nat) (wsO pl by').2.2 tab
noncomputable def alikeN (rs : List Int) (sz : Int) : Nat := (outs (fun k => outs (fun i => if ((rs.getD k 0 - rs.getD i 0).fmod sz == 0) = true then [D.int (k : Int)] else []) k) 5).length
theorem wsF_le (m : Nat) : ∀ (l : List Nat) (c : List Int) (b : Nat) (nt : Int), c.length ≤ m → b + l.length < m → (wsF l c b nt).1.length ≤ m
  | [], c, b, nt, h, _ => h
  | ch :: r, c, b, nt, h, h' => by
    rw [List.length_cons, ← Nat.add_assoc] at h'
    rw [wsF]
    split
    · exact wsF_le m r c (b + 1) nt h (by rw [Nat.add_right_comm]; exact h')
    · refine wsF_le m r (bumpL c b) 0 (nt + 1) ?_ ?_
      · rw [bumpL_len]
        exact Nat.le_trans (growL_len c b).2 (Nat.max_le.mpr ⟨h, Nat.le_trans (Nat.succ_le_succ (Nat.le_add_right b r.length)) (Nat.le_of_lt h')⟩)
      · rw [Nat.zero_add]; exact Nat.lt_of_le_of_lt (Nat.le_add_left _ b) (Nat.lt_of_succ_lt h')

section
variable (prog : Program) (w : World) (n : Nat) (A : Around) (H : List Addr) (pm cd doc : Value) (fa : Addr) (s : Shared)
set_option maxHeartbeats 8000000 in
theorem law_leads {s₁ : Shared} {Q : Flow → Shared → Prop} {E : Value → Shared → Prop} (pl rs : List Nat) (fl : List Int) (sz tk : Nat) (legs : Int) (h2 : 2 ≤ sz) (hs : sz ≤ 100) (htk : tk ≤ 100) (hrs5 : rs.length = 5)
    (la : (leadL pl 0).length ≤ 250) (lb : (leadL rs (sz * tk)).length ≤ 250) (na : pl.length ≤ 250) (pa : ∀ p ∈ pl, p ≤ 250) (pb : ∀ p ∈ rs, p ≤ 250)
    (e1 : indW rs (sz * tk) (sz : Int) = (sz : Int) * ((tk : Int) + 5 + (alikeN (casts rs) sz : Int)))
    (e2 : ∀ t : Nat, 1 ≤ t → t ≤ sz → sz % t = 0 → indW pl 0 (t : Int) = indW rs (sz * tk) (t : Int))
    (I : In (cxL prog w (n + 3) A H pm cd doc fa s) ([("fallen", .ints fl), ("rest", .ints (casts rs)), ("places", .ints (casts pl)), ("size", .int sz), ("taken", .int tk), ("legs", .int legs)] : Vars) s₁)
    (k : ∀ s', In (cxL prog w (n + 3) A H pm cd doc fa s) ([("fallen", .ints fl), ("places", .ints (casts pl)), ("legs", .int legs)] : Vars) s' → wpAny (model prog w) (cxL prog w (n + 3) A H pm cd doc fa s).A (execs (lawT.2.1.drop 16) (cxL prog w (n + 3) A H pm cd doc fa s).env) Q E s') :
    wpAny (model prog w) (cxL prog w (n + 3) A H pm cd doc fa s).A (execs (lawT.2.1.drop 11) (cxL prog w (n + 3) A H pm cd doc fa s).env) Q E s₁ := by
  have hcm : ∀ p ∈ (cxL prog w (n + 3) A H pm cd doc fa s).env.cells, p.2 ∈ (cxL prog w (n + 3) A H pm cd doc fa s).m := fun p hp => List.mem_cons_of_mem _ (List.mem_map_of_mem hp)
  have hcl : (casts rs).length = 5 := by rw [List.length_map, hrs5]
  have wla : (wsO pl 0).1.length ≤ 1000 := wsF_le 1000 _ _ _ _ (Nat.zero_le _) (by omega)
  have wlb : (wsO rs (sz * tk)).1.length ≤ 1000 := wsF_le 1000 _ _ _ _ (Nat.zero_le _) (by omega)
  refine x_assign (c := cxL prog w (n + 3) A H pm cd doc fa s) I (d := wsD pl 0) ?_ (.inl rfl) fun s2 I2 => ?_
  · exact ev_call_def (f := 130) rfl (by kernel_rfl) (by kernel_rfl) (ds := [.ints (casts pl), .int ((0 : Nat) : Int)]) (.cons (ev_name rfl) (.cons ev_int .nil)) (c_lead prog w n pl 0 la na pa) (by simp) rfl
  refine x_assign (c := cxL prog w (n + 3) A H pm cd doc fa s) I2 (d := wsD rs (sz * tk)) ?_ (.inl rfl) fun s3 I3 => ?_
  · refine ev_call_def (f := 130) rfl (by kernel_rfl) (by kernel_rfl) (ds := [.ints (casts rs), .int ((sz * tk : Nat) : Int)]) (.cons (ev_name rfl) (.cons ?_ .nil)) (c_lead prog w n rs (sz * tk) lb (by omega) pb) (by simp) rfl
    exact ev_d (ev_bin (op_mul (a := (sz : Int)) (b := (tk : Int)) (by omega)) (ev_name rfl) (ev_name rfl)) (by rw [Int.natCast_mul])
  refine x_assign (c := cxL prog w (n + 3) A H pm cd doc fa s) I3 (d := .int (alikeN (casts rs) sz : Nat)) ?_ (.inl rfl) fun s4 I4 => ?_
  · refine ev_call_builtin rfl (by kernel_rfl) (id := "len") (by decide +kernel) (by decide) (.cons ?_ .nil) (fn_len (ds := outs (fun k => outs (fun i => if (((casts rs).getD k 0 - (casts rs).getD i 0).fmod sz == 0) = true then [D.int (k : Int)] else []) k) 5) ?_) (by simp) rfl
    · refine ev_comp (d := .range 0 5 1) (n := 5) (it := fun j => .int (j : Int)) ?_ (fun s v I i => itr_range1 I.amb.handled (by decide) (by decide) (by decide) i) (scOk (by kernel_rfl) (by kernel_rfl) (by kernel_rfl) (by kernel_rfl) (by kernel_rfl))
        (run_2 (n2 := fun k => k) (it2 := fun _ j => .int (j : Int)) (d2 := fun k => .range 0 (k : Int) 1) (scOk (by kernel_rfl) (by kernel_rfl) (by kernel_rfl) (by kernel_rfl) (by kernel_rfl)) (by kernel_rfl) (by kernel_rfl) (by decide) (fun k i => if (((casts rs).getD k 0 - (casts rs).getD i 0).fmod sz == 0) = true then [D.int (k : Int)] else []) 5 (by decide) (fun i hi => by omega) ?_ ?_ (fun _ _ => rfl) ?_)
      · exact ev_call_type rfl (by kernel_rfl) (T := "range") (by decide +kernel) (by decide) (ds := [.int 5]) (.cons ev_int .nil) fn_range1 (by simp) rfl
      · intro i I C Da s1 s2 hi
        exact ev_call_type rfl (by kernel_rfl) (T := "range") (by decide +kernel) (by decide) (ds := [.int (i : Int)]) (.cons (ev_name rfl) .nil) fn_range1 (by simp) rfl
      · intro i I C Da s1 s2 s v hi I i
        exact itr_range1 I.amb.handled (by omega) (by omega) (by omega) i
      · intro i j I C Da s1 s2 I2 s3 hi hj
        refine ⟨((casts rs).getD i 0 - (casts rs).getD j 0).fmod sz == 0, tstl_one (tst_cmp op_eq (a := .int (((casts rs).getD i 0 - (casts rs).getD j 0).fmod sz)) ?_ ev_int), fun h => ⟨.int (i : Int), ev_name rfl, by simp only [h, if_true]⟩, fun h => by simp only [h, Bool.false_eq_true, if_false]⟩
        refine ev_bin (op_mod (by omega)) (ev_bin op_sub ?_ ?_) (ev_name rfl)
        · exact ev_item (k := (i : Int)) (ev_name rfl) (ev_name rfl) (by omega) (by have := ints_get (ns := casts rs) (k := (i : Int)) (by omega) (by omega); simpa using this) (by omega) (fun _ _ => rfl)
        · exact ev_item (k := (j : Int)) (ev_name rfl) (ev_name rfl) (by omega) (by have := ints_get (ns := casts rs) (k := (j : Int)) (by omega) (by omega); simpa using this) (by omega) (fun _ _ => rfl)
    · have := outs_len (fun k => outs (fun i => if (((casts rs).getD k 0 - (casts rs).getD i 0).fmod sz == 0) = true then [D.int (k : Int)] else []) k) 5 5 (fun k hk => by
        have := outs_len (fun i => if (((casts rs).getD k 0 - (casts rs).getD i 0).fmod sz == 0) = true then [D.int (k : Int)] else []) 1 k (fun i _ => by split <;> simp)
        omega)
      simp only [sizeLine]; omega
  refine x_if (c := cxL prog w (n + 3) A H pm cd doc fa s) I4 (b := false) (tst_ne (x := indW rs (sz * tk) (sz : Int)) (y := (sz : Int) * ((tk : Int) + 5 + (alikeN (casts rs) sz : Int))) (by rw [e1]; simp) ?_ ?_) (fun h => by cases h) (fun _ s5 I5 => wpAny_execs_nil ?_)
  · exact ev_indent w rfl (ev_name rfl) (ev_name rfl) (c_indent prog w (n + 2) (wsO rs (sz * tk)).1 _ _ (sz : Int) (by omega) (by omega) wlb) (by rfl) _ (by rfl)
  · exact ev_bin (op_mul (by omega)) (ev_name rfl) (ev_bin op_add (ev_bin op_add (ev_name rfl) ev_int) (ev_name rfl))
  have I6 := I5.sub' (σ' := ([("ahead", wsD pl 0), ("behind", wsD rs (sz * tk)), ("fallen", .ints fl), ("places", .ints (casts pl)), ("size", .int sz), ("legs", .int legs)] : Vars)) ⟨rfl, rfl, rfl, rfl, rfl, rfl, trivial⟩
  refine x_for (c := cxL prog w (n + 3) A H pm cd doc fa s) I6 (.inl rfl) (d := .range 1 ((sz : Int) + 1) 1) (n := sz) (it := fun j => .int (1 + (j : Int))) ?_ (fun s v I i => itr_range2 I.amb.handled (by decide) (by decide) (by omega) (by omega) (by omega) i)
      (fun i σ => σ = ([("ahead", wsD pl 0), ("behind", wsD rs (sz * tk)), ("fallen", .ints fl), ("places", .ints (casts pl)), ("size", .int sz), ("legs", .int legs)] : Vars)) rfl ?_ ?_
  · exact ev_call_type rfl (by kernel_rfl) (T := "range") (by decide +kernel) (by decide) (ds := [.int 1, .int ((sz : Int) + 1)]) (.cons ev_int (.cons (ev_bin op_add (ev_name rfl) ev_int) .nil)) fn_range2 (by simp) rfl
  · rintro i σ Ia t1 t2 hi rfl It back
    refine x_if (c := Cx.turn _ Ia t1) It (b := ((sz : Int).fmod (1 + (i : Int)) == 0) && false) (tst_and (a := (sz : Int).fmod (1 + (i : Int)) == 0) (b := false) (tst_cmp op_eq (a := .int ((sz : Int).fmod (1 + (i : Int)))) (ev_bin (op_mod (by omega)) (ev_name rfl) (ev_name rfl)) ev_int) fun hd => ?_) (fun h => by simp at h) (fun _ t3 I3 => wpAny_execs_nil ?_)
    · have hmod : sz % (i + 1) = 0 := by
        have h1 : (sz : Int).fmod (1 + (i : Int)) = 0 := by simpa using hd
        rw [Int.fmod_eq_emod_of_nonneg _ (by omega)] at h1
        have h2 : ((sz % (i + 1) : Nat) : Int) = 0 := by rw [Int.natCast_emod]; rw [show ((i + 1 : Nat) : Int) = 1 + (i : Int) by omega]; exact h1
        omega
      have e := e2 (i + 1) (by omega) (by omega) hmod
      rw [show ((i + 1 : Nat) : Int) = 1 + (i : Int) by omega] at e
      refine tst_ne (x := indW pl 0 (1 + (i : Int))) (y := indW rs (sz * tk) (1 + (i : Int))) (by rw [e]; simp) ?_ ?_
      · exact ev_indent w rfl (ev_name rfl) (ev_name rfl) (c_indent prog w (n + 2) (wsO pl 0).1 _ _ (1 + (i : Int)) (by omega) (by omega) wla) (by rfl) _ (by rfl)
      · exact ev_indent w rfl (ev_name rfl) (ev_name rfl) (c_indent prog w (n + 2) (wsO rs (sz * tk)).1 _ _ (1 + (i : Int)) (by omega) (by omega) wlb) (by rfl) _ (by rfl)
    · exact wpAny_execs_nil ⟨_, rfl, I3.sub' ⟨rfl, rfl, rfl, rfl, rfl, rfl, trivial⟩⟩
  · rintro σ t rfl It
    exact k t (It.sub' ⟨rfl, rfl, rfl, trivial⟩)
end


noncomputable def sgAt (ps : List Nat) (k i : Nat) : Int := b2i (decide ((nameOf 2 (ps.getD i 0)).cps.toList < (nameOf 2 (ps.getD k 0)).cps.toList)) - b2i (decide ((nameOf 2 (ps.getD k 0)).cps.toList < (nameOf 2 (ps.getD i 0)).cps.toList))
noncomputable def prodI (ps : List Nat) (k : Nat) (st : Int) : Nat → Int
  | 0 => st
  | i + 1 => prodI ps k st i * sgAt ps k i
noncomputable def prodK (ps : List Nat) : Nat → Int
  | 0 => 1
  | k + 1 => prodI ps k (prodK ps k) k
theorem b2i_two (b : Bool) : b2i b = 0 ∨ b2i b = 1 := by cases b <;> simp [b2i]
theorem sgAt_le (ps : List Nat) (k i : Nat) : (sgAt ps k i).natAbs ≤ 1 := by
  unfold sgAt
  rcases b2i_two (decide ((nameOf 2 (ps.getD i 0)).cps.toList < (nameOf 2 (ps.getD k 0)).cps.toList)) with h | h <;> rcases b2i_two (decide ((nameOf 2 (ps.getD k 0)).cps.toList < (nameOf 2 (ps.getD i 0)).cps.toList)) with h' | h' <;> rw [h, h'] <;> decide
theorem prodI_le (ps : List Nat) (k : Nat) (st : Int) (h : st.natAbs ≤ 1) : ∀ i, (prodI ps k st i).natAbs ≤ 1
  | 0 => h
  | i + 1 => by
    rw [prodI, Int.natAbs_mul]
    have h1 := prodI_le ps k st h i
    have h2 := sgAt_le ps k i
    exact Nat.le_trans (Nat.mul_le_mul h1 h2) (by decide)
theorem prodK_le (ps : List Nat) : ∀ k, (prodK ps k).natAbs ≤ 1
  | 0 => Nat.le_refl 1
  | k + 1 => prodI_le ps k _ (prodK_le ps k) k
theorem apF_len : ∀ (f n : Nat) (acc : List UInt8), (apF f n acc).length ≤ f + acc.length
  | 0, n, acc => by simp [apF]
  | f + 1, n, acc => by
    rw [apF]
    split
    · omega
    · have := apF_len f (n / 16) ((65 + n % 16).toUInt8 :: acc)
      simp only [List.length_cons] at this; omega

section
variable (prog : Program) (w : World) (n : Nat) (A : Around) (H : List Addr) (pm cd doc : Value) (fa : Addr) (s : Shared)
set_option maxHeartbeats 8000000 in
theorem law_sign {s₁ : Shared} (pl fl : List Nat) (legs : Nat) (hpl : pl.length = 5) (hfl : fl.length = 5) (hb : ∀ p ∈ fl ++ [pl.getD 4 0 + 1], p ≤ 200) (hlegs : legs ≤ 1000) (he : prodK (fl ++ [pl.getD 4 0 + 1]) 6 = (-1) ^ legs)
    (I : In (cxL prog w (n + 3) A H pm cd doc fa s) ([("fallen", .ints (casts fl)), ("places", .ints (casts pl)), ("legs", .int (legs : Int))] : Vars) s₁) :
    wpAny (model prog w) (cxL prog w (n + 3) A H pm cd doc fa s).A (execs (lawT.2.1.drop 16) (cxL prog w (n + 3) A H pm cd doc fa s).env) (fun f s' => f = .ret (.bool true) ∧ Fut s s') (fun _ _ => False) s₁ := by
  generalize hps : fl ++ [pl.getD 4 0 + 1] = ps at hb he
  have hcp : (casts pl).length = 5 := by rw [List.length_map, hpl]
  have hpsl : ps.length = 6 := by rw [← hps, List.length_append, hfl]; rfl
  have hcps : (casts ps).length = 6 := by rw [List.length_map, hpsl]
  have hnl : (ps.map fun p => D.str (nameOf 2 p)).length = 6 := by rw [List.length_map, hpsl]
  have hnat : ∀ i : Nat, i < 6 → (ps.map fun p => D.str (nameOf 2 p))[((i : Nat) : Int).toNat]? = some (.str (nameOf 2 (ps.getD i 0))) := fun i hi => by
    simp [List.getD, hpsl, hi]
  refine x_assign_comp (c := cxL prog w (n + 3) A H pm cd doc fa s) (ds := ps.map fun p => D.str (nameOf 2 p)) I (d := .ints (casts ps)) (n := (casts ps).length) (it := fun j => .int ((casts ps).getD j 0)) ?_ (fun s v I i => itr_ints I.amb.handled i) (scOk (by kernel_rfl) (by kernel_rfl) (by kernel_rfl) (by kernel_rfl) (by kernel_rfl)) ?_ rfl ?_ rfl
  · have e : casts ps = casts fl ++ [((casts pl).getD 4 0) + 1] := by
      rw [← hps]
      show List.map _ _ = List.map _ _ ++ _
      rw [List.map_append]
      congr 1
      simp [List.getD, hpl]
    rw [e]
    refine ev_bin (op_addi (by simp only [List.length_map, List.length_cons, List.length_nil, sizeLine]; omega)) (ev_name rfl) (ev_list (ds := [.int ((casts pl).getD 4 0 + 1)]) (.cons (ev_bin op_add (ev_item (k := ((4 : Nat) : Int)) (ev_name rfl) ev_int (by decide) ?_ (by decide) (fun _ _ => rfl)) ev_int) .nil) rfl (by simp [sizeLine]))
    exact ints_get (ns := casts pl) (k := ((4 : Nat) : Int)) (by decide) (by omega)
  · have e : (ps.map fun p => D.str (nameOf 2 p)) = outs (fun j => [D.str (nameOf 2 (ps.getD j 0))]) (casts ps).length := by
      rw [outs_map, List.length_map]
      conv => lhs; rw [← range_getD ps 0]
      rw [List.map_map]; rfl
    rw [e]
    refine run_1 (scOk (by kernel_rfl) (by kernel_rfl) (by kernel_rfl) (by kernel_rfl) (by kernel_rfl)) (by kernel_rfl) _ (by simp only [sizeLine]; omega) ?_
    intro i I C Da s1 s2 hi
    have hi6 : i < ps.length := by omega
    have hpi := hb _ (getD_mem' (x := 0) hi6)
    have hl := apF_len 2 (16 + ps.getD i 0) []
    simp only [List.length_nil] at hl
    refine ⟨true, tstl_nil, fun _ => ⟨_, ?_, rfl⟩, fun h => by cases h⟩
    refine ev_call_def (f := 135) rfl (by kernel_rfl) (by kernel_rfl) (ds := [.int ((ps.getD i 0 : Nat) : Int)]) (.cons (ev_d (ev_name rfl) ?_) .nil) (c_name prog w (n + 1) (ps.getD i 0) 2 (by omega) (by decide) (by unfold nameB; omega)) (by simp) rfl
    simp [List.getD, hi6]
  intro s2 I2
  refine x_assign (c := cxL prog w (n + 3) A H pm cd doc fa s) I2 (d := .int 1) ev_int (.inl rfl) fun s3 I3 => ?_
  have I4 := I3.sub' (σ' := ([("names", .list (ps.map fun p => D.str (nameOf 2 p))), ("sign", .int (prodK ps 0)), ("legs", .int (legs : Int))] : Vars)) ⟨rfl, rfl, rfl, trivial⟩
  refine x_for (c := cxL prog w (n + 3) A H pm cd doc fa s) I4 (.inl rfl) (d := .range 0 6 1) (n := 6) (it := fun j => .int (j : Int)) ?_ (fun s v I i => itr_range1 I.amb.handled (by decide) (by decide) (by decide) i)
      (fun k σ => σ = ([("names", .list (ps.map fun p => D.str (nameOf 2 p))), ("sign", .int (prodK ps k)), ("legs", .int (legs : Int))] : Vars)) rfl ?_ ?_
  · exact ev_call_type rfl (by kernel_rfl) (T := "range") (by decide +kernel) (by decide) (ds := [.int 6]) (.cons ev_int .nil) fn_range1 (by simp) rfl
  · rintro k σ Ia t1 t2 hk rfl It back
    refine x_for (c := Cx.turn (cxL prog w (n + 3) A H pm cd doc fa s) Ia t1) It (.inl rfl) (d := .range 0 (k : Int) 1) (n := k) (it := fun j => .int (j : Int)) ?_ (fun s v I i => itr_range1 I.amb.handled (by omega) (by omega) (by omega) i)
      (fun i σ => SubV ([("k", .int (k : Int)), ("names", .list (ps.map fun p => D.str (nameOf 2 p))), ("sign", .int (prodI ps k (prodK ps k) i)), ("legs", .int (legs : Int))] : Vars) σ) ⟨rfl, rfl, rfl, rfl, trivial⟩ ?_ ?_
    · exact ev_call_type rfl (by kernel_rfl) (T := "range") (by decide +kernel) (by decide) (ds := [.int (k : Int)]) (.cons (ev_name rfl) .nil) fn_range1 (by simp) rfl
    · rintro i σ Ib u1 u2 hi hσ Iu back'
      have Iv := Iu.sub' (σ' := ([("i", .int (i : Int)), ("k", .int (k : Int)), ("names", .list (ps.map fun p => D.str (nameOf 2 p))), ("sign", .int (prodI ps k (prodK ps k) i)), ("legs", .int (legs : Int))] : Vars)) ?_
      · refine x_aug (c := Cx.turn (Cx.turn (cxL prog w (n + 3) A H pm cd doc fa s) Ia t1) Ib u1) Iv (d := .int (prodI ps k (prodK ps k) i * sgAt ps k i)) (ev_name rfl) ?_ (op_imul (by have := prodI_le ps k _ (prodK_le ps k) i; omega)) (.inl rfl) rfl fun u3 I3 => ?_
        · exact ev_call_def (f := 101) rfl (by kernel_rfl) (by kernel_rfl) (ds := [.str (nameOf 2 (ps.getD k 0)), .str (nameOf 2 (ps.getD i 0))])
            (.cons (ev_item (k := ((k : Nat) : Int)) (ev_name rfl) (ev_name rfl) (by omega) (hnat k hk) (by omega) (fun _ _ => rfl)) (.cons (ev_item (k := ((i : Nat) : Int)) (ev_name rfl) (ev_name rfl) (by omega) (hnat i (by omega)) (by omega) (fun _ _ => rfl)) .nil)) (c_strcoll prog w (n + 2) _ _) (by simp) rfl
        · exact wpAny_execs_nil ⟨([("k", .int (k : Int)), ("names", .list (ps.map fun p => D.str (nameOf 2 p))), ("sign", .int (prodI ps k (prodK ps k) (i + 1))), ("legs", .int (legs : Int))] : Vars), ⟨rfl, rfl, rfl, rfl, trivial⟩, I3.sub' ⟨rfl, rfl, rfl, rfl, trivial⟩⟩
      · obtain ⟨a1, a2, a3, a4, _⟩ := hσ
        refine ⟨rfl, ?_, ?_, ?_, ?_, trivial⟩
        · rw [List.lookup_cons, show (("k" : Str) == "i") = false from by decide]; exact a1
        · rw [List.lookup_cons, show (("names" : Str) == "i") = false from by decide]; exact a2
        · rw [List.lookup_cons, show (("sign" : Str) == "i") = false from by decide]; exact a3
        · rw [List.lookup_cons, show (("legs" : Str) == "i") = false from by decide]; exact a4
    · rintro σ t hσ It'
      obtain ⟨a1, a2, a3, a4, _⟩ := hσ
      exact wpAny_execs_nil ⟨([("names", .list (ps.map fun p => D.str (nameOf 2 p))), ("sign", .int (prodK ps (k + 1))), ("legs", .int (legs : Int))] : Vars), rfl, It'.sub' ⟨a2, a3, a4, trivial⟩⟩
  · rintro σ t rfl It
    refine x_return (c := cxL prog w (n + 3) A H pm cd doc fa s) It (d := .bool true) ?_ fun v s' I' i => ?_
    · have := op_eq (c := cxL prog w (n + 3) A H pm cd doc fa s) (a := prodK ps 6) (b := (-1) ^ (legs : Int).toNat)
      rw [Int.toNat_natCast, he, show ((-1 : Int) ^ legs == (-1) ^ legs) = true by simp] at this
      refine ev_cmp this (ev_d (ev_name rfl) (by rw [he])) (ev_d (ev_bin (op_pow (by omega) (by omega) (by decide)) (ev_neg ev_int) (ev_name rfl)) (by rw [Int.toNat_natCast]))
    · obtain rfl := i.bool_inv
      exact ⟨rfl, I'.fut⟩
end

-- the beads: a plain law

noncomputable def rk (s : Nat) (b : List Nat) (B : Nat) : Nat := b.countP fun x => decide (x < B) && decide (x % s = B % s)
noncomputable def fal (s : Nat) (b : List Nat) : List Nat := b.map fun B => B % s + s * rk s b B
noncomputable def asc : List Nat → Nat
  | [] => 0
  | a :: l => l.countP (fun x => decide (a < x)) + asc l

theorem cp_zero {α : Type} (p : α → Bool) (l : List α) (h : ∀ x ∈ l, p x = false) : l.countP p = 0 := by
  rw [List.countP_eq_zero]
  intro x hx; rw [h x hx]; decide
theorem cp_congr {α : Type} (p q : α → Bool) (l : List α) (h : ∀ x ∈ l, p x = q x) : l.countP p = l.countP q := by
  induction l with
  | nil => rfl
  | cons a l ih =>
    rw [List.countP_cons, List.countP_cons, ih fun x hx => h x (List.mem_cons_of_mem _ hx), h a List.mem_cons_self]

theorem mod_gap {s x B : Nat} (hs : 0 < s) (h1 : x < B) (h2 : B < x + s) : x % s ≠ B % s := by
  intro h
  have e1 := Nat.div_add_mod x s
  have e2 := Nat.div_add_mod B s
  rw [h] at e1
  have h3 : s * (x / s) < s * (B / s) := by omega
  have h4 : x / s < B / s := Nat.lt_of_mul_lt_mul_left h3
  have h5 : s * (x / s + 1) ≤ s * (B / s) := Nat.mul_le_mul_left s h4
  rw [Nat.mul_add, Nat.mul_one] at h5
  omega
theorem mod_sub {s B : Nat} (h : s ≤ B) : (B - s) % s = B % s := (Nat.mod_eq_sub_mod h).symm

structure StepB (s : Nat) (b b' : List Nat) (L : Nat) : Prop where
  ex : ∃ (p q t : List Nat) (B : Nat), b = p ++ B :: (q ++ t) ∧ b' = p ++ (q ++ (B - s) :: t) ∧ s ≤ B ∧ (∀ x ∈ p, B < x) ∧ (∀ x ∈ q, B - s < x ∧ x < B) ∧ (∀ x ∈ t, x < B - s) ∧ L = q.length

theorem rk_move {s : Nat} (hs : 0 < s) {p q t : List Nat} {B : Nat} (hB : s ≤ B) (hp : ∀ x ∈ p, B < x) (hq : ∀ x ∈ q, B - s < x ∧ x < B) (ht : ∀ x ∈ t, x < B - s) :
    (∀ Y, Y ∈ p ∨ Y ∈ q ∨ Y ∈ t → rk s (p ++ (q ++ (B - s) :: t)) Y = rk s (p ++ B :: (q ++ t)) Y) ∧ rk s (p ++ (q ++ (B - s) :: t)) (B - s) = rk s (p ++ B :: (q ++ t)) B := by
  have hm := mod_sub hB
  constructor
  · intro Y hY
    unfold rk
    simp only [List.countP_append, List.countP_cons]
    have : (if (decide (B - s < Y) && decide ((B - s) % s = Y % s)) = true then 1 else 0) = (if (decide (B < Y) && decide (B % s = Y % s)) = true then (1 : Nat) else 0) := by
      rw [hm]
      rcases hY with h | h | h
      · have := hp Y h
        rw [decide_eq_true (show B - s < Y by omega), decide_eq_true (show B < Y by omega)]
      · obtain ⟨h1, h2⟩ := hq Y h
        have h3 := mod_gap (s := s) (x := Y) (B := B) hs h2 (by omega)
        rw [decide_eq_false (show ¬ B < Y by omega), decide_eq_false (fun e => h3 e.symm : ¬ B % s = Y % s)]
        simp
      · have := ht Y h
        rw [decide_eq_false (show ¬ B - s < Y by omega), decide_eq_false (show ¬ B < Y by omega)]
    omega
  · unfold rk
    simp only [List.countP_append, List.countP_cons, hm]
    have e1 : p.countP (fun x => decide (x < B - s) && decide (x % s = B % s)) = 0 := cp_zero _ _ fun x hx => by
      have := hp x hx
      rw [decide_eq_false (show ¬ x < B - s by omega)]; rfl
    have e2 : p.countP (fun x => decide (x < B) && decide (x % s = B % s)) = 0 := cp_zero _ _ fun x hx => by
      have := hp x hx
      rw [decide_eq_false (show ¬ x < B by omega)]; rfl
    have e3 : q.countP (fun x => decide (x < B - s) && decide (x % s = B % s)) = 0 := cp_zero _ _ fun x hx => by
      have := hq x hx
      rw [decide_eq_false (show ¬ x < B - s by omega)]; rfl
    have e4 : q.countP (fun x => decide (x < B) && decide (x % s = B % s)) = 0 := cp_zero _ _ fun x hx => by
      obtain ⟨h1, h2⟩ := hq x hx
      rw [decide_eq_false (mod_gap (s := s) (x := x) (B := B) hs h2 (by omega))]
      simp
    have e5 : t.countP (fun x => decide (x < B - s) && decide (x % s = B % s)) = t.countP (fun x => decide (x < B) && decide (x % s = B % s)) := cp_congr _ _ _ fun x hx => by
      have := ht x hx
      rw [decide_eq_true (show x < B - s by omega), decide_eq_true (show x < B by omega)]
    rw [e1, e2, e3, e4, e5]
    simp

theorem asc_move (X : Nat) : ∀ (Q T : List Nat), X ∉ Q → (asc (X :: (Q ++ T)) + asc (Q ++ X :: T)) % 2 = Q.length % 2
  | [], T, _ => by simp only [List.nil_append, List.length_nil]; omega
  | q :: Q, T, h => by
    have h1 : X ≠ q := fun e => h (e ▸ List.mem_cons_self)
    have ih := asc_move X Q T fun e => h (List.mem_cons_of_mem _ e)
    simp only [List.cons_append, asc, List.countP_cons, List.countP_append, List.length_cons] at ih ⊢
    have : (if decide (X < q) = true then 1 else 0) + (if decide (q < X) = true then 1 else 0) = (1 : Nat) := by
      by_cases h2 : X < q
      · rw [decide_eq_true h2, decide_eq_false (show ¬ q < X by omega)]; rfl
      · rw [decide_eq_false h2, decide_eq_true (show q < X by omega)]; rfl
    omega
theorem asc_pre : ∀ (P A B : List Nat), A.Perm B → (asc (P ++ A) + asc (P ++ B)) % 2 = (asc A + asc B) % 2
  | [], A, B, _ => rfl
  | x :: P, A, B, h => by
    have ih := asc_pre P A B h
    have hc : (P ++ A).countP (fun y => decide (x < y)) = (P ++ B).countP (fun y => decide (x < y)) := by
      rw [List.countP_append, List.countP_append, h.countP_eq]
    simp only [List.cons_append, asc, hc]
    omega

theorem fal_step {s : Nat} (hs : 0 < s) {b b' : List Nat} {L : Nat} (h : StepB s b b' L) : (fal s b').Perm (fal s b) ∧ (asc (fal s b) + asc (fal s b') + L) % 2 = 0 := by
  obtain ⟨p, q, t, B, rfl, rfl, hB, hp, hq, ht, rfl⟩ := h.ex
  obtain ⟨h1, h2⟩ := rk_move hs hB hp hq ht
  let f := fun Y => Y % s + s * rk s (p ++ B :: (q ++ t)) Y
  have e1 : fal s (p ++ B :: (q ++ t)) = p.map f ++ f B :: (q.map f ++ t.map f) := by
    unfold fal; simp [f]
  have e2 : fal s (p ++ (q ++ (B - s) :: t)) = p.map f ++ (q.map f ++ f B :: t.map f) := by
    unfold fal
    simp only [List.map_append, List.map_cons]
    have hpf : p.map (fun B_1 => B_1 % s + s * rk s (p ++ (q ++ (B - s) :: t)) B_1) = p.map f := List.map_congr_left fun Y hY => by rw [h1 Y (.inl hY)]
    have hqf : q.map (fun B_1 => B_1 % s + s * rk s (p ++ (q ++ (B - s) :: t)) B_1) = q.map f := List.map_congr_left fun Y hY => by rw [h1 Y (.inr (.inl hY))]
    have htf : t.map (fun B_1 => B_1 % s + s * rk s (p ++ (q ++ (B - s) :: t)) B_1) = t.map f := List.map_congr_left fun Y hY => by rw [h1 Y (.inr (.inr hY))]
    rw [hpf, hqf, htf, mod_sub hB, h2]
  have hX : f B ∉ q.map f := fun e => by
    obtain ⟨Y, hY, e⟩ := List.mem_map.mp e
    obtain ⟨h3, h4⟩ := hq Y hY
    have h5 := mod_gap (s := s) (x := Y) (B := B) hs h4 (by omega)
    refine h5 ?_
    have : f Y % s = f B % s := by rw [e]
    simpa [f, Nat.add_mul_mod_self_left] using this
  have hperm : (f B :: (q.map f ++ t.map f)).Perm (q.map f ++ f B :: t.map f) := List.perm_middle.symm
  rw [e1, e2]
  refine ⟨(hperm.symm.append_left _), ?_⟩
  have a1 := asc_pre (p.map f) _ _ hperm
  have a2 := asc_move (f B) (q.map f) (t.map f) hX
  rw [List.length_map] at a2
  omega

theorem div_step {s tab : Nat} (ht : 0 < tab) (hd : tab ∣ s) {b b' : List Nat} {L : Nat} (h : StepB s b b' L) : (b.map (· / tab)).sum = (b'.map (· / tab)).sum + s / tab := by
  obtain ⟨p, q, t, B, rfl, rfl, hB, hp, hq, ht', rfl⟩ := h.ex
  obtain ⟨m, rfl⟩ := hd
  have e : B / tab = (B - tab * m) / tab + m := by
    obtain ⟨r, rfl⟩ : ∃ r, B = r + tab * m := ⟨B - tab * m, by omega⟩
    rw [Nat.add_mul_div_left _ _ ht, Nat.add_sub_cancel]
  simp only [List.map_append, List.map_cons, List.sum_append, List.sum_cons]
  rw [Nat.mul_div_cancel_left _ ht]
  omega

theorem rk_small {s : Nat} {b : List Nat} {B : Nat} (h : B < s) : rk s b B = 0 := cp_zero _ _ fun x _ => by
  by_cases h1 : x < B
  · rw [Nat.mod_eq_of_lt h, Nat.mod_eq_of_lt (show x < s by omega), decide_eq_false (show ¬ x = B by omega)]; simp
  · rw [decide_eq_false h1]; rfl
theorem rk_up {s : Nat} (hs : 0 < s) {b : List Nat} {B : Nat} (h : s ≤ B) : rk s b B = rk s b (B - s) + b.countP (fun x => decide (x = B - s)) := by
  unfold rk
  induction b with
  | nil => rfl
  | cons x b ih =>
    simp only [List.countP_cons, ih, mod_sub h]
    have : (if (decide (x < B) && decide (x % s = B % s)) = true then 1 else 0) = (if (decide (x < B - s) && decide (x % s = B % s)) = true then 1 else 0) + (if decide (x = B - s) = true then (1 : Nat) else 0) := by
      by_cases h1 : x < B - s
      · rw [decide_eq_true h1, decide_eq_true (show x < B by omega), decide_eq_false (show ¬ x = B - s by omega)]; simp
      · by_cases h2 : x = B - s
        · rw [decide_eq_false h1, decide_eq_true (show x < B by omega), decide_eq_true h2, h2, mod_sub h]; simp
        · rw [decide_eq_false h1, decide_eq_false h2]
          by_cases h3 : x < B
          · rw [decide_eq_false (mod_gap (s := s) (x := x) (B := B) hs h3 (by omega))]; simp
          · rw [decide_eq_false h3]; simp
    omega
theorem cp_one {b : List Nat} (hn : b.Nodup) {x : Nat} (hx : x ∈ b) : b.countP (fun y => decide (y = x)) = 1 := by
  induction b with
  | nil => cases hx
  | cons a b ih =>
    rw [List.nodup_cons] at hn
    rw [List.countP_cons]
    rcases List.mem_cons.mp hx with rfl | hx
    · rw [cp_zero _ b fun y hy => decide_eq_false (fun e : y = x => hn.1 (e ▸ hy))]; simp
    · rw [ih hn.2 hx, decide_eq_false (fun e : a = x => hn.1 (e ▸ hx))]; simp

/-- where no bead can go down: each lies as low as it can -/
theorem rk_core {s : Nat} (hs : 0 < s) {b : List Nat} (hn : b.Nodup) (hc : ∀ B ∈ b, s ≤ B → B - s ∈ b) : ∀ B, B ∈ b → rk s b B = B / s := by
  intro B
  induction B using Nat.strongRecOn with
  | _ B ih =>
    intro hB
    by_cases h : B < s
    · rw [rk_small h, Nat.div_eq_of_lt h]
    · have h' : s ≤ B := by omega
      rw [rk_up hs h', cp_one hn (hc B hB h'), ih (B - s) (by omega) (hc B hB h'), Nat.div_eq B s, if_pos ⟨hs, h'⟩]
theorem fal_core {s : Nat} (hs : 0 < s) {b : List Nat} (hn : b.Nodup) (hc : ∀ B ∈ b, s ≤ B → B - s ∈ b) : fal s b = b := by
  unfold fal
  conv => rhs; rw [← List.map_id b]
  refine List.map_congr_left fun B hB => ?_
  rw [rk_core hs hn hc B hB, Nat.add_comm]
  exact Nat.div_add_mod B s


noncomputable def rowsL : List Nat → List Int
  | [] => []
  | x :: l => ((x : Int) - (l.length : Int)) :: rowsL l
theorem rowsL_len : ∀ l : List Nat, (rowsL l).length = l.length
  | [] => rfl
  | x :: l => congrArg (· + 1) (rowsL_len l)
theorem rowsL_app : ∀ (p l : List Nat), rowsL (p ++ l) = (rowsL p).map (· - (l.length : Int)) ++ rowsL l
  | [], l => rfl
  | x :: p, l => by
    show ((x : Int) - ((p ++ l).length : Int)) :: rowsL (p ++ l) = ((x : Int) - (p.length : Int) - (l.length : Int)) :: _
    rw [rowsL_app p l, List.length_append, Int.natCast_add, Int.sub_sub]; rfl
noncomputable abbrev Desc (l : List Nat) : Prop := l.Pairwise fun x y => y < x
theorem desc_len {z : Int} : ∀ {l : List Nat} {x : Nat}, Desc (x :: l) → (∀ y ∈ x :: l, z < (y : Int)) → z + (l.length : Int) < (x : Int)
  | [], x, _, h => by have := h x List.mem_cons_self; simpa using this
  | y :: l, x, hd, h => by
    obtain ⟨h1, h2⟩ := List.pairwise_cons.mp hd
    have h3 := h1 y List.mem_cons_self
    have h4 := desc_len h2 fun z hz => h z (List.mem_cons_of_mem _ hz)
    clear h h1 h2 hd
    rw [List.length_cons]; omega
theorem row_gt {z : Int} : ∀ {l : List Nat}, Desc l → (∀ x ∈ l, z < (x : Int)) → ∀ y ∈ rowsL l, z < y
  | [], _, _, y, hy => nomatch hy
  | x :: l, hd, h, y, hy => by
    rcases List.mem_cons.mp hy with rfl | hy
    · have := desc_len hd h; clear h hd; omega
    · exact row_gt (List.pairwise_cons.mp hd).2 (fun z hz => h z (List.mem_cons_of_mem _ hz)) y hy
theorem row_le {z : Int} : ∀ {l : List Nat}, Desc l → (∀ x ∈ l, (x : Int) < z) → ∀ y ∈ rowsL l, y ≤ z - (l.length : Int)
  | [], _, _, y, hy => nomatch hy
  | x :: l, hd, h, y, hy => by
    have hx := h x List.mem_cons_self
    obtain ⟨h1, h2⟩ := List.pairwise_cons.mp hd
    rw [List.length_cons]
    rcases List.mem_cons.mp hy with rfl | hy
    · clear h h1 h2 hd; omega
    · have := row_le (z := (x : Int)) h2 (fun u hu => Int.ofNat_lt.mpr (h1 u hu)) y hy
      clear h h1 h2 hd hy; omega
theorem of_gt {z : Int} : ∀ {l : List Nat}, (∀ y ∈ rowsL l, z < y) → ∀ x ∈ l, z < (x : Int)
  | x :: l, h, u, hu => by
    rcases List.mem_cons.mp hu with rfl | hu
    · have := h _ List.mem_cons_self; clear h; omega
    · exact of_gt (fun y hy => h y (List.mem_cons_of_mem _ hy)) u hu
theorem of_le {z : Int} : ∀ {l : List Nat}, Desc l → (∀ y ∈ rowsL l, y ≤ z) → ∀ x ∈ l, (x : Int) < z + (l.length : Int)
  | x :: l, hd, h, u, hu => by
    have := h _ List.mem_cons_self
    obtain ⟨h1, h2⟩ := List.pairwise_cons.mp hd
    rw [List.length_cons]
    rcases List.mem_cons.mp hu with rfl | hu
    · clear h h1 h2 hd hu; omega
    · have := h1 u hu; clear h h1 h2 hd hu; omega
theorem split_row (j : Int) : ∀ r : List Nat, Desc r → ∃ q t, r = q ++ t ∧ (∀ y ∈ rowsL q, j + (t.length : Int) < y) ∧ ∀ y ∈ rowsL t, y ≤ j
  | [], _ => ⟨[], [], rfl, fun y hy => (nomatch hy), fun y hy => (nomatch hy)⟩
  | x :: l, hd => by
    obtain ⟨h1, h2⟩ := List.pairwise_cons.mp hd
    by_cases h : j < (x : Int) - (l.length : Int)
    · obtain ⟨q, t, rfl, hq, ht⟩ := split_row j l h2
      refine ⟨x :: q, t, rfl, fun y hy => ?_, ht⟩
      rcases List.mem_cons.mp hy with rfl | hy
      · rw [List.length_append] at h; clear hq ht h1 h2 hd hy; omega
      · exact hq y hy
    · refine ⟨[], x :: l, rfl, fun y hy => (nomatch hy), fun y hy => ?_⟩
      rcases List.mem_cons.mp hy with rfl | hy
      · clear h1 h2 hd; omega
      · have := row_le (z := (x : Int)) h2 (fun u hu => Int.ofNat_lt.mpr (h1 u hu)) y hy
        clear h1 h2 hd hy; omega
theorem split_at (v : Nat) : ∀ r : List Nat, Desc r → v ∉ r → ∃ q t, r = q ++ t ∧ (∀ x ∈ q, v < x) ∧ ∀ x ∈ t, x < v
  | [], _, _ => ⟨[], [], rfl, fun y hy => (nomatch hy), fun y hy => (nomatch hy)⟩
  | x :: l, hd, hv => by
    obtain ⟨h1, h2⟩ := List.pairwise_cons.mp hd
    by_cases h : v < x
    · obtain ⟨q, t, rfl, hq, ht⟩ := split_at v l h2 fun e => hv (List.mem_cons_of_mem _ e)
      refine ⟨x :: q, t, rfl, fun y hy => ?_, ht⟩
      rcases List.mem_cons.mp hy with rfl | hy
      · exact h
      · exact hq y hy
    · have hx : x < v := Nat.lt_of_le_of_ne (Nat.le_of_not_lt h) fun e => hv (e ▸ List.mem_cons_self)
      refine ⟨[], x :: l, rfl, fun y hy => (nomatch hy), fun y hy => ?_⟩
      rcases List.mem_cons.mp hy with rfl | hy
      · exact hx
      · exact Nat.lt_trans (h1 y hy) hx
theorem tall_app {X Y : List Int} {j : Int} (hX : ∀ y ∈ X, j < y) (hY : ∀ y ∈ Y, y ≤ j) : tallI (X ++ Y) j = (X.length : Int) := by
  unfold tallI
  rw [List.filter_append, List.filter_eq_self.mpr fun y hy => decide_eq_true (hX y hy), List.filter_eq_nil_iff.mpr fun y hy => by simpa using hY y hy, List.append_nil]

/-- the rows of p, B, q, t -/
theorem rows_cut (p q t : List Nat) (B : Nat) : rowsL (p ++ B :: (q ++ t)) = ((rowsL p).map (· - ((B :: (q ++ t)).length : Int)) ++ ((B : Int) - ((q ++ t).length : Int)) :: (rowsL q).map (· - (t.length : Int))) ++ rowsL t := by
  rw [rowsL_app, List.append_assoc]
  congr 1
  show _ :: rowsL (q ++ t) = _ :: (_ ++ _)
  rw [rowsL_app]
theorem tall_cut {p q t : List Nat} {B : Nat} {j : Int} (hp : Desc p) (hpB : ∀ x ∈ p, B < x) (hB : j < (B : Int) - ((q ++ t).length : Int)) (hq : ∀ y ∈ rowsL q, j + (t.length : Int) < y) (ht : ∀ y ∈ rowsL t, y ≤ j) :
    tallI (rowsL (p ++ B :: (q ++ t))) j = (p.length : Int) + 1 + (q.length : Int) := by
  rw [rows_cut, tall_app (fun y hy => ?_) ht]
  · simp only [List.length_append, List.length_cons, List.length_map, rowsL_len, Int.natCast_add, Int.natCast_one, Int.add_assoc, Int.add_comm (1 : Int)]
  · rcases List.mem_append.mp hy with hy | hy
    · obtain ⟨u, hu, rfl⟩ := List.mem_map.mp hy
      have := row_gt (z := (B : Int)) hp (fun x hx => Int.ofNat_lt.mpr (hpB x hx)) u hu
      rw [List.length_cons]
      clear hq ht hp hpB hy hu; omega
    · rcases List.mem_cons.mp hy with rfl | hy
      · exact hB
      · obtain ⟨u, hu, rfl⟩ := List.mem_map.mp hy
        have := hq u hu
        clear hq ht hp hpB hy hu; omega
theorem cut_at {b : List Nat} {i : Nat} (hi : i < b.length) : ∃ p B r, b = p ++ B :: r ∧ p.length = i :=
  ⟨b.take i, b[i], b.drop (i + 1), by rw [← List.drop_eq_getElem_cons hi, List.take_append_drop], by rw [List.length_take]; exact Nat.min_eq_left (Nat.le_of_lt hi)⟩
theorem get_cut (p q t : List Nat) (B : Nat) : (rowsL (p ++ B :: (q ++ t))).getD p.length 0 = (B : Int) - ((q ++ t).length : Int) := by
  rw [rows_cut, List.append_assoc]
  simp only [List.getD]
  rw [List.getElem?_append_right (by rw [List.length_map, rowsL_len]; exact Nat.le_refl _), List.length_map, rowsL_len, Nat.sub_self]
  rfl

theorem step_gen {s : Nat} (hs : 0 < s) {b : List Nat} (hd : Desc b) {i j : Nat} (hi : i < b.length) (hj : (j : Int) < (rowsL b).getD i 0) (hk : (rowsL b).getD i 0 - (j : Int) + tallI (rowsL b) j - (i : Int) - 1 = (s : Int)) :
    ∃ (b' : List Nat) (L : Nat), stepOf (rowsL b) ((i : Int), (j : Int)) = rowsL b' ∧ Desc b' ∧ b'.length = b.length ∧ StepB s b b' L ∧ tallI (rowsL b) j - 1 - (i : Int) = (L : Int) ∧ L < b.length ∧ ∀ x ∈ b', ∃ y ∈ b, x ≤ y := by
  obtain ⟨p, B, r, rfl, rfl⟩ := cut_at hi
  obtain ⟨dp, hd2, dpr⟩ := List.pairwise_append.mp hd
  obtain ⟨dB, dr⟩ := List.pairwise_cons.mp hd2
  obtain ⟨q, t, rfl, hq, ht⟩ := split_row (j : Int) r dr
  have hpB : ∀ x ∈ p, B < x := fun x hx => dpr x hx B List.mem_cons_self
  rw [get_cut] at hj hk
  have htall := tall_cut dp hpB hj hq ht
  rw [htall] at hk
  have hlen : ((q ++ t).length : Int) = (q.length : Int) + (t.length : Int) := by rw [List.length_append, Int.natCast_add]
  have hjv : (j : Int) = (B : Int) - (t.length : Int) - (s : Int) := by rw [hlen] at hk; clear hq ht htall; omega
  have hsB : s ≤ B := by clear hq ht htall hk hj; omega
  obtain ⟨dq, dt, dqt⟩ := List.pairwise_append.mp dr
  have hqv : ∀ x ∈ q, B - s < x ∧ x < B := fun x hx => ⟨by
    have := of_gt hq x hx
    clear hq ht htall hk hj; omega, dB x (List.mem_append.mpr (.inl hx))⟩
  have htv : ∀ x ∈ t, x < B - s := fun x hx => by
    have := of_le dt ht x hx
    clear hq ht htall hk hj; omega
  refine ⟨p ++ (q ++ (B - s) :: t), q.length, ?_, ?_, ?_, ⟨p, q, t, B, rfl, rfl, hsB, hpB, hqv, htv, rfl⟩, ?_, ?_, ?_⟩
  · have e2 : (tallI (rowsL (p ++ B :: (q ++ t))) (j : Int) - 1 + 1).toNat = p.length + 1 + q.length := by rw [htall, Int.sub_add_cancel]; rfl
    have e1 : (min (tallI (rowsL (p ++ B :: (q ++ t))) (j : Int) - 1 + 1).toNat (rowsL (p ++ B :: (q ++ t))).length - ((p.length : Int) + 1).toNat) = q.length := by
      rw [e2, rowsL_len, List.length_append, List.length_cons, List.length_append, Nat.min_eq_left (by clear hq ht htall hk hj hjv e2; omega)]
      exact Nat.add_sub_cancel_left (p.length + 1) q.length
    unfold stepOf
    dsimp only
    rw [e1, e2, Int.toNat_natCast, show ((p.length : Int) + 1).toNat = p.length + 1 from rfl, rows_cut]
    have l1 : ((rowsL p).map (· - ((B :: (q ++ t)).length : Int))).length = p.length := by rw [List.length_map, rowsL_len]
    have l2 : ((rowsL q).map (· - (t.length : Int))).length = q.length := by rw [List.length_map, rowsL_len]
    have d1 : (((rowsL p).map (· - ((B :: (q ++ t)).length : Int)) ++ ((B : Int) - ((q ++ t).length : Int)) :: (rowsL q).map (· - (t.length : Int))) ++ rowsL t).drop (p.length + 1) = (rowsL q).map (· - (t.length : Int)) ++ rowsL t := by
      rw [List.append_assoc, ← List.drop_drop, List.drop_left' l1]; rfl
    have d2 : (((rowsL p).map (· - ((B :: (q ++ t)).length : Int)) ++ ((B : Int) - ((q ++ t).length : Int)) :: (rowsL q).map (· - (t.length : Int))) ++ rowsL t).drop (p.length + 1 + q.length) = rowsL t := by
      rw [← List.drop_drop, d1, List.drop_left' l2]
    have d3 : (((rowsL p).map (· - ((B :: (q ++ t)).length : Int)) ++ ((B : Int) - ((q ++ t).length : Int)) :: (rowsL q).map (· - (t.length : Int))) ++ rowsL t).take p.length = (rowsL p).map (· - ((B :: (q ++ t)).length : Int)) := by
      rw [List.append_assoc, List.take_left' l1]
    rw [d1, d2, d3, List.take_left' l2, rowsL_app, rowsL_app, List.map_map]
    have e3 : ((· - 1) ∘ (· - (t.length : Int)) : Int → Int) = (· - (((B - s) :: t).length : Int)) := by
      funext x
      show x - (t.length : Int) - 1 = x - ((t.length + 1 : Nat) : Int)
      rw [Int.sub_sub]; rfl
    have e4 : ((B :: (q ++ t)).length : Int) = ((q ++ (B - s) :: t).length : Int) := by simp only [List.length_cons, List.length_append]; rfl
    have e5 : rowsL ((B - s) :: t) = (j : Int) :: rowsL t := by
      show (((B - s : Nat) : Int) - (t.length : Int)) :: _ = _
      congr 1
      clear hq ht htall hk hj; omega
    rw [e3, e4, e5]
    simp only [List.append_assoc, List.singleton_append]
  · refine List.pairwise_append.mpr ⟨dp, List.pairwise_append.mpr ⟨dq, List.pairwise_cons.mpr ⟨htv, dt⟩, fun x hx y hy => ?_⟩, fun x hx y hy => ?_⟩
    · rcases List.mem_cons.mp hy with rfl | hy
      · exact (hqv x hx).1
      · exact dqt x hx y hy
    · rcases List.mem_append.mp hy with hy | hy
      · exact dpr x hx y (List.mem_cons_of_mem _ (List.mem_append.mpr (.inl hy)))
      · rcases List.mem_cons.mp hy with rfl | hy
        · exact Nat.lt_of_le_of_lt (Nat.sub_le _ _) (hpB x hx)
        · exact dpr x hx y (List.mem_cons_of_mem _ (List.mem_append.mpr (.inr hy)))
  · simp only [List.length_append, List.length_cons]; rfl
  · rw [htall]; clear hq ht htall hk hj hjv; omega
  · simp only [List.length_append, List.length_cons]; clear hq ht htall hk hj hjv; omega
  · intro x hx
    rcases List.mem_append.mp hx with hx | hx
    · exact ⟨x, List.mem_append.mpr (.inl hx), Nat.le_refl _⟩
    · refine ⟨B, List.mem_append.mpr (.inr List.mem_cons_self), ?_⟩
      rcases List.mem_append.mp hx with hx | hx
      · exact Nat.le_of_lt (hqv x hx).2
      · rcases List.mem_cons.mp hx with rfl | hx
        · exact Nat.sub_le _ _
        · exact Nat.le_trans (Nat.le_of_lt (htv x hx)) (Nat.sub_le _ _)

theorem found_of {rs : List Int} {size : Int} {i j : Nat} (hi : i < 5) (hj : j < nAt rs i) (h : hookT rs size i j = true) : ((i : Int), (j : Int)) ∈ foundOf rs size := by
  unfold foundOf
  refine List.mem_flatMap.mpr ⟨i, List.mem_range.mpr hi, List.mem_flatMap.mpr ⟨j, List.mem_range.mpr hj, ?_⟩⟩
  rw [if_pos h]; exact List.mem_singleton.mpr rfl

theorem step_five {s : Nat} (hs : 0 < s) {b : List Nat} (hd : Desc b) (hl : b.length = 5) {p : Int × Int} (hp : p ∈ foundOf (rowsL b) s) :
    ∃ (b' : List Nat) (L : Nat), stepOf (rowsL b) p = rowsL b' ∧ Desc b' ∧ b'.length = 5 ∧ StepB s b b' L ∧ tallI (rowsL b) p.2 - 1 - p.1 = (L : Int) ∧ L ≤ 4 ∧ ∀ x ∈ b', ∃ y ∈ b, x ≤ y := by
  obtain ⟨i, j, rfl, hi, hj, hk⟩ := mem_found hp
  have hj' : (j : Int) < (rowsL b).getD i 0 := Int.lt_toNat.mp hj
  have hk' : (rowsL b).getD i 0 - (j : Int) + tallI (rowsL b) j - (i : Int) - 1 = (s : Int) := eq_of_beq hk
  obtain ⟨b', L, h1, h2, h3, h4, h5, h6, h7⟩ := step_gen hs hd (hl ▸ hi) hj' hk'
  exact ⟨b', L, h1, h2, h3.trans hl, h4, h5, Nat.le_of_lt_succ (Nat.lt_of_lt_of_eq h6 hl), h7⟩

theorem core_five {s : Nat} (hs : 0 < s) {b : List Nat} (hd : Desc b) (hl : b.length = 5) (hf : foundOf (rowsL b) s = []) : ∀ B ∈ b, s ≤ B → B - s ∈ b := fun B hB hsB => by
  by_cases hm : B - s ∈ b
  · exact hm
  · exfalso
    obtain ⟨p, r, rfl⟩ := List.append_of_mem hB
    obtain ⟨dp, hd2, dpr⟩ := List.pairwise_append.mp hd
    obtain ⟨dB, dr⟩ := List.pairwise_cons.mp hd2
    have hpB : ∀ x ∈ p, B < x := fun x hx => dpr x hx B List.mem_cons_self
    obtain ⟨q, t, rfl, hq, ht⟩ := split_at (B - s) r dr fun e => hm (List.mem_append.mpr (.inr (List.mem_cons_of_mem _ e)))
    obtain ⟨dq, dt, dqt⟩ := List.pairwise_append.mp dr
    have htl : t.length ≤ B - s := by
      cases t with
      | nil => exact Nat.zero_le _
      | cons x t =>
        have h1 := desc_len (z := -1) dt fun y _ => by omega
        have h2 := ht x List.mem_cons_self
        rw [List.length_cons]
        clear hm hd dr dq dt dqt dp dpr hpB hq ht hf hB dB hl; omega
    have hql : q.length < s := by
      have := desc_len (z := ((B - s : Nat) : Int)) (x := B) (l := q) (List.pairwise_cons.mpr ⟨fun x hx => dB x (List.mem_append.mpr (.inl hx)), dq⟩) fun y hy => by
        rcases List.mem_cons.mp hy with rfl | hy
        · clear hm hd dr dq dt dqt dp dpr hpB hq ht hf hB dB hl; omega
        · exact Int.ofNat_lt.mpr (hq y hy)
      clear hm hd dr dq dt dqt dp dpr hpB hq ht hf hB dB hl; omega
    have hjc : ((B - s - t.length : Nat) : Int) = (B : Int) - (s : Int) - (t.length : Int) := by clear hm hd dr dq dt dqt dp dpr hpB hq ht hf hB dB hl; omega
    have hlen : ((q ++ t).length : Int) = (q.length : Int) + (t.length : Int) := by rw [List.length_append, Int.natCast_add]
    have hjB : ((B - s - t.length : Nat) : Int) < (B : Int) - ((q ++ t).length : Int) := by rw [hjc, hlen]; clear hm hd dr dq dt dqt dp dpr hpB hq ht hf hB dB hl hjc; omega
    have htall := tall_cut (j := ((B - s - t.length : Nat) : Int)) dp hpB hjB
      (fun y hy => by
        have := row_gt (z := ((B - s : Nat) : Int)) dq (fun x hx => Int.ofNat_lt.mpr (hq x hx)) y hy
        clear hm hd dr dq dt dqt dp dpr hpB hq ht hf hB dB hl hy; omega)
      (fun y hy => by
        have := row_le (z := ((B - s : Nat) : Int)) dt (fun x hx => Int.ofNat_lt.mpr (ht x hx)) y hy
        clear hm hd dr dq dt dqt dp dpr hpB hq ht hf hB dB hl hy; omega)
    have hp5 : p.length < 5 := by rw [← hl, List.length_append, List.length_cons]; exact Nat.lt_add_of_pos_right (Nat.succ_pos _)
    have := found_of (rs := rowsL (p ++ B :: (q ++ t))) (size := (s : Int)) (i := p.length) (j := B - s - t.length) hp5 (by unfold nAt; rw [get_cut]; exact Int.lt_toNat.mpr hjB) (by
      unfold hookT
      rw [get_cut, htall, hjc, hlen]
      refine beq_iff_eq.mpr ?_
      clear hm hd dr dq dt dqt dp dpr hpB hq ht hf hB dB hl hjc htall hjB hlen; omega)
    rw [hf] at this; cases this


noncomputable def divs (l : List Nat) (tab : Nat) : Nat := (l.map (· / tab)).sum
theorem divs_one (l : List Nat) : divs l 1 = l.sum := by
  unfold divs
  congr 1
  conv => rhs; rw [← List.map_id l]
  exact List.map_congr_left fun x _ => Nat.div_one x

structure Ran (s : Nat) (b b' : List Nat) (tk lg : Nat) : Prop where
  perm : (fal s b').Perm (fal s b)
  par : (asc (fal s b) + asc (fal s b') + lg) % 2 = 0
  div : ∀ tab, 0 < tab → tab ∣ s → divs b tab = divs b' tab + tk * (s / tab)
  few : lg ≤ 4 * tk
theorem Ran.zero (s : Nat) (b : List Nat) : Ran s b b 0 0 :=
  ⟨.refl _, by rw [Nat.add_zero, ← Nat.two_mul, Nat.mul_mod_right], fun tab _ _ => by rw [Nat.zero_mul, Nat.add_zero], Nat.le_refl _⟩
theorem Ran.more {s : Nat} (hs : 0 < s) {b b' b'' : List Nat} {L tk lg : Nat} (hS : StepB s b b' L) (hL : L ≤ 4) (R : Ran s b' b'' tk lg) : Ran s b b'' (tk + 1) (lg + L) := by
  obtain ⟨hperm, hpar⟩ := fal_step hs hS
  obtain ⟨r1, r2, r3, r4⟩ := R
  refine ⟨r1.trans hperm, ?_, fun tab ht hd => ?_, ?_⟩
  · clear r1 r3 r4 hperm hS hL hs; omega
  · have h1 : divs b tab = divs b' tab + s / tab := div_step ht hd hS
    rw [h1, r3 tab ht hd, Nat.succ_mul, Nat.add_assoc]
  · clear r1 r2 r3 hpar hperm hS hs; omega

theorem bare_run {s : Nat} (hs : 0 < s) (turns : List Int) : ∀ (N : Nat) (b : List Nat) (taken legs : Int), Desc b → b.length = 5 → b.sum ≤ N →
    ∃ (b' : List Nat) (tk lg : Nat), bareF (s : Int) turns (N + 1) (rowsL b) taken legs = some (rowsL b', taken + tk, legs + lg) ∧ Desc b' ∧ b'.length = 5 ∧ (∀ x ∈ b', ∃ y ∈ b, x ≤ y) ∧ Ran s b b' tk lg ∧ foundOf (rowsL b') s = [] := by
  intro N
  induction N with
  | zero =>
    intro b taken legs hd hl hN
    cases hf : (foundOf (rowsL b) (s : Int)).isEmpty with
    | true =>
      refine ⟨b, 0, 0, ?_, hd, hl, fun x hx => ⟨x, hx, Nat.le_refl _⟩, .zero s b, List.isEmpty_iff.mp hf⟩
      rw [bareF, if_pos hf, Int.natCast_zero, Int.add_zero, Int.add_zero]
    | false =>
      exfalso
      obtain ⟨b', L, _, _, _, hS, _⟩ := step_five hs hd hl (pick_mem turns taken hf)
      have := div_step (s := s) (tab := 1) (by decide) (Nat.one_dvd s) hS
      have h1 := divs_one b
      unfold divs at h1
      rw [h1, Nat.div_one] at this
      clear hd hl hS hf h1; omega
  | succ N ih =>
    intro b taken legs hd hl hN
    cases hf : (foundOf (rowsL b) (s : Int)).isEmpty with
    | true =>
      refine ⟨b, 0, 0, ?_, hd, hl, fun x hx => ⟨x, hx, Nat.le_refl _⟩, .zero s b, List.isEmpty_iff.mp hf⟩
      rw [bareF, if_pos hf, Int.natCast_zero, Int.add_zero, Int.add_zero]
    | false =>
      obtain ⟨b', L, hst, hd', hl', hS, hL, hL4, hmx⟩ := step_five hs hd hl (pick_mem turns taken hf)
      have hsum := div_step (s := s) (tab := 1) (by decide) (Nat.one_dvd s) hS
      have h1 := divs_one b
      have h2 := divs_one b'
      unfold divs at h1 h2
      rw [h1, h2, Nat.div_one] at hsum
      obtain ⟨b₂, tk, lg, hr, hd₂, hl₂, hmx₂, R, hfin⟩ := ih b' (taken + 1) (legs + L) hd' hl' (by clear ih hd hl hd' hl' hS hf h1 h2 hmx hst hL; omega)
      refine ⟨b₂, tk + 1, lg + L, ?_, hd₂, hl₂, fun x hx => ?_, R.more hs hS hL4, hfin⟩
      · rw [bareF, if_neg (by rw [hf]; exact Bool.false_ne_true), hst, hL, hr, Int.natCast_add, Int.natCast_add, Int.natCast_one, Int.add_assoc, Int.add_assoc, Int.add_comm 1, Int.add_comm (L : Int)]
      · obtain ⟨y, hy, h3⟩ := hmx₂ x hx
        obtain ⟨z, hz, h4⟩ := hmx y hy
        exact ⟨z, hz, Nat.le_trans h3 h4⟩

noncomputable def G5 (rs : List Int) : Prop := ∃ b : List Nat, rs = rowsL b ∧ Desc b ∧ b.length = 5 ∧ ∀ x ∈ b, x ≤ 14
theorem rows_bound : ∀ {l : List Nat}, Desc l → ∀ y ∈ rowsL l, 0 ≤ y := fun {l} hd y hy => by
  have := row_gt (z := -1) hd (fun x _ => by omega) y hy
  omega
theorem G5.good {rs : List Int} (h : G5 rs) : Good rs := by
  obtain ⟨b, rfl, hd, hl, hm⟩ := h
  refine ⟨(rowsL_len b).trans hl, fun i hi => ?_⟩
  match b, hl with
  | x :: l, hl =>
    have h1 := row_le (z := (x : Int) + 1) hd fun u hu => by
      rcases List.mem_cons.mp hu with rfl | hu
      · omega
      · have := (List.pairwise_cons.mp hd).1 u hu; omega
    have hmem : (rowsL (x :: l)).getD i 0 ∈ rowsL (x :: l) := getD_mem' (by rw [rowsL_len, hl]; exact hi)
    have h2 := h1 _ hmem
    have h3 := rows_bound hd _ hmem
    have h4 := hm x List.mem_cons_self
    have e : (rowsL (x :: l)).getD 0 0 = (x : Int) - (l.length : Int) := rfl
    rw [e]
    rw [List.length_cons] at h2
    clear h1 hmem hm hd; omega
theorem G5.step {s : Nat} (hs : 0 < s) {rs : List Int} {p : Int × Int} (h : G5 rs) (hp : p ∈ foundOf rs s) : G5 (stepOf rs p) := by
  obtain ⟨b, rfl, hd, hl, hm⟩ := h
  obtain ⟨b', L, hst, hd', hl', _, _, _, hmx⟩ := step_five hs hd hl hp
  exact ⟨b', hst, hd', hl', fun x hx => let ⟨y, hy, h⟩ := hmx x hx; Nat.le_trans h (hm y hy)⟩


noncomputable def num : List Nat → Nat
  | [] => 0
  | d :: ds => d + 16 * num ds
noncomputable def goodD : List Nat → Prop
  | [] => True
  | [d] => d ≠ 0
  | _ :: d :: ds => goodD (d :: ds)
theorem goodD_snoc : ∀ (ds : List Nat) {x : Nat}, x ≠ 0 → goodD (ds ++ [x])
  | [], x, h => h
  | [d], x, h => h
  | d :: d' :: ds, x, h => goodD_snoc (d' :: ds) h
theorem goodD_tail {d : Nat} {ds : List Nat} (h : goodD (d :: ds)) : goodD ds := by
  cases ds with
  | nil => trivial
  | cons _ _ => exact h
theorem num_pos : ∀ {d : Nat} {ds : List Nat}, goodD (d :: ds) → num (d :: ds) ≠ 0
  | d, [], h => by simp only [num]; have : d ≠ 0 := h; omega
  | d, d' :: ds, h => by
    have := num_pos (d := d') (ds := ds) h
    simp only [num] at this ⊢; omega
theorem ap_num : ∀ (ds : List Nat), (∀ d ∈ ds, d < 16) → goodD ds → ∀ f acc, ds.length ≤ f → apF f (num ds) acc = (ds.map fun d => (65 + d).toUInt8).reverse ++ acc
  | [], _, _, f, acc, _ => by simp [num, apF_zero]
  | d :: ds, h1, h2, f, acc, hl => by
    obtain ⟨f, rfl⟩ : ∃ g, f = g + 1 := ⟨f - 1, by simp only [List.length_cons] at hl; omega⟩
    have hd := h1 d List.mem_cons_self
    rw [apF_step _ _ _ (num_pos h2)]
    have e1 : num (d :: ds) / 16 = num ds := by simp only [num]; omega
    have e2 : num (d :: ds) % 16 = d := by simp only [num]; omega
    rw [e1, e2, ap_num ds (fun x hx => h1 x (List.mem_cons_of_mem _ hx)) (goodD_tail h2) f _ (by simpa using hl)]
    simp
theorem num_lt : ∀ (ds : List Nat), (∀ d ∈ ds, d < 16) → num ds < 16 ^ ds.length
  | [], _ => by simp [num]
  | d :: ds, h => by
    have h1 := num_lt ds fun x hx => h x (List.mem_cons_of_mem _ hx)
    have h2 := h d List.mem_cons_self
    simp only [num, List.length_cons, Nat.pow_succ]; omega
theorem num_add (g h : Nat → Nat) : ∀ l : List Nat, num (l.map fun x => g x + h x) = num (l.map g) + num (l.map h)
  | [] => rfl
  | x :: l => by
    have := num_add g h l
    simp only [List.map_cons, num] at this ⊢; omega
theorem num_zero : ∀ l : List Nat, num (l.map fun _ => 0) = 0
  | [] => rfl
  | x :: l => by have := num_zero l; simp only [List.map_cons, num] at this ⊢; omega
theorem num_one : ∀ (n q : Nat), q < n → num ((List.range n).map fun p => if decide (p = q) = true then 1 else 0) = 16 ^ q
  | 0, q, h => absurd h (Nat.not_lt_zero _)
  | n + 1, 0, _ => by
    rw [List.range_succ_eq_map, List.map_cons, List.map_map]
    have : ((List.range n).map ((fun p => if decide (p = 0) = true then 1 else 0) ∘ Nat.succ)) = (List.range n).map fun _ => 0 := List.map_congr_left fun x _ => by simp
    rw [num, this, num_zero]; rfl
  | n + 1, q + 1, h => by
    have ih := num_one n q (by omega)
    rw [List.range_succ_eq_map, List.map_cons, List.map_map]
    have : ((List.range n).map ((fun p => if decide (p = q + 1) = true then 1 else 0) ∘ Nat.succ)) = (List.range n).map fun p => if decide (p = q) = true then 1 else 0 := List.map_congr_left fun x _ => by simp
    rw [num, this, ih, Nat.pow_succ]; simp; omega
noncomputable def indD (l : List Nat) (p : Nat) : Nat := l.countP fun x => decide (p = x)
noncomputable def nsum (l : List Nat) : Nat := (l.map fun p => 16 ^ p).sum
theorem num_ind (n : Nat) : ∀ l : List Nat, (∀ x ∈ l, x < n) → num ((List.range n).map (indD l)) = nsum l
  | [], _ => num_zero _
  | x :: l, h => by
    have ih := num_ind n l fun y hy => h y (List.mem_cons_of_mem _ hy)
    have e : (List.range n).map (indD (x :: l)) = (List.range n).map fun p => indD l p + (if decide (p = x) = true then 1 else 0) := List.map_congr_left fun p _ => by
      unfold indD; rw [List.countP_cons]
    rw [e, num_add, ih, num_one n x (h x List.mem_cons_self)]
    simp only [nsum, List.map_cons, List.sum_cons]; omega
theorem indD_eq {l : List Nat} (hn : l.Nodup) (p : Nat) : indD l p = if p ∈ l then 1 else 0 := by
  unfold indD
  have e : (fun x => decide (p = x)) = fun x : Nat => decide (x = p) := by funext x; exact decide_eq_decide.mpr ⟨Eq.symm, Eq.symm⟩
  rw [e]
  by_cases h : p ∈ l
  · rw [if_pos h, cp_one hn h]
  · rw [if_neg h, cp_zero _ _ fun y hy => decide_eq_false (fun q : y = p => h (q ▸ hy))]

noncomputable abbrev casts' (l : List Nat) : List Int := l.map fun p : Nat => (p : Int)
theorem pow16_casts : ∀ l : List Nat, pow16 (casts' l) = ((nsum l : Nat) : Int)
  | [] => rfl
  | x :: l => by
    have ih := pow16_casts l
    unfold pow16 nsum at ih ⊢
    simp only [List.map_cons, List.sum_cons, Int.toNat_natCast] at ih ⊢
    rw [ih, Int.natCast_add, Int.natCast_pow]; rfl
theorem any_casts (l : List Nat) (p : Nat) : (casts' l).any (· == (p : Int)) = decide (p ∈ l) := by
  induction l with
  | nil => rfl
  | cons x l ih =>
    show ((x : Int) == (p : Int) || _) = _
    have : List.any (List.map (fun p : Nat => (p : Int)) l) (· == (p : Int)) = decide (p ∈ l) := ih
    rw [this]
    by_cases h : x = p
    · subst h; simp
    · have h1 : ((x : Int) == (p : Int)) = false := by simp; omega
      rw [h1, Bool.false_or]
      exact decide_eq_decide.mpr ⟨fun q => List.mem_cons_of_mem _ q, fun q => (List.mem_cons.mp q).resolve_left fun e => h e.symm⟩

/-- the letters of a set of places -/
theorem word_of {l : List Nat} (hn : l.Nodup) {M : Nat} (hM : M ∈ l) (hmx : ∀ x ∈ l, x ≤ M) :
    nsum l < 16 ^ (M + 1) ∧ apF (M + 1) (nsum l) [] = ((List.range (M + 1)).map fun p => (if p ∈ l then 66 else 65 : UInt8)).reverse ∧ apF (M + 1) (nsum l) [] = (byteArr (wordOf M (casts' l))).toList := by
  have hni := num_ind (M + 1) l fun x hx => Nat.lt_succ_of_le (hmx x hx)
  have hlt : ∀ d ∈ (List.range (M + 1)).map (indD l), d < 16 := fun d hd => by
    obtain ⟨p, _, rfl⟩ := List.mem_map.mp hd
    rw [indD_eq hn]; split <;> decide
  have hgood : goodD ((List.range (M + 1)).map (indD l)) := by
    rw [List.range_succ, List.map_append]
    refine goodD_snoc _ ?_
    rw [indD_eq hn, if_pos hM]; decide
  have h1 := num_lt _ hlt
  rw [hni, List.length_map, List.length_range] at h1
  have h2 := ap_num _ hlt hgood (M + 1) [] (by simp)
  rw [hni, List.append_nil, List.map_map] at h2
  have e : (List.range (M + 1)).map ((fun d => (65 + d).toUInt8) ∘ indD l) = (List.range (M + 1)).map fun p => (if p ∈ l then 66 else 65 : UInt8) := List.map_congr_left fun p _ => by
    show (65 + indD l p).toUInt8 = _
    rw [indD_eq hn]
    by_cases h : p ∈ l
    · rw [if_pos h, if_pos h]; rfl
    · rw [if_neg h, if_neg h]; rfl
  rw [e] at h2
  refine ⟨h1, h2, ?_⟩
  rw [h2]
  have e2 : (byteArr (wordOf M (casts' l))).toList = (List.range (M + 1)).map fun j => (if M - j ∈ l then 66 else 65 : UInt8) := by
    unfold byteArr wordOf
    simp only [List.map_map]
    refine List.map_congr_left fun j hj => ?_
    have hj' := List.mem_range.mp hj
    show _ = _
    simp only [Function.comp]
    have ec : (M : Int) + (j : Int) * (-1) = ((M - j : Nat) : Int) := by omega
    rw [ec, any_casts]
    by_cases h : M - j ∈ l
    · rw [decide_eq_true h, if_pos rfl, if_pos h]; rfl
    · rw [decide_eq_false h, if_neg Bool.false_ne_true, if_neg h]; rfl
  rw [e2]
  apply List.ext_getElem
  · simp
  · intro i h1 h2
    simp only [List.length_reverse, List.length_map, List.length_range] at h1
    simp only [List.getElem_reverse, List.getElem_map, List.getElem_range, List.length_map, List.length_range]
    rw [show M + 1 - 1 - i = M - i by omega]


noncomputable def fv (s : Nat) (l : List Nat) (p : Nat) : Nat := p % s + s * rk s l p
noncomputable def outE (s : Nat) (l : List Nat) (q k : Nat) : List Int := (List.range k).flatMap fun i => if q + i ∈ l then [((fv s l (q + i) : Nat) : Int)] else []
theorem outE_add (s : Nat) (l : List Nat) (q k m : Nat) : outE s l q (k + m) = outE s l q k ++ outE s l (q + k) m := by
  unfold outE
  rw [List.range_add, List.flatMap_append, List.flatMap_map]
  congr 2
  funext i
  rw [Nat.add_assoc]
theorem outE_succ (s : Nat) (l : List Nat) (q k : Nat) : outE s l q (k + 1) = outE s l q k ++ (if q + k ∈ l then [((fv s l (q + k) : Nat) : Int)] else []) := by
  rw [outE_add]
  simp [outE]

theorem colF_run {s q : Nat} (hs : 0 < s) {l : List Nat} (P : List UInt8) (hP : ∀ i, i < P.length → P.getD i 0 = if q + i ∈ l then 66 else 65) (hPs : P.length ≤ s) (hq : q % s = 0) (acc dep : List Int) (hd : dep.length = s)
    (hdep : ∀ i, i < s → dep.getD i 0 = (rk s l (q + i) : Int)) : ∀ k, k ≤ P.length →
    (colF (s : Int) P.reverse k (acc, dep)).1 = acc ++ outE s l q k ∧ (colF (s : Int) P.reverse k (acc, dep)).2.length = s ∧ ∀ i, i < s → (colF (s : Int) P.reverse k (acc, dep)).2.getD i 0 = (rk s l (q + i) : Int) + (if i < k ∧ q + i ∈ l then 1 else 0)
  | 0, _ => ⟨by simp [colF, outE], hd, fun i hi => by rw [if_neg (fun h => absurd h.1 (Nat.not_lt_zero _)), Int.add_zero]; exact hdep i hi⟩
  | k + 1, hk => by
    obtain ⟨h1, h2, h3⟩ := colF_run hs P hP hPs hq acc dep hd hdep k (by omega)
    have hk' : k < P.length := by omega
    have hg : P.reverse.getD (P.reverse.length - 1 - k) 0 = P.getD k 0 := by
      simp only [List.getD, List.length_reverse]
      rw [List.getElem?_reverse (by omega)]
      congr 2
      omega
    have e : colF (s : Int) P.reverse (k + 1) (acc, dep) = colStep (s : Int) P.reverse k (colF (s : Int) P.reverse k (acc, dep)) := rfl
    rw [e, outE_succ]
    unfold colStep
    rw [hg, hP k hk']
    have hdk := h3 k (by omega)
    rw [if_neg (fun h => absurd h.1 (Nat.lt_irrefl _)), Int.add_zero] at hdk
    by_cases hm : q + k ∈ l
    · rw [if_pos hm, if_pos (by decide), if_pos hm, hdk]
      refine ⟨?_, by simp [h2], fun i hi => ?_⟩
      · rw [h1, List.append_assoc]
        congr 2
        have hmod : (q + k) % s = k := by
          rw [Nat.add_mod, hq, Nat.zero_add, Nat.mod_mod, Nat.mod_eq_of_lt (by omega)]
        unfold fv
        rw [hmod, Int.natCast_add, Int.natCast_mul]
      · by_cases hik : i = k
        · subst hik
          rw [if_pos ⟨Nat.lt_succ_self _, hm⟩]
          simp only [List.getD, List.getElem?_set_self (show i < (colF (s : Int) P.reverse i (acc, dep)).2.length by omega), Option.getD_some]
        · have : (colF (s : Int) P.reverse k (acc, dep)).2.getD i 0 = ((colF (s : Int) P.reverse k (acc, dep)).2.set k ((rk s l (q + k) : Int) + 1)).getD i 0 := by
            simp only [List.getD, List.getElem?_set_ne (Ne.symm hik)]
          rw [← this, h3 i hi]
          congr 1
          by_cases hlt : i < k
          · by_cases hmi : q + i ∈ l
            · rw [if_pos ⟨hlt, hmi⟩, if_pos ⟨by omega, hmi⟩]
            · rw [if_neg (fun h => hmi h.2), if_neg (fun h => hmi h.2)]
          · rw [if_neg (fun h => hlt h.1), if_neg (fun h => by omega)]
    · rw [if_neg hm, if_neg (by decide), if_neg hm, List.append_nil]
      refine ⟨h1, h2, fun i hi => ?_⟩
      rw [h3 i hi]
      congr 1
      by_cases hmi : q + i ∈ l
      · have hne : i ≠ k := fun h => hm (h ▸ hmi)
        by_cases hlt : i < k
        · rw [if_pos ⟨hlt, hmi⟩, if_pos ⟨by omega, hmi⟩]
        · rw [if_neg (fun h => hlt h.1), if_neg (fun h => by omega)]
      · rw [if_neg (fun h => hmi h.2), if_neg (fun h => hmi h.2)]

noncomputable def wrd (l : List Nat) (n q : Nat) : List UInt8 := (List.range (n - q)).map fun i => if q + i ∈ l then 66 else 65
theorem wrd_take (l : List Nat) (n q k : Nat) (i : Nat) (hi : i < ((wrd l n q).take k).length) : ((wrd l n q).take k).getD i 0 = if q + i ∈ l then 66 else 65 := by
  simp only [wrd, List.length_take, List.length_map, List.length_range] at hi
  have h1 : i < n - q := by omega
  have h2 : i < k := by omega
  simp [wrd, List.getD, List.getElem?_take, h1, h2]
theorem wrd_drop (l : List Nat) (n q k : Nat) : (wrd l n q).drop k = wrd l n (q + k) := by
  unfold wrd
  apply List.ext_getElem
  · simp; omega
  · intro i h1 h2
    simp [Nat.add_assoc]
theorem pick_last (W : List UInt8) {s : Nat} (hs : 0 < s) : pickB W.reverse (some (-(s : Int))) none = (W.take s).reverse := by
  unfold pickB
  have e : clipAt W.reverse.length (-(s : Int)) = W.length - s := by rw [clipNeg _ _ hs, List.length_reverse]
  simp only [Option.elim, e]
  rw [List.drop_reverse, List.length_reverse, List.take_of_length_le (by simp)]
  congr 1
  by_cases h : s ≤ W.length
  · rw [Nat.sub_sub_self h]
  · have h' := Nat.le_of_lt (Nat.lt_of_not_le h)
    rw [Nat.sub_eq_zero_of_le h', Nat.sub_zero, List.take_length, List.take_of_length_le h']
theorem pick_front (W : List UInt8) {s : Nat} (hs : 0 < s) : pickB W.reverse none (some (-(s : Int))) = (W.drop s).reverse := by
  unfold pickB
  have e : clipAt W.reverse.length (-(s : Int)) = W.length - s := by rw [clipNeg _ _ hs, List.length_reverse]
  simp only [Option.elim, e, List.drop_zero, Nat.sub_zero]
  rw [List.take_reverse]
  congr 1
  by_cases h : s ≤ W.length
  · rw [Nat.sub_sub_self h]
  · have h' := Nat.le_of_lt (Nat.lt_of_not_le h)
    rw [Nat.sub_eq_zero_of_le h', Nat.sub_zero, List.drop_length, List.drop_of_length_le h']

theorem fall_run {s : Nat} (hs : 0 < s) {l : List Nat} (hn : l.Nodup) {n : Nat} (hb : ∀ x ∈ l, x < n) : ∀ (f q : Nat) (acc dep : List Int), n - q < f → q % s = 0 → dep.length = s → (∀ i, i < s → dep.getD i 0 = (rk s l (q + i) : Int)) →
    fallF (s : Int) f (wrd l n q).reverse (acc, dep) = acc ++ outE s l q (n - q)
  | 0, q, acc, dep, h, _, _, _ => absurd h (Nat.not_lt_zero _)
  | f + 1, q, acc, dep, h, hq, hd, hdep => by
    rw [fallF]
    have hwl : (wrd l n q).length = n - q := by simp [wrd]
    by_cases h0 : n - q = 0
    · have : (wrd l n q).reverse.isEmpty = true := by
        rw [List.isEmpty_iff]
        exact List.reverse_eq_nil_iff.mpr (List.eq_nil_of_length_eq_zero (hwl.trans h0))
      rw [if_pos this, h0]
      simp [outE]
    · have : (wrd l n q).reverse.isEmpty = false := by
        cases hw : (wrd l n q).reverse with
        | nil =>
          have := congrArg List.length hw
          rw [List.length_reverse, hwl] at this
          exact absurd this h0
        | cons _ _ => rfl
      rw [if_neg (by rw [this]; decide), pick_last _ hs, pick_front _ hs, wrd_drop]
      have hpl : ((wrd l n q).take s).length = min s (n - q) := by rw [List.length_take, hwl]
      obtain ⟨c1, c2, c3⟩ := colF_run hs ((wrd l n q).take s) (fun i hi => wrd_take l n q s i hi) (by rw [hpl]; exact Nat.min_le_left _ _) hq acc dep hd hdep ((wrd l n q).take s).length (Nat.le_refl _)
      rw [List.length_reverse]
      generalize hst : colF (s : Int) ((wrd l n q).take s).reverse ((wrd l n q).take s).length (acc, dep) = st at c1 c2 c3
      obtain ⟨acc', dep'⟩ := st
      have ih := fall_run hs hn hb f (q + s) acc' dep' (by rw [Nat.sub_add_eq]; exact Nat.lt_of_lt_of_le (Nat.sub_lt (Nat.pos_of_ne_zero h0) hs) (Nat.le_of_lt_succ h)) (by rw [Nat.add_mod_right]; exact hq) c2 fun i hi => by
        rw [c3 i hi]
        have hu := rk_up (s := s) hs (b := l) (B := q + s + i) (Nat.le_trans (Nat.le_add_left s q) (Nat.le_add_right _ _))
        rw [Nat.add_right_comm, Nat.add_sub_cancel, Nat.add_right_comm] at hu
        rw [hu]
        have hc : l.countP (fun x => decide (x = q + i)) = if q + i ∈ l then 1 else 0 := by
          by_cases hm : q + i ∈ l
          · rw [if_pos hm, cp_one hn hm]
          · rw [if_neg hm, cp_zero _ _ fun y hy => decide_eq_false (fun e : y = q + i => hm (e ▸ hy))]
        rw [hc, Int.natCast_add]
        congr 1
        by_cases hm : q + i ∈ l
        · have hlt := hb _ hm
          rw [if_pos ⟨by rw [hpl]; exact Nat.lt_min.mpr ⟨hi, Nat.lt_sub_of_add_lt (Nat.add_comm q i ▸ hlt)⟩, hm⟩, if_pos hm]; rfl
        · rw [if_neg (fun h => hm h.2), if_neg hm]; rfl
      dsimp only at c1
      rw [ih, c1, List.append_assoc]
      congr 1
      rw [hpl]
      by_cases hle : s ≤ n - q
      · rw [Nat.min_eq_left hle]
        have : n - q = s + (n - (q + s)) := by rw [Nat.sub_add_eq, Nat.add_sub_cancel' hle]
        rw [this, outE_add]
      · rw [Nat.min_eq_right (Nat.le_of_not_le hle), show n - (q + s) = 0 by rw [Nat.sub_add_eq]; exact Nat.sub_eq_zero_of_le (Nat.le_of_not_le hle)]
        simp [outE]

theorem pickRange {α : Type} (g : Nat → α) : ∀ (k q : Nat) (L : List Nat), L.Pairwise (· < ·) → (∀ x ∈ L, q ≤ x ∧ x < q + k) → (List.range k).flatMap (fun i => if q + i ∈ L then [g (q + i)] else []) = L.map g
  | 0, q, L, _, h => by
    cases L with
    | nil => rfl
    | cons x L => have := h x List.mem_cons_self; omega
  | k + 1, q, L, hp, h => by
    rw [List.range_succ_eq_map, List.flatMap_cons, List.flatMap_map]
    cases L with
    | nil =>
      have ih := pickRange g k (q + 1) [] List.Pairwise.nil (fun x hx => nomatch hx)
      simp at ih ⊢
    | cons x L =>
      obtain ⟨hx1, hx2⟩ := h x List.mem_cons_self
      have hL : ∀ y ∈ L, x < y := (List.pairwise_cons.mp hp).1
      have hpL := (List.pairwise_cons.mp hp).2
      by_cases e : x = q
      · subst e
        have ih := pickRange g k (x + 1) L hpL fun y hy => by
          have h1 := hL y hy
          have h2 := h y (List.mem_cons_of_mem _ hy)
          omega
        rw [Nat.add_zero, if_pos List.mem_cons_self, List.map_cons, ← ih]
        show g x :: ([] ++ _) = g x :: _
        rw [List.nil_append]
        congr 2
        funext i
        have e1 : x + i.succ = x + 1 + i := by omega
        rw [e1]
        by_cases hm : x + 1 + i ∈ L
        · rw [if_pos hm, if_pos (List.mem_cons_of_mem _ hm)]
        · rw [if_neg hm, if_neg fun h => by
            rcases List.mem_cons.mp h with h | h
            · omega
            · exact hm h]
      · have ih := pickRange g k (q + 1) (x :: L) hp fun y hy => by
          have h2 := h y hy
          rcases List.mem_cons.mp hy with rfl | hy
          · omega
          · have := hL y hy; omega
        have hq : q + 0 ∉ x :: L := fun h' => by
          rcases List.mem_cons.mp h' with h' | h'
          · omega
          · have := hL _ h'; omega
        rw [if_neg hq, ← ih, List.nil_append]
        congr 1
        funext i
        rw [show q + i.succ = q + 1 + i by omega]

/-- what falls, in the places' own order -/
theorem fallen_of {s : Nat} (hs : 0 < s) {l : List Nat} (hp : l.Pairwise (· < ·)) {M : Nat} (hmx : ∀ x ∈ l, x ≤ M) :
    fallF (s : Int) (M + 2) ((List.range (M + 1)).map fun p => (if p ∈ l then 66 else 65 : UInt8)).reverse ([], List.replicate s 0) = casts' (fal s l) := by
  have hn : l.Nodup := hp.imp fun h => Nat.ne_of_lt h
  have hw : (List.range (M + 1)).map (fun p => (if p ∈ l then 66 else 65 : UInt8)) = wrd l (M + 1) 0 := by
    unfold wrd
    exact List.map_congr_left fun i _ => by rw [Nat.zero_add]
  rw [hw, fall_run hs hn (n := M + 1) (fun x hx => Nat.lt_succ_of_le (hmx x hx)) (M + 2) 0 [] (List.replicate s 0) (by omega) (Nat.zero_mod s) (by simp) fun i hi => by
    rw [Nat.zero_add, rk_small hi]
    simp [List.getD, hi]]
  rw [List.nil_append, Nat.sub_zero]
  unfold outE
  have := pickRange (fun p => ((fv s l p : Nat) : Int)) (M + 1) 0 l hp fun x hx => ⟨Nat.zero_le _, by have := hmx x hx; omega⟩
  rw [this]
  unfold fal
  show _ = List.map _ (List.map _ l)
  rw [List.map_map]
  exact List.map_congr_left fun x _ => rfl


-- the leads
theorem wsF_sp : ∀ (k : Nat) (r : List Nat) (c : List Int) (b : Nat) (nt : Int), wsF (List.replicate k 32 ++ r) c b nt = wsF r c (b + k) nt
  | 0, r, c, b, nt => rfl
  | k + 1, r, c, b, nt => by
    rw [List.replicate_succ, List.cons_append, wsF, if_pos rfl, wsF_sp k r c (b + 1) nt]
    congr 1; omega
theorem wsF_lead : ∀ (pl : List Nat) (by' : Nat) (c : List Int) (nt : Int), wsF (leadL pl by') c 0 nt = (pl.foldl bumpL c, by', nt + pl.length)
  | [], by', c, nt => by
    have := wsF_sp by' [] c 0 nt
    rw [List.append_nil] at this
    show wsF ([] ++ List.replicate by' 32) c 0 nt = _
    rw [List.nil_append, this]
    simp [wsF]
  | p :: pl, by', c, nt => by
    have e : leadL (p :: pl) by' = List.replicate p 32 ++ (9 :: leadL pl by') := by
      simp [leadL]
    rw [e, wsF_sp, wsF, if_neg (by decide), wsF_lead pl by' _ _, Nat.zero_add]
    simp only [List.foldl_cons, List.length_cons]
    congr 2
    omega

noncomputable def tot (c : List Int) (tab : Nat) : Nat → Int
  | 0 => 0
  | i + 1 => tot c tab i + ((i / tab : Nat) : Int) * c.getD i 0
theorem growL_get (c : List Int) (p i : Nat) : (growL c p).getD i 0 = c.getD i 0 := by
  unfold growL
  split
  · simp only [List.getD, List.getElem?_append]
    split
    · rfl
    · rename_i h
      rw [List.getElem?_eq_none (by omega : c.length ≤ i)]
      simp only [List.getElem?_replicate]
      split <;> rfl
  · rfl
theorem bumpL_get (c : List Int) (p i : Nat) : (bumpL c p).getD i 0 = c.getD i 0 + (if i = p then 1 else 0) := by
  have hl := (growL_len c p).1
  unfold bumpL
  by_cases h : i = p
  · subst h
    rw [if_pos rfl]
    simp only [List.getD, List.getElem?_set_self hl, Option.getD_some]
    have := growL_get c i i
    simp only [List.getD] at this
    rw [this]
  · rw [if_neg h, Int.add_zero, ← growL_get c p i]
    simp only [List.getD, List.getElem?_set_ne (Ne.symm h)]
theorem tot_bump (c : List Int) (p tab : Nat) : ∀ n, tot (bumpL c p) tab n = tot c tab n + (if p < n then ((p / tab : Nat) : Int) else 0)
  | 0 => by rw [if_neg (Nat.not_lt_zero _)]; rfl
  | n + 1 => by
    rw [tot, tot, tot_bump c p tab n, bumpL_get]
    by_cases h : n = p
    · subst h
      rw [if_pos rfl, if_neg (Nat.lt_irrefl _), if_pos (Nat.lt_succ_self _), Int.mul_add]; omega
    · rw [if_neg h, Int.add_zero]
      by_cases h1 : p < n
      · rw [if_pos h1, if_pos (by omega)]; omega
      · rw [if_neg h1, if_neg (by omega)]; omega
theorem tot_fold (tab n : Nat) : ∀ (pl : List Nat) (c : List Int), (∀ p ∈ pl, p < n) → tot (pl.foldl bumpL c) tab n = tot c tab n + ((divs pl tab : Nat) : Int)
  | [], c, _ => by simp [divs]
  | p :: pl, c, h => by
    rw [List.foldl_cons, tot_fold tab n pl _ fun x hx => h x (List.mem_cons_of_mem _ hx), tot_bump, if_pos (h p List.mem_cons_self)]
    simp only [divs, List.map_cons, List.sum_cons]; omega
theorem tot_nil (tab : Nat) : ∀ n, tot [] tab n = 0
  | 0 => rfl
  | n + 1 => by rw [tot, tot_nil tab n]; simp
theorem tot_low {c : List Int} {tab : Nat} : ∀ {n : Nat}, n ≤ tab → tot c tab n = 0
  | 0, _ => rfl
  | n + 1, h => by
    rw [tot, tot_low (by omega), Nat.div_eq_of_lt (by omega)]; simp
theorem tot_high {c : List Int} {tab n : Nat} (h : c.length ≤ n) : ∀ m, tot c tab (n + m) = tot c tab n
  | 0 => rfl
  | m + 1 => by
    show tot c tab (n + m) + (((n + m) / tab : Nat) : Int) * c.getD (n + m) 0 = _
    rw [tot_high h m, List.getD, List.getElem?_eq_none (show c.length ≤ n + m by omega)]; simp
theorem ilG_tot (c : List Int) {tab : Nat} (ht : 0 < tab) : ∀ m, ilG c (tab : Int) m = tot c tab (tab + m)
  | 0 => (tot_low (Nat.le_refl _)).symm
  | m + 1 => by
    rw [ilG, ilG_tot c ht m]
    show _ = tot c tab (tab + m) + _
    have e : (tab : Int) + (m : Int) = ((tab + m : Nat) : Int) := by omega
    rw [e, Int.fdiv_eq_ediv_of_nonneg _ (by omega), Int.toNat_natCast]
    rfl
theorem foldl_len : ∀ (pl : List Nat) (c : List Int) (n : Nat), c.length ≤ n → (∀ p ∈ pl, p < n) → (pl.foldl bumpL c).length ≤ n
  | [], c, n, h, _ => h
  | p :: pl, c, n, h, hp => foldl_len pl _ n (by
      have h1 := bumpL_len c p
      have h2 := growL_len c p
      have h3 := hp p List.mem_cons_self
      omega) fun x hx => hp x (List.mem_cons_of_mem _ hx)

theorem le_sum : ∀ (l : List Nat) {x : Nat}, x ∈ l → x ≤ l.sum
  | a :: l, x, h => by
    rw [List.sum_cons]
    rcases List.mem_cons.mp h with rfl | h
    · omega
    · have := le_sum l h; omega
theorem indW_eq (pl : List Nat) (by' : Nat) {tab : Nat} (ht : 0 < tab) : indW pl by' (tab : Int) = ((by' + tab * (divs pl tab + pl.length) : Nat) : Int) := by
  have hw := wsF_lead pl by' [] 0
  unfold indW wsO
  rw [hw]
  unfold indentOf
  dsimp only
  rw [ilG_tot _ ht]
  -- a bound above all
  obtain ⟨n, hn⟩ : ∃ n, ∀ p ∈ pl, p < n := ⟨pl.sum + 1, fun p hp => by
    have := le_sum pl hp
    omega⟩
  have hl := foldl_len pl [] n (Nat.zero_le _) hn
  have h1 : tot (pl.foldl bumpL []) tab (tab + (((pl.foldl bumpL []).length : Int) - (tab : Int)).toNat) = ((divs pl tab : Nat) : Int) := by
    have h2 := tot_fold tab n pl [] hn
    rw [tot_nil, Int.zero_add] at h2
    have h3 : (pl.foldl bumpL []).length ≤ tab + (((pl.foldl bumpL []).length : Int) - (tab : Int)).toNat := by omega
    generalize hk : tab + (((pl.foldl bumpL []).length : Int) - (tab : Int)).toNat = k at h3
    have h4 := tot_high (tab := tab) h3 n
    have h5 := tot_high (tab := tab) hl k
    rw [← h4, Nat.add_comm k n, h5, h2]
  rw [h1, Int.zero_add]
  simp only [Int.natCast_add, Int.natCast_mul]

-- the likes
theorem mod_like {x B s : Nat} (hs : 0 < s) (h : x ≤ B) : (((B : Int) - (x : Int)).fmod (s : Int) == 0) = decide (x % s = B % s) := by
  have e : (B : Int) - (x : Int) = ((B - x : Nat) : Int) := by omega
  rw [e, Int.fmod_eq_emod_of_nonneg _ (by omega), ← Int.natCast_emod]
  have h1 : ((((B - x) % s : Nat) : Int) == 0) = decide ((B - x) % s = 0) := by
    by_cases h2 : (B - x) % s = 0
    · rw [h2]; rfl
    · rw [decide_eq_false h2]
      have : (((B - x) % s : Nat) : Int) ≠ 0 := by omega
      simpa using this
  rw [h1]
  refine decide_eq_decide.mpr ⟨fun h2 => ?_, fun h2 => ?_⟩
  · have h3 : B = x + (B - x) := by omega
    rw [h3, Nat.add_mod, h2, Nat.add_zero, Nat.mod_mod]
  · have h4 := Nat.sub_mod_eq_zero_of_mod_eq h2.symm
    exact h4
theorem len_if {p : Bool} {d : D} : (if p = true then [d] else []).length = if p = true then 1 else 0 := by cases p <;> rfl
theorem outs_cp (p : Nat → Bool) (d : D) : ∀ k, (outs (fun i => if p i = true then [d] else []) k).length = (List.range k).countP p
  | 0 => rfl
  | k + 1 => by
    rw [outs_succ, List.length_append, outs_cp p d k, len_if, List.range_succ, List.countP_append, List.countP_cons, List.countP_nil, Nat.zero_add]
theorem outs_sum (f : Nat → List D) : ∀ n, (outs f n).length = ((List.range n).map fun k => (f k).length).sum
  | 0 => rfl
  | n + 1 => by
    rw [outs_succ, List.length_append, outs_sum f n, List.range_succ, List.map_append, List.sum_append, List.map_cons, List.map_nil, List.sum_cons, List.sum_nil, Nat.add_zero]
theorem take_getD (l : List Nat) {k : Nat} (h : k ≤ l.length) : (List.range k).map (fun i => l.getD i 0) = l.take k := by
  apply List.ext_getElem
  · rw [List.length_map, List.length_range, List.length_take, Nat.min_eq_left h]
  · intro i h1 h2
    rw [List.length_map, List.length_range] at h1
    rw [List.getElem_map, List.getElem_range, List.getElem_take, List.getD, List.getElem?_eq_getElem (Nat.lt_of_lt_of_le h1 h), Option.getD_some]
theorem casts_getD (l : List Nat) (k : Nat) : (casts l).getD k 0 = ((l.getD k 0 : Nat) : Int) := by
  simp only [List.getD, List.getElem?_map]
  cases l[k]? <;> rfl
theorem cut_up {l : List Nat} (hp : l.Pairwise (· < ·)) {k : Nat} (hk : k < l.length) : (∀ x ∈ l.take k, x < l.getD k 0) ∧ (∀ x ∈ l.drop (k + 1), l.getD k 0 < x) ∧ l = l.take k ++ l.getD k 0 :: l.drop (k + 1) := by
  have e : l.getD k 0 = l[k] := by rw [List.getD, List.getElem?_eq_getElem hk]; rfl
  have e2 : l = l.take k ++ l.getD k 0 :: l.drop (k + 1) := by rw [e, ← List.drop_eq_getElem_cons hk, List.take_append_drop]
  have hp' : (l.take k ++ l.getD k 0 :: l.drop (k + 1)).Pairwise (· < ·) := e2 ▸ hp
  obtain ⟨_, h2, h3⟩ := List.pairwise_append.mp hp'
  exact ⟨fun x hx => h3 x hx _ List.mem_cons_self, (List.pairwise_cons.mp h2).1, e2⟩
theorem rk_take {s : Nat} {l : List Nat} (hp : l.Pairwise (· < ·)) {k : Nat} (hk : k < l.length) : rk s l (l.getD k 0) = (l.take k).countP fun x => decide (x % s = l.getD k 0 % s) := by
  obtain ⟨h1, h2, h3⟩ := cut_up hp hk
  unfold rk
  generalize l.getD k 0 = B at h1 h2 h3 ⊢
  conv => lhs; rw [h3]
  rw [List.countP_append, List.countP_cons, cp_zero _ (l.drop (k + 1)) (fun x hx => by rw [decide_eq_false (Nat.not_lt.mpr (Nat.le_of_lt (h2 x hx)))]; rfl), decide_eq_false (Nat.lt_irrefl B)]
  exact cp_congr (fun x => decide (x < B) && decide (x % s = B % s)) (fun x => decide (x % s = B % s)) _ fun x hx => by rw [decide_eq_true (h1 x hx)]; rfl
theorem alike_core {s : Nat} (hs : 0 < s) {l : List Nat} (hp : l.Pairwise (· < ·)) (hl : l.length = 5) (hc : ∀ B ∈ l, rk s l B = B / s) : alikeN (casts l) (s : Int) = divs l s := by
  unfold alikeN
  rw [outs_sum]
  have e : (List.range 5).map (fun k => (outs (fun i => if (((casts l).getD k 0 - (casts l).getD i 0).fmod (s : Int) == 0) = true then [D.int (k : Int)] else []) k).length) = (List.range 5).map ((fun B => B / s) ∘ fun k => l.getD k 0) := List.map_congr_left fun k hk => by
    have hk' : k < l.length := hl ▸ List.mem_range.mp hk
    rw [outs_cp]
    show _ = l.getD k 0 / s
    rw [← hc _ (getD_mem' hk'), rk_take hp hk', ← take_getD l (Nat.le_of_lt hk'), List.countP_map]
    refine cp_congr _ _ _ fun i hi => ?_
    have hik := List.mem_range.mp hi
    have h1 := (cut_up hp hk').1 (l.getD i 0) (by rw [← take_getD l (Nat.le_of_lt hk')]; exact List.mem_map_of_mem hi)
    rw [casts_getD, casts_getD, mod_like hs (Nat.le_of_lt h1)]
    rfl
  rw [e, ← List.map_map, take_getD l (Nat.le_of_eq hl.symm), List.take_of_length_le (Nat.le_of_eq hl)]
  rfl

-- the sign
theorem name_tab : ∀ p, p < 16 → (nameOf 2 p).cps.toList = [66, 65 + p] := by decide +kernel
theorem sg_eq {ps : List Nat} {k i : Nat} (h1 : ps.getD i 0 < 16) (h2 : ps.getD k 0 < 16) (h : ps.getD i 0 ≠ ps.getD k 0) : sgAt ps k i = (-1) ^ (if decide (ps.getD k 0 < ps.getD i 0) = true then 1 else 0) := by
  unfold sgAt
  rw [name_tab _ h1, name_tab _ h2]
  have key : ∀ x y : Nat, decide ([66, 65 + x] < [66, 65 + y]) = decide (x < y) := fun x y => by
    refine decide_eq_decide.mpr ?_
    simp [List.cons_lt_cons_iff]
  rw [key, key]
  by_cases h3 : ps.getD i 0 < ps.getD k 0
  · rw [decide_eq_true h3, decide_eq_false (show ¬ ps.getD k 0 < ps.getD i 0 by omega)]; rfl
  · rw [decide_eq_false h3, decide_eq_true (show ps.getD k 0 < ps.getD i 0 by omega)]; rfl
theorem prodI_asc {ps : List Nat} (hn : ps.Nodup) (h16 : ∀ x ∈ ps, x < 16) {k : Nat} (hk : k < ps.length) (st : Int) : ∀ i, i ≤ k → prodI ps k st i = st * (-1) ^ (ps.take i).countP fun x => decide (ps.getD k 0 < x)
  | 0, _ => by rw [prodI]; exact (Int.mul_one st).symm
  | i + 1, hi => by
    have hi' : i < ps.length := Nat.lt_trans hi hk
    have e1 : ps.getD i 0 = ps[i] := by rw [List.getD, List.getElem?_eq_getElem hi']; rfl
    have e2 : ps.getD k 0 = ps[k] := by rw [List.getD, List.getElem?_eq_getElem hk]; rfl
    have hne : ps.getD i 0 ≠ ps.getD k 0 := by rw [e1, e2]; exact List.pairwise_iff_getElem.mp hn i k hi' hk hi
    rw [prodI, prodI_asc hn h16 hk st i (Nat.le_of_lt hi), sg_eq (h16 _ (getD_mem' hi')) (h16 _ (getD_mem' hk)) hne, List.take_add_one, List.getElem?_eq_getElem hi', Option.toList_some, List.countP_append, List.countP_cons, List.countP_nil, Nat.zero_add, Int.pow_add, Int.mul_assoc, e1]
theorem prodK_asc {ps : List Nat} (hn : ps.Nodup) (h16 : ∀ x ∈ ps, x < 16) : ∀ k, k ≤ ps.length → prodK ps k = (-1) ^ asc (ps.take k).reverse
  | 0, _ => rfl
  | k + 1, hk => by
    have e2 : ps.getD k 0 = ps[k] := by rw [List.getD, List.getElem?_eq_getElem hk]; rfl
    rw [prodK, prodI_asc hn h16 hk _ k (Nat.le_refl _), prodK_asc hn h16 k (Nat.le_of_lt hk), ← Int.pow_add, List.take_add_one, List.getElem?_eq_getElem hk, Option.toList_some, List.reverse_append, ← e2]
    show _ = (-1) ^ asc (ps.getD k 0 :: (ps.take k).reverse)
    rw [asc, List.countP_reverse, Nat.add_comm]
theorem prod_asc {F : List Nat} {t : Nat} (hn : F.Nodup) (hl : F.length = 5) (ht : t < 16) (hf : ∀ x ∈ F, x < t) : prodK (F ++ [t]) 6 = (-1) ^ asc F.reverse := by
  have hn' : (F ++ [t]).Nodup := List.nodup_append.mpr ⟨hn, List.pairwise_singleton _ _, fun x hx y hy => by
    rw [List.mem_singleton.mp hy]; exact Nat.ne_of_lt (hf x hx)⟩
  have hl6 : (F ++ [t]).length = 6 := by rw [List.length_append, hl]; rfl
  rw [prodK_asc hn' (fun x hx => by
    rcases List.mem_append.mp hx with hx | hx
    · exact Nat.lt_trans (hf x hx) ht
    · rw [List.mem_singleton.mp hx]; exact ht) 6 (Nat.le_of_eq hl6.symm), List.take_of_length_le (Nat.le_of_eq hl6), List.reverse_append]
  show (-1) ^ asc (t :: F.reverse) = _
  rw [asc, List.countP_reverse, cp_zero _ F fun x hx => decide_eq_false (Nat.not_lt.mpr (Nat.le_of_lt (hf x hx))), Nat.zero_add]
theorem pow_par (x y : Nat) (h : x % 2 = y % 2) : (-1 : Int) ^ x = (-1) ^ y := by
  have key : ∀ z : Nat, (-1 : Int) ^ z = if z % 2 = 0 then 1 else -1 := fun z => by
    induction z with
    | zero => rfl
    | succ z ih =>
      rw [Int.pow_succ, ih]
      rcases Nat.mod_two_eq_zero_or_one z with h | h
      · rw [if_pos h, if_neg (by omega)]; rfl
      · rw [if_neg (by omega), if_pos (by omega)]; rfl
  rw [key, key, h]


theorem rk_perm {s : Nat} {l l' : List Nat} (h : l.Perm l') (B : Nat) : rk s l B = rk s l' B := h.countP_eq _
theorem fal_rev (s : Nat) (l : List Nat) : fal s l.reverse = (fal s l).reverse := by
  unfold fal
  rw [← List.map_reverse]
  exact List.map_congr_left fun x _ => by rw [rk_perm (List.reverse_perm l)]
theorem nsum_perm {l l' : List Nat} (h : l.Perm l') : nsum l = nsum l' := by
  unfold nsum
  induction h with
  | nil => rfl
  | cons x _ ih => simp only [List.map_cons, List.sum_cons, ih]
  | swap x y l => simp only [List.map_cons, List.sum_cons]; omega
  | trans _ _ h1 h2 => exact h1.trans h2
theorem leadL_len (pl : List Nat) (by' : Nat) : (leadL pl by').length = pl.sum + pl.length + by' := by
  unfold leadL
  rw [List.length_append, List.length_replicate]
  congr 1
  induction pl with
  | nil => rfl
  | cons p pl ih => rw [List.flatMap_cons, List.length_append, ih]; simp; omega

noncomputable abbrev rsOf (a b c d e : Nat) : List Int := rowsL [a, b, c, d, e]
theorem asc_down : ∀ {l : List Nat}, Desc l → asc l = 0
  | [], _ => rfl
  | x :: l, h => by
    obtain ⟨h1, h2⟩ := List.pairwise_cons.mp h
    rw [asc, asc_down h2, cp_zero _ _ fun y hy => decide_eq_false (Nat.not_lt.mpr (Nat.le_of_lt (h1 y hy)))]
theorem desc_five {a b c d e : Nat} (h1 : e < d) (h2 : d < c) (h3 : c < b) (h4 : b < a) : Desc [a, b, c, d, e] := by
  refine .cons (fun x hx => ?_) (.cons (fun x hx => ?_) (.cons (fun x hx => ?_) (.cons (fun x hx => ?_) (.cons (fun x hx => nomatch hx) .nil))))
  all_goals (simp only [List.mem_cons, List.not_mem_nil, or_false] at hx; omega)
theorem of_desc_five {l : List Nat} (hd : Desc l) (hl : l.length = 5) : ∃ a b c d e : Nat, l = [a, b, c, d, e] ∧ e < d ∧ d < c ∧ c < b ∧ b < a := by
  match l, hl with
  | [a, b, c, d, e], _ =>
    obtain ⟨h1, hd⟩ := List.pairwise_cons.mp hd
    obtain ⟨h2, hd⟩ := List.pairwise_cons.mp hd
    obtain ⟨h3, hd⟩ := List.pairwise_cons.mp hd
    obtain ⟨h4, hd⟩ := List.pairwise_cons.mp hd
    exact ⟨a, b, c, d, e, rfl, h4 _ List.mem_cons_self, h3 _ List.mem_cons_self, h2 _ List.mem_cons_self, h1 _ List.mem_cons_self⟩
theorem nodup_desc {l : List Nat} (h : Desc l) : l.Nodup := h.imp fun {x y} (h : y < x) => Nat.ne_of_gt h
theorem le_top {a b c d e x : Nat} (h : Desc [a, b, c, d, e]) (hx : x ∈ [a, b, c, d, e]) : x ≤ a := by
  rcases List.mem_cons.mp hx with rfl | hx
  · exact Nat.le_refl _
  · exact Nat.le_of_lt ((List.pairwise_cons.mp h).1 x hx)
theorem up_five {a b c d e : Nat} (h1 : e < d) (h2 : d < c) (h3 : c < b) (h4 : b < a) : [e, d, c, b, a].Pairwise (· < ·) := (List.pairwise_reverse (l := [a, b, c, d, e])).mpr (desc_five h1 h2 h3 h4)
theorem top_five {a b c d e : Nat} (h1 : e < d) (h2 : d < c) (h3 : c < b) (h4 : b < a) : ∀ x ∈ [e, d, c, b, a], x ≤ a := fun x hx => le_top (desc_five h1 h2 h3 h4) (List.mem_reverse.mp (show x ∈ [a, b, c, d, e].reverse from hx))
theorem sum_rev (l : List Nat) : l.reverse.sum = l.sum := by rw [List.sum_reverse]

/-- the sign of what falls -/
theorem sign_of {s : Nat} {a b c d e lg : Nat} {b' : List Nat} (ha : a ≤ 14) (hd' : Desc b') (hfc : fal s b' = b') (hp2 : (fal s [e, d, c, b, a]).Perm b') (hmem : ∀ x ∈ fal s [e, d, c, b, a], x ≤ a)
    (hpar : (asc (fal s [a, b, c, d, e]) + asc (fal s b') + lg) % 2 = 0) : prodK (fal s [e, d, c, b, a] ++ [a + 1]) 6 = (-1) ^ lg := by
  rw [hfc, asc_down hd', Nat.add_zero, show fal s [a, b, c, d, e] = (fal s [e, d, c, b, a]).reverse from fal_rev s [e, d, c, b, a]] at hpar
  refine (prod_asc (hp2.nodup_iff.mpr (nodup_desc hd')) rfl (show a + 1 < 16 from Nat.lt_of_le_of_lt (Nat.succ_le_succ ha) (by decide)) fun x hx => Nat.lt_succ_of_le (hmem x hx)).trans (pow_par _ _ ?_)
  clear hmem hp2 hfc hd' ha; omega
theorem ind_one {s tk : Nat} (hs0 : 0 < s) {l : List Nat} (hp : l.Pairwise (· < ·)) (hl : l.length = 5) (hc : ∀ B ∈ l, rk s l B = B / s) :
    indW l (s * tk) (s : Int) = (s : Int) * ((tk : Int) + 5 + (alikeN (casts l) s : Int)) := by
  rw [indW_eq _ _ hs0, alike_core hs0 hp hl hc, hl, ← Nat.mul_add]
  simp only [Int.natCast_mul, Int.natCast_add]
  rw [Int.add_assoc, Int.add_comm (5 : Int)]
  rfl
theorem divs_rev (l : List Nat) (t : Nat) : divs l.reverse t = divs l t := by
  unfold divs; rw [List.map_reverse, List.sum_reverse]
theorem ind_all {s tk t : Nat} {l l' : List Nat} (ht : 0 < t) (hd : s % t = 0) (hl : l.length = l'.length) (hdv : divs l t = divs l' t + tk * (s / t)) : indW l.reverse 0 (t : Int) = indW l'.reverse (s * tk) (t : Int) := by
  rw [indW_eq _ _ ht, indW_eq _ _ ht, divs_rev, divs_rev, hdv, List.length_reverse, List.length_reverse, hl, Nat.zero_add]
  congr 1
  have e3 : t * (tk * (s / t)) = s * tk := by
    rw [← Nat.mul_assoc, Nat.mul_comm t tk, Nat.mul_assoc, Nat.mul_div_cancel' (Nat.dvd_of_mod_eq_zero hd), Nat.mul_comm]
  simp only [Nat.mul_add, e3]
  clear hd hdv hl e3; omega

theorem facts {s a b c d e : Nat} (hs : 2 ≤ s) (hs5 : s ≤ 5) (h1 : e < d) (h2 : d < c) (h3 : c < b) (h4 : b < a) (ha : a ≤ 14) (turns : List Int) :
    ∃ f a' b' c' d' e' tk lg : Nat, bareF (s : Int) turns f (rsOf a b c d e) 0 0 = some (rsOf a' b' c' d' e', (tk : Int), (lg : Int)) ∧ (e' < d' ∧ d' < c' ∧ c' < b' ∧ b' < a' ∧ a' ≤ a) ∧
      nsum (fal s [e, d, c, b, a]) = nsum [e', d', c', b', a'] ∧ (∀ x ∈ fal s [e, d, c, b, a], x ≤ a) ∧ prodK (fal s [e, d, c, b, a] ++ [a + 1]) 6 = (-1) ^ lg ∧ tk ≤ 100 ∧ lg ≤ 1000 ∧
      (leadL [e, d, c, b, a] 0).length ≤ 250 ∧ (leadL [e', d', c', b', a'] (s * tk)).length ≤ 250 ∧
      indW [e', d', c', b', a'] (s * tk) (s : Int) = (s : Int) * ((tk : Int) + 5 + (alikeN (casts [e', d', c', b', a']) s : Int)) ∧
      (∀ t : Nat, 1 ≤ t → t ≤ s → s % t = 0 → indW [e, d, c, b, a] 0 (t : Int) = indW [e', d', c', b', a'] (s * tk) (t : Int)) := by
  have hs0 : 0 < s := Nat.lt_of_lt_of_le (by decide) hs
  have hd := desc_five h1 h2 h3 h4
  obtain ⟨b₁, tk, lg, hr, hd', hl', hmx, R, hfin⟩ := bare_run hs0 turns _ [a, b, c, d, e] 0 0 hd rfl (Nat.le_refl _)
  rw [Int.zero_add, Int.zero_add] at hr
  have hcore := core_five hs0 hd' hl' hfin
  obtain ⟨a', b', c', d', e', rfl, k1, k2, k3, k4⟩ := of_desc_five hd' hl'
  have hfc := fal_core hs0 (nodup_desc hd') hcore
  have hperm := R.perm
  rw [hfc] at hperm
  have hp2 : (fal s [e, d, c, b, a]).Perm [a', b', c', d', e'] := by
    rw [show fal s [e, d, c, b, a] = (fal s [a, b, c, d, e]).reverse from fal_rev s [a, b, c, d, e]]
    exact (List.reverse_perm _).trans hperm.symm
  have k5 : a' ≤ a := by
    obtain ⟨y, hy, h⟩ := hmx a' List.mem_cons_self
    exact Nat.le_trans h (le_top hd hy)
  have hmem : ∀ x ∈ fal s [e, d, c, b, a], x ≤ a := fun x hx => Nat.le_trans (le_top hd' (hp2.mem_iff.mp hx)) k5
  have hsum := R.div 1 (by decide) (Nat.one_dvd s)
  rw [divs_one, divs_one, Nat.div_one] at hsum
  have hs70 : [a, b, c, d, e].sum ≤ 70 := by
    simp only [List.sum_cons, List.sum_nil]
    clear hr hd hd' hl' hmx R hfin hcore hfc hperm hp2 hmem hsum k1 k2 k3 k4 k5; omega
  have htk : tk * 2 ≤ tk * s := Nat.mul_le_mul_left tk hs
  have hlg := R.few
  refine ⟨_, a', b', c', d', e', tk, lg, hr, ⟨k1, k2, k3, k4, k5⟩, nsum_perm (hp2.trans (List.reverse_perm [e', d', c', b', a'])), hmem, sign_of ha hd' hfc hp2 hmem R.par, ?_, ?_, ?_, ?_, ind_one hs0 (up_five k1 k2 k3 k4) rfl (fun B hB => (rk_perm (List.reverse_perm [a', b', c', d', e']) B).trans (rk_core hs0 (nodup_desc hd') hcore B (List.mem_reverse.mp (show B ∈ [a', b', c', d', e'].reverse from hB)))),
    fun t ht1 ht2 hdv => ind_all (l := [a, b, c, d, e]) (l' := [a', b', c', d', e']) ht1 hdv rfl (R.div t ht1 (Nat.dvd_of_mod_eq_zero hdv))⟩
  · clear hr hd hd' hl' hmx R hfin hcore hfc hperm hp2 hmem k1 k2 k3 k4 k5 h1 h2 h3 h4; omega
  · clear hr hd hd' hl' hmx R hfin hcore hfc hperm hp2 hmem k1 k2 k3 k4 k5 h1 h2 h3 h4; omega
  · rw [leadL_len, show [e, d, c, b, a].sum = [a, b, c, d, e].sum from sum_rev [a, b, c, d, e]]
    show _ + 5 + 0 ≤ 250
    clear hr hd hd' hl' hmx R hfin hcore hfc hperm hp2 hmem k1 k2 k3 k4 k5 h1 h2 h3 h4 hsum; omega
  · rw [leadL_len, Nat.mul_comm s tk, show [e', d', c', b', a'].sum = [a', b', c', d', e'].sum from sum_rev [a', b', c', d', e']]
    show _ + 5 + _ ≤ 250
    clear hr hd hd' hl' hmx R hfin hcore hfc hperm hp2 hmem k1 k2 k3 k4 k5 h1 h2 h3 h4; omega


theorem nat_of {n : Int} {m : Nat} (h0 : 0 ≤ n) (h : n < m) : ∃ k : Nat, n = (k : Int) ∧ k < m := ⟨n.toNat, by omega, by omega⟩
theorem draw (xs : List Int) (k m : Nat) (hm : 0 < m) : ∃ r : Nat, (dealtAt xs k).fmod (m : Int) = (r : Int) ∧ r < m := nat_of (Int.fmod_nonneg_of_pos _ (by omega)) (Int.fmod_lt_of_pos _ (by omega))

theorem sub_c (x c : Nat) : ((x + c : Nat) : Int) - ((c : Nat) : Int) = (x : Int) := by rw [Int.natCast_add, Int.add_sub_cancel]
/-- the shape that a script deals -/
theorem dealt_shape (xs : List Int) : ∃ a b c d e : Nat, e < d ∧ d < c ∧ c < b ∧ b < a ∧ a ≤ 14 ∧ (rowsF xs 4).reverse = rsOf a b c d e ∧ placesI xs = casts [e, d, c, b, a] := by
  obtain ⟨r0, h0, l0⟩ := draw xs 0 3 (by decide)
  obtain ⟨r1, h1, l1⟩ := draw xs 1 3 (by decide)
  obtain ⟨r2, h2, l2⟩ := draw xs 2 3 (by decide)
  obtain ⟨r3, h3, l3⟩ := draw xs 3 3 (by decide)
  obtain ⟨r4, h4, l4⟩ := draw xs 4 3 (by decide)
  have h0' : (dealtAt xs 0).fmod 3 = r0 := h0
  have h1' : (dealtAt xs 1).fmod 3 = r1 := h1
  have h2' : (dealtAt xs 2).fmod 3 = r2 := h2
  have h3' : (dealtAt xs 3).fmod 3 = r3 := h3
  have h4' : (dealtAt xs 4).fmod 3 = r4 := h4
  have e0 : rowsF xs 0 = [(r0 : Int)] := by rw [rowsF, h0']
  have e1 : rowsF xs 1 = [(r0 : Int), (r0 : Int) + r1] := by rw [rowsF, e0, h1']; rfl
  have e2 : rowsF xs 2 = [(r0 : Int), (r0 : Int) + r1, (r0 : Int) + r1 + r2] := by rw [rowsF, e1, h2']; rfl
  have e3 : rowsF xs 3 = [(r0 : Int), (r0 : Int) + r1, (r0 : Int) + r1 + r2, (r0 : Int) + r1 + r2 + r3] := by rw [rowsF, e2, h3']; rfl
  have e4 : rowsF xs 4 = [(r0 : Int), (r0 : Int) + r1, (r0 : Int) + r1 + r2, (r0 : Int) + r1 + r2 + r3, (r0 : Int) + r1 + r2 + r3 + r4] := by rw [rowsF, e3, h4']; rfl
  refine ⟨r0 + r1 + r2 + r3 + r4 + 4, r0 + r1 + r2 + r3 + 3, r0 + r1 + r2 + 2, r0 + r1 + 1, r0, by omega, by omega, by omega, by omega, by omega, ?_, ?_⟩
  · rw [e4]
    show [(r0 : Int) + r1 + r2 + r3 + r4, (r0 : Int) + r1 + r2 + r3, (r0 : Int) + r1 + r2, (r0 : Int) + r1, (r0 : Int)] = [((r0 + r1 + r2 + r3 + r4 + 4 : Nat) : Int) - ((4 : Nat) : Int), ((r0 + r1 + r2 + r3 + 3 : Nat) : Int) - ((3 : Nat) : Int), ((r0 + r1 + r2 + 2 : Nat) : Int) - ((2 : Nat) : Int), ((r0 + r1 + 1 : Nat) : Int) - ((1 : Nat) : Int), (r0 : Int) - 0]
    rw [sub_c, sub_c, sub_c, sub_c, Int.sub_zero]; rfl
  · unfold placesI
    rw [e4]
    show [(r0 : Int) + ((0 : Nat) : Int), (r0 : Int) + r1 + ((1 : Nat) : Int), (r0 : Int) + r1 + r2 + ((2 : Nat) : Int), (r0 : Int) + r1 + r2 + r3 + ((3 : Nat) : Int), (r0 : Int) + r1 + r2 + r3 + r4 + ((4 : Nat) : Int)] =
      [(r0 : Int), ((r0 + r1 + 1 : Nat) : Int), ((r0 + r1 + r2 + 2 : Nat) : Int), ((r0 + r1 + r2 + r3 + 3 : Nat) : Int), ((r0 + r1 + r2 + r3 + r4 + 4 : Nat) : Int)]
    rfl
theorem restI_of (a b c d e : Nat) : restI (rsOf a b c d e) = casts [e, d, c, b, a] := by
  show [(e : Int) - ((0 : Nat) : Int) + ((0 : Nat) : Int), (d : Int) - ((1 : Nat) : Int) + ((1 : Nat) : Int), (c : Int) - ((2 : Nat) : Int) + ((2 : Nat) : Int), (b : Int) - ((3 : Nat) : Int) + ((3 : Nat) : Int), (a : Int) - ((4 : Nat) : Int) + ((4 : Nat) : Int)] = [(e : Int), (d : Int), (c : Int), (b : Int), (a : Int)]
  simp only [Int.sub_add_cancel]
theorem casts_le {l : List Nat} {m : Nat} (h : ∀ x ∈ l, x ≤ m) : ∀ p ∈ casts l, 0 ≤ p ∧ p ≤ (m : Int) := fun p hp => by
  obtain ⟨x, hx, rfl⟩ := List.mem_map.mp hp
  have := h x hx
  omega

section
variable (prog : Program) (w : World) (n : Nat) (A : Around) (H : List Addr) (pm cd doc : Value) (fa : Addr) (s : Shared)
set_option maxHeartbeats 4000000 in
theorem law_body {xs : List Int} (hx : xs.length ≤ 63) {s₁ : Shared} (I : In (cxL prog w (n + 3) A H pm cd doc fa s) ([("script", .ints xs)] : Vars) s₁) :
    wpAny (model prog w) (cxL prog w (n + 3) A H pm cd doc fa s).A (execs lawT.2.1 (cxL prog w (n + 3) A H pm cd doc fa s).env) (fun f s' => f = .ret (.bool true) ∧ Fut s s') (fun _ _ => False) s₁ := by
  refine law_dealt prog w (n + 3) A H pm cd doc fa s hx I fun s2 I2 => law_rows prog w (n + 3) A H pm cd doc fa s hx I2 fun s3 I3 => ?_
  obtain ⟨a, b, c, d, e, h1, h2, h3, h4, ha, hrow, hpl⟩ := dealt_shape xs
  obtain ⟨q, hq, lq⟩ := draw xs 5 4 (by decide)
  have hsz : sizeF xs = ((2 + q : Nat) : Int) := by
    have hq' : (dealtAt xs 5).fmod 4 = (q : Int) := hq
    unfold sizeF; rw [hq']; omega
  generalize hsg : 2 + q = sz at hsz
  have hs2 : 2 ≤ sz := by omega
  have hs5 : sz ≤ 5 := by omega
  obtain ⟨f, a', b', c', d', e', tk, lg, hr, ⟨k1, k2, k3, k4, k5⟩, hns, hmx, hsg', htk, hlg, la, lb, e1, e2⟩ := facts hs2 hs5 h1 h2 h3 h4 ha (turnsF xs)
  have hnd := (up_five h1 h2 h3 h4).imp fun {x y} h => Nat.ne_of_lt h
  have hnd' := (up_five k1 k2 k3 k4).imp fun {x y} h => Nat.ne_of_lt h
  obtain ⟨w1, w2, w3⟩ := word_of (l := [e, d, c, b, a]) hnd (M := a) (by simp) (top_five h1 h2 h3 h4)
  obtain ⟨v1, v2, v3⟩ := word_of (l := [e', d', c', b', a']) hnd' (M := a') (by simp) (top_five k1 k2 k3 k4)
  have hfl := fallen_of (s := sz) (by omega) (up_five h1 h2 h3 h4) (top_five h1 h2 h3 h4)
  refine law_bared prog w n A H pm cd doc fa s hx I3 G5 (hrow ▸ ⟨[a, b, c, d, e], rfl, desc_five h1 h2 h3 h4, rfl, fun x hx => Nat.le_trans (le_top (desc_five h1 h2 h3 h4) hx) ha⟩) (fun rs h => h.good) (fun rs p h hp => by rw [hsz] at hp; exact h.step (by omega) hp) f _ (by rw [hsz, hrow]; exact hr) rfl fun s4 I4 => ?_
  rw [hpl, hsz] at I4
  have I4' : In (cxL prog w (n + 3) A H pm cd doc fa s) ([("rest", .ints (casts [e', d', c', b', a'])), ("places", .ints (casts [e, d, c, b, a])), ("size", .int (sz : Int)), ("taken", .int (tk : Int)), ("legs", .int (lg : Int))] : Vars) s4 := by
    rw [← restI_of]; exact I4
  have hpw : (pow16 (casts [e, d, c, b, a])).natAbs = nsum [e, d, c, b, a] := by rw [pow16_casts]; exact Int.natAbs_natCast _
  have hpf : (pow16 (casts (fal sz [e, d, c, b, a]))).natAbs = nsum [e', d', c', b', a'] := by rw [pow16_casts, hns]; exact Int.natAbs_natCast _
  have hll : (apF (a + 1) (nsum [e, d, c, b, a]) []).length = a + 1 := by rw [w2]; simp
  refine law_words prog w n A H pm cd doc fa s (casts [e, d, c, b, a]) (casts [e', d', c', b', a']) (casts (fal sz [e, d, c, b, a])) (sz : Int) (tk : Int) (lg : Int) a a' (a + 1) (a' + 1) (by omega) (by omega) (by simp) (by simp [fal]) (fun p hp => ?_) (fun p hp => ?_) (by omega) (by simp) ?_ (by omega) (by simp) ?_
    (by rw [hpw]; exact w1) (by omega) (by rw [hpw]; exact w3) (by rw [hpf]; exact v1) (by omega) (by rw [hpf]; exact v3) (by rw [hpw, hll]; omega) ?_ I4' fun s5 I5 => ?_
  · have := casts_le (top_five h1 h2 h3 h4) p hp; omega
  · have := casts_le hmx p hp; omega
  · exact fun p hp => (casts_le (top_five h1 h2 h3 h4) p hp).2
  · exact fun p hp => (casts_le (top_five k1 k2 k3 k4) p hp).2
  · rw [hpw, hll, w2, Int.toNat_natCast]
    exact hfl
  refine law_leads prog w n A H pm cd doc fa s [e, d, c, b, a] [e', d', c', b', a'] (casts (fal sz [e, d, c, b, a])) sz tk (lg : Int) hs2 (by omega) htk rfl la lb (by simp) (fun p hp => ?_) (fun p hp => ?_) e1 e2 I5 fun s6 I6 => ?_
  · have := top_five h1 h2 h3 h4 p hp; omega
  · have := top_five k1 k2 k3 k4 p hp; omega
  refine law_sign prog w n A H pm cd doc fa s [e, d, c, b, a] (fal sz [e, d, c, b, a]) lg rfl (by simp [fal]) (fun p hp => ?_) hlg hsg' I6
  rcases List.mem_append.mp hp with hp | hp
  · have := hmx p hp; omega
  · have : p = a + 1 := List.mem_singleton.mp hp
    omega
end


theorem law_call {prog : Program} {w : World} {s : Shared} {fa l : Addr} {o : Obj} {pm cd doc : Value} {vs : List Value} {xs : List Int} {R : Result → Shared → Prop} (ho : s.heap.get? fa = some o) (hd : o.data = .func (lawFd pm cd doc)) (hcd : s.heap.CodeRec cd "law")
    (hg : Gr (KF w) s.heap) (hl : s.heap.IsList l vs.toArray) (hi : IntsAre vs xs) (hx : xs.length ≤ 63) (k : ∀ s', Fut s s' → R (.ok (.ret (.bool true))) s') : codeAny (model prog w) callerA (.call (.ref fa) ⟨[.ref l], []⟩) R s := by
  have hA : Amb (3 + 1) callerA := ⟨rfl, by decide +kernel, by decide +kernel⟩
  have hal : Alive [] s.heap := fun b hb => nomatch hb
  have hkind := kinds_of (fd := lawFd pm cd doc) (ns := ["script"]) (by kernel_rfl)
  refine codeAny_call_cells hA.room ho hd hg.nolimit hcd (body := lawT.2.1) rfl (binds := (["script"] : List Str).zip [Value.ref l]) (by kernel_rfl) (by rfl) (fun y hy => hkind _ _ (List.of_mem_zip hy).1) (fun s₁ J => ?_) (by kernel_rfl) (by kernel_rfl) (by kernel_rfl)
  have hv : IsAll (hideAll s.heap []) [D.ints xs] [Value.ref l] := .cons (.list (let ⟨o, e, r⟩ := hl; ⟨o, hideAll_get _ e (fun q => nomatch q), r⟩) (IsAll.ofInts hi)) .nil
  obtain ⟨I, kp⟩ := fn_in (K := KF w) (prog := prog) (w := w) (pu := false) (n := 3) (fd := lawFd pm cd doc) (f := fa) (ns := ["script"]) (ds := [D.ints xs]) hA hal hg hv rfl rfl (by kernel_rfl) (by decide +kernel) (of_k (by kernel_rfl)) (hkind _) rfl J
  refine wpAny_mono (law_body prog w 0 callerA [] pm cd doc fa s hx I) (fun fl s' h => ?_) fun _ _ h => h.elim
  obtain ⟨rfl, f⟩ := h
  exact k s' f

end
end Mine

set_option maxRecDepth 100000 in
set_option maxHeartbeats 8000000 in
theorem PySem.Challenge.cw_wn0080_01_holds : PySem.Challenge.rw_wn0080_01.Holds := by
  refine Mine.hd ?_
  k_fill
  intro w s₀ s₁ mg mb G Y fa o pm cd doc dV kV ho hd hcd hD hmg hg args vals as hpre hlay hrd hwl hlo
  have KX := kIn_of Y
  refine Ground.open G ?_
  intro T B D TE TW
  try (refine guard_noD D (by decide +kernel) ?_; clear D)
  clear hmg
  wrow_args hpre hlay hrd hwl hlo
  refine enter_call ?_
  have he := Dflts.none hD rfl; subst he; have he := Dflts.noKw hD; subst he
  refine Mine.law_call ho (fd_plain hd) hcd ⟨KX, ⟨_, T.g⟩, ⟨_, T.b, T.builtins⟩, T.nolimit⟩ (by assumption) (by assumption) (by omega) fun s' f => ?_
  exact ⟨.inl ⟨.bool true, .bool true, [], rfl, fun cls => by rfl, .bool true, postW_of (by wrow_shape) (by wtm_val) (by rfl), fun _ => ⟨.nil, fun a ha => nomatch ha⟩⟩, OldK.of_keep f.ext, f.os, f.bare (by rw [hg]; exact fun y hy => absurd hy (by simp))⟩

