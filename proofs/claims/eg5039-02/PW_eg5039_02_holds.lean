import PyProof.Rows.All
import Wide.All
import OpenK.AllK
import Wide.FinOn
import PySem.Challenge.RW_eg5039_02
set_option Elab.async false
set_option linter.all false
section Part0
open PySem PySem.W PySem.Calls
set_option maxRecDepth 100000
set_option autoImplicit false
set_option linter.unusedVariables false
namespace Mine
open PyProof.Rows (Fr News Top IsTup Below envOf envOfC)

/-- pure values -/
inductive PV where
  | int (n : Int)
  | bool (b : Bool)
  | none
  | raw (v : Value)
  | tup (xs : List PV)
  | lst (xs : List PV)
  | rng (a b st : Int)
  | cell (n : Int)
  | point (x y z : Int)
  | mlst (xs : List PV)

structure Gl where
  prog : Program
  w : World
  K : Frag
  p : Program
  loose : List Str
  mean : ExcName → Option Value
  mg : Str → Option Value
  mb : Str → Option Value
  C : Addr
  CP : Addr

@[reducible] def Gl.M (G : Gl) : Model := model G.prog G.w

mutual
inductive Rep (G : Gl) (H : Heap) : Value → PV → Prop
  | int (n : Int) (t : Tok) : Rep G H (.int n t) (.int n)
  | bool (b : Bool) : Rep G H (.bool b) (.bool b)
  | none : Rep G H .none .none
  | raw (v : Value) : Rep G H v (.raw v)
  | tup {a : Addr} {vs : List Value} {xs : List PV} : IsTup H a vs.toArray → RepL G H vs xs → Rep G H (.ref a) (.tup xs)
  | lst {a : Addr} {vs : List Value} {xs : List PV} : H.IsList a vs.toArray → RepL G H vs xs → Rep G H (.ref a) (.lst xs)
  | rng {r : Addr} {a b st : Int} {t u v : Tok} : IsRange H r a b st t u v → Rep G H (.ref r) (.rng a b st)
  | cell {a d : Addr} {n : Int} {t tk : Tok} {hs : Int} {sz : Nat} : H.get? a = some (instObj G.C d) →
      H.get? d = some (dictOf [⟨hs, .str "_CellId__id" tk, .int n t⟩] sz) → Rep G H (.ref a) (.cell n)
  | point {a d tp : Addr} {x y z : Int} {t1 t2 t3 tk : Tok} {hs : Int} {sz : Nat} : H.get? a = some (instObj G.CP d) →
      H.get? d = some (dictOf [⟨hs, .str "_Point__point" tk, .ref tp⟩] sz) → IsTup H tp [Value.int x t1, .int y t2, .int z t3].toArray → Rep G H (.ref a) (.point x y z)
inductive RepL (G : Gl) (H : Heap) : List Value → List PV → Prop
  | nil : RepL G H [] []
  | cons {v : Value} {x : PV} {vs : List Value} {xs : List PV} : Rep G H v x → RepL G H vs xs → RepL G H (v :: vs) (x :: xs)
end

theorem isTup_keeps {H H' : Heap} (k : H.StaysIn H') {a : Addr} {xs : Array Value} : IsTup H a xs → IsTup H' a xs := fun ⟨o, h, r⟩ => ⟨o, k _ _ h, r⟩
theorem isList_keeps {H H' : Heap} (k : H.StaysIn H') {a : Addr} {xs : Array Value} : H.IsList a xs → H'.IsList a xs := fun ⟨o, h, r⟩ => ⟨o, k _ _ h, r⟩

section
variable {G : Gl} {H H' : Heap}
mutual
theorem Rep.keeps' (k : H.StaysIn H') {v : Value} {x : PV} : Rep G H v x → Rep G H' v x
  | .int n t => .int n t
  | .bool b => .bool b
  | .none => .none
  | .raw v => .raw v
  | .tup h r => .tup (isTup_keeps k h) (RepL.keeps' k r)
  | .lst h r => .lst (isList_keeps k h) (RepL.keeps' k r)
  | .rng h => .rng (k _ _ h)
  | .cell h h' => .cell (k _ _ h) (k _ _ h')
  | .point h h' t => .point (k _ _ h) (k _ _ h') (isTup_keeps k t)
theorem RepL.keeps' (k : H.StaysIn H') {vs : List Value} {xs : List PV} : RepL G H vs xs → RepL G H' vs xs
  | .nil => .nil
  | .cons h r => .cons (Rep.keeps' k h) (RepL.keeps' k r)
end
theorem Rep.keeps {v : Value} {x : PV} (h : Rep G H v x) (k : H.StaysIn H') : Rep G H' v x := h.keeps' k
theorem RepL.keeps {vs : List Value} {xs : List PV} (h : RepL G H vs xs) (k : H.StaysIn H') : RepL G H' vs xs := h.keeps' k
end

theorem RepL.length {G : Gl} {H : Heap} : ∀ {vs : List Value} {xs : List PV}, RepL G H vs xs → vs.length = xs.length
  | _, _, .nil => rfl
  | _, _, .cons _ r => congrArg (· + 1) r.length
theorem RepL.get {G : Gl} {H : Heap} : ∀ {vs : List Value} {xs : List PV}, RepL G H vs xs → ∀ {i : Nat} {x : PV}, xs[i]? = some x → ∃ v, vs[i]? = some v ∧ Rep G H v x
  | _, _, .nil, i, x, e => by simp at e
  | _, _, .cons h r, 0, x, e => ⟨_, rfl, by cases e; exact h⟩
  | _, _, .cons h r, i + 1, x, e => by
    have := r.get (i := i) (x := x) (by simpa using e)
    simpa using this

/-- a frame -/
structure Cx where
  A : Around
  env : Env
  g0 : Heap
  L : Addr
  hid : List Addr

structure Cx.Ok (G : Gl) (c : Cx) : Prop where
  hh : c.A.handled = none
  K : G.K.In c.g0
  T : Top G.p G.loose G.mean G.mg G.mb c.g0
  ek : c.env.scope.kind = .function
  eg : c.env.globals = mainGlobals
  eb : c.env.builtins = builtinsNs
  hsome : ∀ a ∈ c.hid, ∃ o, c.g0.get? a = some o
  hK : G.K.In (hideAll c.g0 c.hid)

def Cx.Room (c : Cx) (k : Nat) : Prop := c.A.depth + k < recursionLimit ∧ c.A.units + 8 * k < cLine
theorem Cx.Room.le {c : Cx} {k k' : Nat} (h : c.Room k) (e : k' ≤ k) : c.Room k' := ⟨by have := h.1; omega, by have := h.2; omega⟩

def NsObj (o : Obj) (m : Str → Option Value) : Prop := ∃ es ep, o.data = .dict es ep ∧ StrKeys es ∧ ∀ name, nsFind es name = m name

abbrev Led := List (Addr × Obj)

def Vw (c : Cx) (mu : Led) (h : Heap) : Heap := hideAll h (c.hid ++ c.L :: mu.map (·.1))

inductive VarV (c : Cx) (m : Str → Option Value) (mu : Led) (x : Str) (v : Value) : Prop
  | loc : c.env.kindOf x = some .local → c.env.locals = c.L → m x = some v → VarV c m mu x v
  | locC {o : Obj} {m' : Str → Option Value} : c.env.kindOf x = some .local → (c.env.locals, o) ∈ mu → NsObj o m' → m' x = some v → VarV c m mu x v
  | cel {a : Addr} {o : Obj} : c.env.kindOf x = some .cell → c.env.cells.lookup x = some a → (a, o) ∈ mu → o.data = .cell (some v) → VarV c m mu x v
  | free {a : Addr} {o : Obj} : c.env.kindOf x = some .free → c.env.cells.lookup x = some a → (a, o) ∈ mu → o.data = .cell (some v) → (x == ("__classdict__" : Str)) = false → VarV c m mu x v

inductive RepO (G : Gl) (H : Heap) (ow : Led) : Value → PV → Prop
  | rep {v : Value} {x : PV} : Rep G H v x → RepO G H ow v x
  | mlst {a : Addr} {o : Obj} {vs : List Value} {n : Nat} {xs : List PV} : (a, o) ∈ ow → o.cls = .type "list" → (o.dict = none ∧ o.data = .seq vs.toArray n) → RepL G H vs xs → RepO G H ow (.ref a) (.mlst xs)

abbrev Sg := List (Str × PV)

structure St (G : Gl) (c : Cx) (σ : Sg) (m : Str → Option Value) (ow al : Led) (s : Shared) : Prop where
  F : Fr c.g0 c.L s.heap m
  N : News c.g0 c.L s.heap (ow ++ al)
  nd : ((ow ++ al).map (·.1)).Nodup
  vars : ∀ x pv, σ.lookup x = some pv → ∃ v, VarV c m ow x v ∧ RepO G (Vw c (ow ++ al) s.heap) ow v pv

abbrev Bot : Value → Shared → Prop := fun _ _ => False

def Post (G : Gl) (c : Cx) (mu : Led) (s : Shared) (Q : PV → Prop) (v : Value) (s' : Shared) : Prop :=
  ∃ h' tk, s' = { s with heap := h', toks := tk } ∧ s.heap.StaysIn h' ∧ ∃ pv, Rep G (Vw c mu h') v pv ∧ Q pv

def PostB (s : Shared) (Q : Bool → Prop) (b : Bool) (s' : Shared) : Prop :=
  ∃ h' tk, s' = { s with heap := h', toks := tk } ∧ s.heap.StaysIn h' ∧ Q b

def PostL (G : Gl) (c : Cx) (mu : Led) (s : Shared) (Q : List PV → Prop) (vs : List Value) (s' : Shared) : Prop :=
  ∃ h' tk, s' = { s with heap := h', toks := tk } ∧ s.heap.StaysIn h' ∧ ∃ pvs, RepL G (Vw c mu h') vs pvs ∧ Q pvs

section
variable (G : Gl) (c : Cx) (σ : Sg)
/-- a tree of the machine, run where the locals are σ -/
def Tr (t : Sem Value) (Q : PV → Prop) : Prop := ∀ m ow al s, c.Ok G → St G c σ m ow al s → wpAny G.M c.A t (Post G c (ow ++ al) s Q) Bot s
def Ev (e : Expr) (Q : PV → Prop) : Prop := Tr G c σ (eval e c.env) Q
def EvT (e : Expr) (Q : Bool → Prop) : Prop := ∀ m ow al s, c.Ok G → St G c σ m ow al s → wpAny G.M c.A (PySem.isTrue e c.env (eval e c.env)) (PostB s Q) Bot s
def EvL (t : Sem (List Value)) (Q : List PV → Prop) : Prop := ∀ m ow al s, c.Ok G → St G c σ m ow al s → wpAny G.M c.A t (PostL G c (ow ++ al) s Q) Bot s
def Op1 (t : Value → Sem Value) (x : PV) (Q : PV → Prop) : Prop := ∀ m ow al s, c.Ok G → St G c σ m ow al s → ∀ v, Rep G (Vw c (ow ++ al) s.heap) v x → wpAny G.M c.A (t v) (Post G c (ow ++ al) s Q) Bot s
def Op2 (t : Value → Value → Sem Value) (x y : PV) (Q : PV → Prop) : Prop := ∀ m ow al s, c.Ok G → St G c σ m ow al s → ∀ v u, Rep G (Vw c (ow ++ al) s.heap) v x → Rep G (Vw c (ow ++ al) s.heap) u y → wpAny G.M c.A (t v u) (Post G c (ow ++ al) s Q) Bot s
def OpL (t : List Value → Sem Value) (xs : List PV) (Q : PV → Prop) : Prop := ∀ m ow al s, c.Ok G → St G c σ m ow al s → ∀ vs, RepL G (Vw c (ow ++ al) s.heap) vs xs → wpAny G.M c.A (t vs) (Post G c (ow ++ al) s Q) Bot s
def OpT (t : Value → Sem Bool) (x : PV) (Q : Bool → Prop) : Prop := ∀ m ow al s, c.Ok G → St G c σ m ow al s → ∀ v, Rep G (Vw c (ow ++ al) s.heap) v x → wpAny G.M c.A (t v) (PostB s Q) Bot s
end

theorem mem_vw {c : Cx} {mu : Led} {h : Heap} {b : Addr} {o : Obj} : (Vw c mu h).get? b = some o ↔ h.get? b = some o ∧ b ∉ c.hid ++ c.L :: mu.map (·.1) := by
  constructor
  · intro e
    refine ⟨of_hideAll _ e, fun hm => ?_⟩
    rw [Vw, hideAll_none _ hm] at e; cases e
  · rintro ⟨e, hm⟩; exact hideAll_get _ e hm

theorem vw_mono {c : Cx} {mu : Led} {h h' : Heap} (k : h.StaysIn h') : (Vw c mu h).StaysIn (Vw c mu h') := fun b o e => by
  rw [mem_vw] at e ⊢; exact ⟨k _ _ e.1, e.2⟩
theorem vw_sub {c : Cx} {mu : Led} {h : Heap} : (Vw c mu h).StaysIn h := fun b o e => (mem_vw.mp e).1

theorem stays_refl (h : Heap) : h.StaysIn h := fun _ _ e => e
theorem stays_trans {a b c : Heap} (x : a.StaysIn b) (y : b.StaysIn c) : a.StaysIn c := fun _ _ e => y _ _ (x _ _ e)
theorem stays_push (h : Heap) (o : Obj) : h.StaysIn (h.push o) := fun _ _ e => Heap.get?_push_of_some _ e
theorem stays_ext {h h' : Heap} (x : Heap.ExtBut h.objs.size h h') : h.StaysIn h' := fun b o e => x b o (Nat.ne_of_lt (Heap.lt_size e)) e

theorem RepO.keeps {G : Gl} {H H' : Heap} {ow : Led} {v : Value} {x : PV} (k : H.StaysIn H') : RepO G H ow v x → RepO G H' ow v x
  | .rep h => .rep (h.keeps k)
  | .mlst a b d r => .mlst a b d (r.keeps k)

theorem fr_grow {g h h' : Heap} {L : Addr} {m : Str → Option Value} (F : Fr g L h m) (k : h.StaysIn h') : Fr g L h' m :=
  ⟨F.ns.keeps k, fun b o e => k _ _ (F.keep b o e), F.above⟩

theorem St.grow {G : Gl} {c : Cx} {σ : Sg} {m : Str → Option Value} {ow al : Led} {s : Shared} {h' : Heap} {tk : Nat} (S : St G c σ m ow al s) (k : s.heap.StaysIn h') :
    St G c σ m ow al { s with heap := h', toks := tk } :=
  ⟨fr_grow S.F k, fun p hp => ⟨k _ _ (S.N p hp).1, (S.N p hp).2⟩, S.nd, fun x pv e => let ⟨v, a, b⟩ := S.vars x pv e; ⟨v, a, b.keeps (vw_mono k)⟩⟩

section
variable {G : Gl} {c : Cx} {σ : Sg}

/-- glue: after a tree has been run, the rest runs in the grown state -/
theorem post_bind {mu : Led} {s : Shared} {Q : PV → Prop} {P : Value → Shared → Prop} {v : Value} {s' : Shared} (h : Post G c mu s Q v s')
    (k : ∀ h' tk, s.heap.StaysIn h' → ∀ pv, Rep G (Vw c mu h') v pv → Q pv → P v { s with heap := h', toks := tk }) : P v s' := by
  obtain ⟨h', tk, rfl, st, pv, r, q⟩ := h
  exact k h' tk st pv r q

theorem Post.mono {mu : Led} {s : Shared} {h1 : Heap} {t1 : Nat} {Q Q' : PV → Prop} {v : Value} {s' : Shared} (k : s.heap.StaysIn h1) (h : Post G c mu { s with heap := h1, toks := t1 } Q v s') (hq : ∀ pv, Q pv → Q' pv) :
    Post G c mu s Q' v s' := by
  obtain ⟨h', tk, rfl, st, pv, r, q⟩ := h
  exact ⟨h', tk, rfl, stays_trans k st, pv, r, hq _ q⟩
theorem PostB.mono {s : Shared} {h1 : Heap} {t1 : Nat} {Q Q' : Bool → Prop} {b : Bool} {s' : Shared} (k : s.heap.StaysIn h1) (h : PostB { s with heap := h1, toks := t1 } Q b s') (hq : ∀ b, Q b → Q' b) :
    PostB s Q' b s' := by
  obtain ⟨h', tk, rfl, st, q⟩ := h
  exact ⟨h', tk, rfl, stays_trans k st, hq _ q⟩
theorem PostL.mono {mu : Led} {s : Shared} {h1 : Heap} {t1 : Nat} {Q Q' : List PV → Prop} {v : List Value} {s' : Shared} (k : s.heap.StaysIn h1) (h : PostL G c mu { s with heap := h1, toks := t1 } Q v s') (hq : ∀ pv, Q pv → Q' pv) :
    PostL G c mu s Q' v s' := by
  obtain ⟨h', tk, rfl, st, pv, r, q⟩ := h
  exact ⟨h', tk, rfl, stays_trans k st, pv, r, hq _ q⟩

theorem bot_elim {P : Value → Shared → Prop} : ∀ (e : Value) (s : Shared), Bot e s → P e s := fun _ _ h => h.elim

/-- one tree, then an operation on its value -/
theorem tr_bind1 {t : Sem Value} {f : Value → Sem Value} {Q : PV → Prop} (h : Tr G c σ t (fun x => Op1 G c σ f x Q)) {u : Sem Value}
    (hu : ∀ m ow al s, c.Ok G → St G c σ m ow al s → ∀ {Q' : Value → Shared → Prop}, wpAny G.M c.A t (fun v s1 => wpAny G.M c.A (f v) Q' Bot s1) Bot s → wpAny G.M c.A u Q' Bot s) : Tr G c σ u Q := by
  intro m ow al s ok S
  refine hu m ow al s ok S ?_
  refine wpAny_mono (h m ow al s ok S) (fun v s1 hp => ?_) bot_elim
  obtain ⟨h1, t1, rfl, k, pv, r, q⟩ := hp
  exact wpAny_mono (q m ow al _ ok (S.grow k) v r) (fun v' s2 h2 => Post.mono k h2 fun _ q => q) bot_elim

theorem ev_of {e : Expr} {Q Q' : PV → Prop} (h : Ev G c σ e Q) (hq : ∀ pv, Q pv → Q' pv) : Ev G c σ e Q' := by
  intro m ow al s ok S
  refine wpAny_mono (h m ow al s ok S) (fun v s1 hp => ?_) bot_elim
  obtain ⟨h1, t1, rfl, k, pv, r, q⟩ := hp
  exact ⟨h1, t1, rfl, k, pv, r, hq _ q⟩

/-! constants -/
theorem post_here {mu : Led} {s : Shared} {Q : PV → Prop} {v : Value} {pv : PV} (r : Rep G (Vw c mu s.heap) v pv) (q : Q pv) : Post G c mu s Q v s := ⟨s.heap, s.toks, rfl, stays_refl _, pv, r, q⟩
theorem post_tok {mu : Led} {s : Shared} {Q : PV → Prop} {v : Value} {pv : PV} {tk : Nat} (r : Rep G (Vw c mu s.heap) v pv) (q : Q pv) : Post G c mu s Q v { s with toks := tk } := ⟨s.heap, tk, rfl, stays_refl _, pv, r, q⟩

theorem ev_int {i : Int} {k : Nat} {pos : Pos} {Q : PV → Prop} (h : Q (.int i)) : Ev G c σ (.Constant (.int i) k pos) Q :=
  fun _ _ _ _ _ _ => wpAny_Constant_int (post_tok (.int _ _) h)
theorem ev_none {k : Nat} {pos : Pos} {Q : PV → Prop} (h : Q .none) : Ev G c σ (.Constant .none k pos) Q :=
  fun _ _ _ _ _ _ => wpAny_Constant_none (post_here .none h)
theorem ev_bool {b : Bool} {k : Nat} {pos : Pos} {Q : PV → Prop} (h : Q (.bool b)) : Ev G c σ (.Constant (.bool b) k pos) Q :=
  fun _ _ _ _ _ _ => wpAny_Constant_bool (post_here (.bool b) h)

/-! names -/
def PV.plain : PV → Bool
  | .mlst _ => false
  | _ => true
theorem RepO.plain {H : Heap} {ow : Led} {v : Value} {x : PV} (h : RepO G H ow v x) (hx : x.plain = true) : Rep G H v x := by
  cases h with
  | rep h => exact h
  | mlst => cases hx

theorem nsObj_get {h : Heap} {a : Addr} {o : Obj} {m : Str → Option Value} (e : h.get? a = some o) (n : NsObj o m) : h.Ns a m := let ⟨es, ep, r⟩ := n; ⟨o, es, ep, e, r⟩

theorem load_var {m : Str → Option Value} {ow al : Led} {s : Shared} {x : Str} {v : Value} {Q : Value → Shared → Prop} (ok : c.Ok G) (S : St G c σ m ow al s) (h : VarV c m ow x v) (q : Q v s) :
    wpAny G.M c.A (loadName c.env x) Q Bot s := by
  cases h with
  | loc hk hl hm => exact wpAny_loadName_local ok.ek hk (hl ▸ S.F.ns) hm q
  | locC hk ho hn hm => exact wpAny_loadName_local ok.ek hk (nsObj_get (S.N _ (List.mem_append_left _ ho)).1 hn) hm q
  | cel hk hc ho hd => exact wpAny_loadName_cell ok.ek hk hc ⟨_, (S.N _ (List.mem_append_left _ ho)).1, hd⟩ q
  | free hk hc ho hd hn => exact wpAny_loadName_free ok.ek hk hc ⟨_, (S.N _ (List.mem_append_left _ ho)).1, hd⟩ q hn

theorem ev_name {x : Str} {pos : Pos} {pv : PV} {Q : PV → Prop} (hx : σ.lookup x = some pv) (hp : pv.plain = true) (h : Q pv) (hd : (x == ("__debug__" : Str)) = false := by decide) :
    Ev G c σ (.Name x pos) Q := by
  intro m ow al s ok S
  obtain ⟨v, hv, r⟩ := S.vars x pv hx
  exact wpAny_Name (load_var ok S hv (post_here (r.plain hp) h)) hd

theorem ev_global {x : Str} {pos : Pos} {v : Value} {Q : PV → Prop} (e : nsIn G.K mainGlobals x = some (some v)) (hk : c.env.kindOf x = some .globalImplicit) (h : Q (.raw v)) (hd : (x == ("__debug__" : Str)) = false := by decide) :
    Ev G c σ (.Name x pos) Q := by
  intro m ow al s ok S
  refine Name_function_global ok.ek hk (loadGlobal_global (env := c.env) ?_ (mg_of ok.K ok.T.g e) (post_here (.raw v) h)) hd
  rw [ok.eg]; exact ok.T.g.keeps S.F.keep
theorem ev_global_int {x : Str} {pos : Pos} {n : Int} {t : Tok} {Q : PV → Prop} (e : nsIn G.K mainGlobals x = some (some (.int n t))) (hk : c.env.kindOf x = some .globalImplicit) (h : Q (.int n)) (hd : (x == ("__debug__" : Str)) = false := by decide) :
    Ev G c σ (.Name x pos) Q := by
  intro m ow al s ok S
  refine Name_function_global ok.ek hk (loadGlobal_global (env := c.env) ?_ (mg_of ok.K ok.T.g e) (post_here (.int n t) h)) hd
  rw [ok.eg]; exact ok.T.g.keeps S.F.keep
theorem ev_builtin {x : Str} {pos : Pos} {v : Value} {Q : PV → Prop} (e : nsIn G.K mainGlobals x = some none) (hv : bootBuiltins x = some v) (hk : c.env.kindOf x = some .globalImplicit) (h : Q (.raw v)) (hn : x ≠ "__name__" := by decide)
    (hd : (x == ("__debug__" : Str)) = false := by decide) : Ev G c σ (.Name x pos) Q := by
  intro m ow al s ok S
  refine Name_function_global ok.ek hk (loadGlobal_builtin (env := c.env) ?_ (mg_none_of ok.K ok.T.g e) ?_ ((ok.T.builtins x hn).trans hv) (post_here (.raw v) h)) hd
  · rw [ok.eg]; exact ok.T.g.keeps S.F.keep
  · rw [ok.eb]; exact ok.T.b.keeps S.F.keep

/-! operators -/
theorem ev_BinOp {l r : Expr} {op : Operator} {pos : Pos} {Q : PV → Prop} (h : Ev G c σ l (fun a => Ev G c σ r (fun b => Op2 G c σ (binaryOp op) a b Q))) : Ev G c σ (.BinOp l op r pos) Q := by
  intro m ow al s ok S
  refine wpAny_BinOp (wpAny_mono (h m ow al s ok S) (fun v s1 hp => ?_) bot_elim)
  obtain ⟨h1, t1, rfl, k1, a, ra, q1⟩ := hp
  refine wpAny_mono (q1 m ow al _ ok (S.grow k1)) (fun u s2 hp2 => ?_) bot_elim
  obtain ⟨h2, t2, rfl, k2, b, rb, q2⟩ := hp2
  exact wpAny_mono (q2 m ow al _ ok (S.grow (stays_trans k1 k2)) v u (ra.keeps (vw_mono k2)) rb) (fun v' s3 h3 => Post.mono (stays_trans k1 k2) h3 fun _ q => q) bot_elim

theorem ev_Compare {l r : Expr} {op : CmpOp} {pos : Pos} {Q : PV → Prop} (h : Ev G c σ l (fun a => Ev G c σ r (fun b => Op2 G c σ (compareOp op) a b Q))) (hm : behindInMarks op r = false := by with_unfolding_all rfl) : Ev G c σ (.Compare l [op] [r] pos) Q := by
  intro m ow al s ok S
  refine wpAny_Compare1 (wpAny_mono (h m ow al s ok S) (fun v s1 hp => ?_) bot_elim) hm
  obtain ⟨h1, t1, rfl, k1, a, ra, q1⟩ := hp
  refine wpAny_mono (q1 m ow al _ ok (S.grow k1)) (fun u s2 hp2 => ?_) bot_elim
  obtain ⟨h2, t2, rfl, k2, b, rb, q2⟩ := hp2
  exact wpAny_mono (q2 m ow al _ ok (S.grow (stays_trans k1 k2)) v u (ra.keeps (vw_mono k2)) rb) (fun v' s3 h3 => Post.mono (stays_trans k1 k2) h3 fun _ q => q) bot_elim

theorem ev_UnaryOp {op : UnaryOp} {e : Expr} {pos : Pos} {Q : PV → Prop} (h : Ev G c σ e (fun a => Op1 G c σ (unaryOp op) a Q)) : Ev G c σ (.UnaryOp op e pos) Q :=
  tr_bind1 h fun _ _ _ _ _ _ => wpAny_UnaryOp

theorem ev_IfExp {test body orelse : Expr} {pos : Pos} {Q : PV → Prop} (h : EvT G c σ test (fun b => if b then Ev G c σ body Q else Ev G c σ orelse Q)) : Ev G c σ (.IfExp test body orelse pos) Q := by
  intro m ow al s ok S
  refine wpAny_IfExp (wpAny_mono (h m ow al s ok S) (fun b s1 hp => ?_) bot_elim)
  obtain ⟨h1, t1, rfl, k1, q1⟩ := hp
  cases b with
  | true => exact wpAny_mono (q1 m ow al _ ok (S.grow k1)) (fun v' s3 h3 => Post.mono k1 h3 fun _ q => q) bot_elim
  | false => exact wpAny_mono (q1 m ow al _ ok (S.grow k1)) (fun v' s3 h3 => Post.mono k1 h3 fun _ q => q) bot_elim

/-! ints -/
theorem op_add {a b : Int} {Q : PV → Prop} (h : Q (.int (a + b))) : Op2 G c σ (binaryOp .Add) (.int a) (.int b) Q := by
  intro m ow al s ok S v u rv ru
  cases rv; cases ru
  exact PyProof.Rows.add_int (post_tok (.int _ _) h)
theorem op_sub {a b : Int} {Q : PV → Prop} (h : Q (.int (a - b))) : Op2 G c σ (binaryOp .Sub) (.int a) (.int b) Q := by
  intro m ow al s ok S v u rv ru
  cases rv; cases ru
  exact PyProof.Rows.sub_int (post_tok (.int _ _) h)
theorem op_mul {a b : Int} {Q : PV → Prop} (hm : IntMulOk a b) (h : Q (.int (a * b))) : Op2 G c σ (binaryOp .Mult) (.int a) (.int b) Q := by
  intro m ow al s ok S v u rv ru
  cases rv; cases ru
  exact PyProof.Rows.mul_int (post_tok (.int _ _) h) hm
theorem op_fdiv {a b : Int} {Q : PV → Prop} (hb : b ≠ 0) (hl : b.natAbs.log2 < 9000) (h : Q (.int (a.fdiv b))) : Op2 G c σ (binaryOp .FloorDiv) (.int a) (.int b) Q := by
  intro m ow al s ok S v u rv ru
  cases rv; cases ru
  exact PyProof.Rows.floordiv_int hb (post_tok (.int _ _) h) (.inl (PyProof.noPylong_of_log2 hl))
theorem op_mod {a b : Int} {Q : PV → Prop} (hb : b ≠ 0) (h : Q (.int (a.fmod b))) : Op2 G c σ (binaryOp .Mod) (.int a) (.int b) Q := by
  intro m ow al s ok S v u rv ru
  cases rv; cases ru
  exact PyProof.Rows.mod_int' hb (post_tok (.int _ _) h)
theorem op_shl {a n : Int} {Q : PV → Prop} (hn : 0 ≤ n) (hs : (Builtin.Int.intBits a : Int) + n ≤ 2 ^ 27) (h : Q (.int (a * 2 ^ n.toNat))) : Op2 G c σ (binaryOp .LShift) (.int a) (.int n) Q := by
  intro m ow al s ok S v u rv ru
  cases rv; cases ru
  exact PyProof.Rows.lshift_int hn hs (post_tok (.int _ _) h)
theorem op_shr {a n : Int} {Q : PV → Prop} (hn : 0 ≤ n) (h : Q (.int (a.fdiv (2 ^ n.toNat)))) : Op2 G c σ (binaryOp .RShift) (.int a) (.int n) Q := by
  intro m ow al s ok S v u rv ru
  cases rv; cases ru
  exact PyProof.Rows.rshift_int hn (post_tok (.int _ _) h)
theorem op_and {a b : Int} {Q : PV → Prop} (h : Q (.int (Builtin.bitAnd a b))) : Op2 G c σ (binaryOp .BitAnd) (.int a) (.int b) Q := by
  intro m ow al s ok S v u rv ru
  cases rv; cases ru
  exact PyProof.Rows.and_int (post_tok (.int _ _) h)
theorem op_or {a b : Int} {Q : PV → Prop} (h : Q (.int (Builtin.bitOr a b))) : Op2 G c σ (binaryOp .BitOr) (.int a) (.int b) Q := by
  intro m ow al s ok S v u rv ru
  cases rv; cases ru
  exact PyProof.Rows.or_int (post_tok (.int _ _) h)
theorem op_xor {a b : Int} {Q : PV → Prop} (h : Q (.int (Builtin.bitXor a b))) : Op2 G c σ (binaryOp .BitXor) (.int a) (.int b) Q := by
  intro m ow al s ok S v u rv ru
  cases rv; cases ru
  exact PyProof.Rows.xor_int (post_tok (.int _ _) h)
theorem op_neg {a : Int} {Q : PV → Prop} (h : Q (.int (-a))) : Op1 G c σ (unaryOp .USub) (.int a) Q := by
  intro m ow al s ok S v rv
  cases rv
  exact PyProof.Rows.neg_int (post_tok (.int _ _) h)

theorem op_eq {a b : Int} {Q : PV → Prop} (h : Q (.bool (a == b))) : Op2 G c σ (compareOp .Eq) (.int a) (.int b) Q := by
  intro m ow al s ok S v u rv ru
  cases rv; cases ru
  exact PyProof.Rows.eq_int (post_here (.bool _) h)
theorem op_ne {a b : Int} {Q : PV → Prop} (h : Q (.bool (a != b))) : Op2 G c σ (compareOp .NotEq) (.int a) (.int b) Q := by
  intro m ow al s ok S v u rv ru
  cases rv; cases ru
  exact PyProof.Rows.ne_int (post_here (.bool _) h)
theorem op_lt {a b : Int} {Q : PV → Prop} (h : Q (.bool (decide (a < b)))) : Op2 G c σ (compareOp .Lt) (.int a) (.int b) Q := by
  intro m ow al s ok S v u rv ru
  cases rv; cases ru
  exact PyProof.Rows.lt_int (post_here (.bool _) h)
theorem op_le {a b : Int} {Q : PV → Prop} (h : Q (.bool (decide (a ≤ b)))) : Op2 G c σ (compareOp .LtE) (.int a) (.int b) Q := by
  intro m ow al s ok S v u rv ru
  cases rv; cases ru
  exact PyProof.Rows.le_int (post_here (.bool _) h)
theorem op_gt {a b : Int} {Q : PV → Prop} (h : Q (.bool (decide (b < a)))) : Op2 G c σ (compareOp .Gt) (.int a) (.int b) Q := by
  intro m ow al s ok S v u rv ru
  cases rv; cases ru
  exact PyProof.Rows.gt_int (post_here (.bool _) h)
theorem op_ge {a b : Int} {Q : PV → Prop} (h : Q (.bool (decide (b ≤ a)))) : Op2 G c σ (compareOp .GtE) (.int a) (.int b) Q := by
  intro m ow al s ok S v u rv ru
  cases rv; cases ru
  exact PyProof.Rows.ge_int (post_here (.bool _) h)
end
end Mine
end Part0
section Part1
open PySem PySem.W PySem.Calls
set_option maxRecDepth 100000
set_option autoImplicit false
set_option linter.unusedVariables false
namespace Mine
open PyProof.Rows (Fr News Top IsTup Below envOf envOfC)

section
variable {G : Gl} {c : Cx} {σ : Sg}

theorem Cx.Ok.hlt (ok : c.Ok G) : ∀ a ∈ c.hid, @LT.lt Nat _ a c.g0.objs.size := fun a ha => let ⟨_, e⟩ := ok.hsome a ha; Heap.lt_size e
theorem St.hsome {m : Str → Option Value} {ow al : Led} {s : Shared} (ok : c.Ok G) (S : St G c σ m ow al s) : ∀ a ∈ c.hid ++ c.L :: (ow ++ al).map (·.1), ∃ o, s.heap.get? a = some o := fun a ha => by
  rcases List.mem_append.mp ha with h | h
  · obtain ⟨o, e⟩ := ok.hsome a h; exact ⟨o, S.F.keep _ _ e⟩
  · rcases List.mem_cons.mp h with rfl | h
    · obtain ⟨o, _, _, e, _⟩ := S.F.ns; exact ⟨o, e⟩
    · obtain ⟨p, hp, rfl⟩ := List.mem_map.mp h
      exact ⟨_, (S.N p hp).1⟩

/-! what is new can be seen; the written part can be seen -/
theorem St.notin {m : Str → Option Value} {ow al : Led} {s : Shared} (ok : c.Ok G) (S : St G c σ m ow al s) {a : Addr} (ha : s.heap.objs.size ≤ a) : a ∉ c.hid ++ c.L :: (ow ++ al).map (·.1) := by
  have hL : @LT.lt Nat _ c.L s.heap.objs.size := S.F.ns.lt
  have hg : @LE.le Nat _ c.g0.objs.size c.L := S.F.above
  have ha' : @LE.le Nat _ s.heap.objs.size a := ha
  intro hm
  rcases List.mem_append.mp hm with h | h
  · exact absurd (Nat.lt_of_lt_of_le (ok.hlt a h) (Nat.le_trans hg (Nat.le_trans (Nat.le_of_lt hL) ha'))) (Nat.lt_irrefl _)
  · rcases List.mem_cons.mp h with rfl | h
    · exact absurd (Nat.lt_of_lt_of_le hL ha') (Nat.lt_irrefl _)
    · obtain ⟨p, hp, rfl⟩ := List.mem_map.mp h
      exact absurd (Nat.lt_of_lt_of_le (Heap.lt_size (S.N p hp).1) ha') (Nat.lt_irrefl _)
theorem St.vis {m : Str → Option Value} {ow al : Led} {s : Shared} (ok : c.Ok G) (S : St G c σ m ow al s) {h' : Heap} {a : Addr} {o : Obj} (ha : s.heap.objs.size ≤ a) (e : h'.get? a = some o) :
    (Vw c (ow ++ al) h').get? a = some o := mem_vw.mpr ⟨e, S.notin ok ha⟩
theorem St.hidden {m : Str → Option Value} {ow al : Led} {s : Shared} (ok : c.Ok G) (S : St G c σ m ow al s) : G.K.In (Vw c (ow ++ al) s.heap) := by
  intro a o e
  have h1 := ok.hK a o e
  have hg : c.g0.get? a = some o := of_hideAll _ h1
  refine mem_vw.mpr ⟨S.F.keep a o hg, fun hm => ?_⟩
  rcases List.mem_append.mp hm with h | h
  · rw [hideAll_none _ h] at h1; cases h1
  · rcases List.mem_cons.mp h with rfl | h
    · exact absurd (Nat.lt_of_lt_of_le (Heap.lt_size hg) S.F.above) (Nat.lt_irrefl _)
    · obtain ⟨p, hp, rfl⟩ := List.mem_map.mp h
      rw [(S.N p hp).2.2] at hg; cases hg
theorem St.inK {m : Str → Option Value} {ow al : Led} {s : Shared} (ok : c.Ok G) (S : St G c σ m ow al s) : G.K.In s.heap := ok.K.keeps S.F.keep

theorem ev_global_rep {x : Str} {pos : Pos} {v : Value} {pv : PV} {Q : PV → Prop} (e : nsIn G.K mainGlobals x = some (some v)) (r : ∀ H, G.K.In H → Rep G H v pv) (hk : c.env.kindOf x = some .globalImplicit) (h : Q pv) (hd : (x == ("__debug__" : Str)) = false := by decide) :
    Ev G c σ (.Name x pos) Q := by
  intro m ow al s ok S
  refine Name_function_global ok.ek hk (loadGlobal_global (env := c.env) ?_ (mg_of ok.K ok.T.g e) (post_here (r _ (S.hidden ok)) h)) hd
  rw [ok.eg]; exact ok.T.g.keeps S.F.keep

/-! lists of expressions -/
theorem evl_nil {pos : Pos} {Q : List PV → Prop} (h : Q []) : EvL G c σ (spliced (backTo pos (starEach [] c.env))) Q :=
  fun m ow al s ok S => PyProof.Rows.spliced_none ⟨s.heap, s.toks, rfl, stays_refl _, [], .nil, h⟩
theorem evl_cons {pos : Pos} {e : Expr} {rest : List Expr} {Q : List PV → Prop} (h : Ev G c σ e (fun x => EvL G c σ (spliced (backTo pos (starEach rest c.env))) (fun xs => Q (x :: xs))))
    (he : starEach (e :: rest) c.env = (false, eval e c.env) :: starEach rest c.env := by rfl) : EvL G c σ (spliced (backTo pos (starEach (e :: rest) c.env))) Q := by
  intro m ow al s ok S
  refine PyProof.Rows.spliced_more (wpAny_mono (h m ow al s ok S) (fun v s1 hp => ?_) bot_elim) he
  obtain ⟨h1, t1, rfl, k1, a, ra, q1⟩ := hp
  refine wpAny_mono (q1 m ow al _ ok (S.grow k1)) (fun vs s2 hp2 => ?_) bot_elim
  obtain ⟨h2, t2, rfl, k2, b, rb, q2⟩ := hp2
  exact ⟨h2, t2, rfl, stays_trans k1 k2, _, .cons (ra.keeps (vw_mono k2)) rb, q2⟩

theorem ev_Tuple {elts : List Expr} {k : Nat} {pos : Pos} {Q : PV → Prop} (h : EvL G c σ (spliced (backTo pos (starEach elts c.env))) (fun xs => xs.length ≤ 1000 ∧ Q (.tup xs))) : Ev G c σ (.Tuple elts k pos) Q := by
  intro m ow al s ok S
  refine PyProof.Rows.Tuple_ (wpAny_mono (h m ow al s ok S) (fun vs s1 hp => ?_) bot_elim)
  obtain ⟨h1, t1, rfl, k1, a, ra, hl, q1⟩ := hp
  have S1 := S.grow (tk := t1) k1
  refine wpAny_newObj_type ?_ (by show vs.toArray.size ≤ sizeLine; rw [List.size_toArray, ra.length]; exact Nat.le_trans hl (by decide))
  refine ⟨_, _, rfl, stays_trans k1 (stays_push _ _), _, .tup ⟨_, S1.vis ok (Nat.le_refl _) (Heap.get?_push_size _ rfl), rfl, _, rfl⟩ (ra.keeps (vw_mono (stays_push _ _))), q1⟩
theorem ev_List {elts : List Expr} {pos : Pos} {Q : PV → Prop} (h : EvL G c σ (spliced (backTo pos (starEach elts c.env))) (fun xs => xs.length ≤ 1000 ∧ Q (.lst xs))) : Ev G c σ (.List elts pos) Q := by
  intro m ow al s ok S
  refine PyProof.Rows.List_ (wpAny_mono (h m ow al s ok S) (fun vs s1 hp => ?_) bot_elim)
  obtain ⟨h1, t1, rfl, k1, a, ra, hl, q1⟩ := hp
  have S1 := S.grow (tk := t1) k1
  refine wpAny_newObj_type ?_ (by show vs.toArray.size ≤ sizeLine; rw [List.size_toArray, ra.length]; exact Nat.le_trans hl (by decide))
  refine ⟨_, _, rfl, stays_trans k1 (stays_push _ _), _, .lst ⟨_, S1.vis ok (Nat.le_refl _) (Heap.get?_push_size _ rfl), rfl, _, rfl⟩ (ra.keeps (vw_mono (stays_push _ _))), q1⟩

/-! truth -/
theorem postB_tok {s : Shared} {Q : Bool → Prop} {b : Bool} {tk : Nat} (q : Q b) : PostB s Q b { s with toks := tk } := ⟨s.heap, tk, rfl, stays_refl _, q⟩
theorem opt_bool {b : Bool} {Q : Bool → Prop} (h : Q b) : OpT G c σ truthy (.bool b) Q := by
  intro m ow al s ok S v rv
  cases rv
  exact wpAny_truthy_bool (postB_tok h)
theorem opt_int {n : Int} {Q : Bool → Prop} (h : Q (n != 0)) : OpT G c σ truthy (.int n) Q := by
  intro m ow al s ok S v rv
  cases rv
  exact PyProof.Rows.truthy_int (postB_tok h)
theorem opt_lst {xs : List PV} {Q : Bool → Prop} (hl : xs.length ≤ 2 ^ 30) (h : Q (!xs.isEmpty)) : OpT G c σ truthy (.lst xs) Q := by
  intro m ow al s ok S v rv
  cases rv with
  | lst hl' r =>
    have e := r.length
    rename_i vs
    refine wpAny_truthy_list (isList_keeps vw_sub hl') (by rw [List.size_toArray]; omega) (postB_tok ?_)
    have : (!Array.isEmpty vs.toArray) = !xs.isEmpty := by
      cases vs <;> cases xs <;> simp_all
    rw [this]; exact h

theorem evt_of {e : Expr} {Q : Bool → Prop} (h : Ev G c σ e (fun x => OpT G c σ truthy x Q))
    (he : PySem.isTrue e c.env (eval e c.env) = (do let v ← eval e c.env; standAt e.pos; holding [v] (truthy v)) := by rfl) : EvT G c σ e Q := by
  intro m ow al s ok S
  refine PyProof.Rows.isTrue_plain (wpAny_mono (h m ow al s ok S) (fun v s1 hp => ?_) bot_elim) he
  obtain ⟨h1, t1, rfl, k1, a, ra, q1⟩ := hp
  exact wpAny_mono (q1 m ow al _ ok (S.grow k1) v ra) (fun v' s3 h3 => PostB.mono k1 h3 fun _ q => q) bot_elim
theorem evt_Compare {l r : Expr} {op : CmpOp} {pos : Pos} {Q : Bool → Prop} (h : Ev G c σ l (fun a => Ev G c σ r (fun b => Op2 G c σ (compareOp op) a b (fun x => OpT G c σ truthy x Q))))
    (hm : behindInMarks op r = false := by with_unfolding_all rfl) : EvT G c σ (.Compare l [op] [r] pos) Q := by
  intro m ow al s ok S
  refine wpAny_isTrue_Compare1 (wpAny_mono (h m ow al s ok S) (fun v s1 hp => ?_) bot_elim) hm
  obtain ⟨h1, t1, rfl, k1, a, ra, q1⟩ := hp
  refine wpAny_mono (q1 m ow al _ ok (S.grow k1)) (fun u s2 hp2 => ?_) bot_elim
  obtain ⟨h2, t2, rfl, k2, b, rb, q2⟩ := hp2
  have k12 := stays_trans k1 k2
  refine wpAny_mono (q2 m ow al _ ok (S.grow k12) v u (ra.keeps (vw_mono k2)) rb) (fun w s3 hp3 => ?_) bot_elim
  obtain ⟨h3, t3, rfl, k3, x, rx, q3⟩ := hp3
  have k13 := stays_trans k12 k3
  exact wpAny_mono (q3 m ow al _ ok (S.grow k13) w rx) (fun v' s3 h3 => PostB.mono k13 h3 fun _ q => q) bot_elim
theorem evt_not {e : Expr} {pos : Pos} {Q : Bool → Prop} (h : EvT G c σ e (fun b => Q (!b))) : EvT G c σ (.UnaryOp .Not e pos) Q := by
  intro m ow al s ok S
  refine PyProof.Rows.isTrue_not (wpAny_mono (h m ow al s ok S) (fun b s1 hp => ?_) bot_elim)
  obtain ⟨h1, t1, rfl, k1, q1⟩ := hp
  exact ⟨h1, t1, rfl, k1, q1⟩
theorem evt_and {e : Expr} {rest : List Expr} {pos : Pos} {Q : Bool → Prop} (h : EvT G c σ e (fun b => if b then EvT G c σ (.BoolOp .And rest pos) Q else Q false)) : EvT G c σ (.BoolOp .And (e :: rest) pos) Q := by
  intro m ow al s ok S
  refine PyProof.Rows.isTrue_and (wpAny_mono (h m ow al s ok S) (fun b s1 hp => ?_) bot_elim)
  obtain ⟨h1, t1, rfl, k1, q1⟩ := hp
  cases b with
  | true => exact wpAny_mono (q1 m ow al _ ok (S.grow k1)) (fun v' s3 h3 => PostB.mono k1 h3 fun _ q => q) bot_elim
  | false => exact ⟨h1, t1, rfl, k1, q1⟩
theorem evt_and_nil {pos : Pos} {Q : Bool → Prop} (h : Q true) : EvT G c σ (.BoolOp .And [] pos) Q :=
  fun m ow al s ok S => PyProof.Rows.isTrue_and_nil (postB_tok (tk := s.toks) h)
theorem evt_or {e : Expr} {rest : List Expr} {pos : Pos} {Q : Bool → Prop} (h : EvT G c σ e (fun b => if b then Q true else EvT G c σ (.BoolOp .Or rest pos) Q)) : EvT G c σ (.BoolOp .Or (e :: rest) pos) Q := by
  intro m ow al s ok S
  refine PyProof.Rows.isTrue_or (wpAny_mono (h m ow al s ok S) (fun b s1 hp => ?_) bot_elim)
  obtain ⟨h1, t1, rfl, k1, q1⟩ := hp
  cases b with
  | false => exact wpAny_mono (q1 m ow al _ ok (S.grow k1)) (fun v' s3 h3 => PostB.mono k1 h3 fun _ q => q) bot_elim
  | true => exact ⟨h1, t1, rfl, k1, q1⟩
theorem evt_or_nil {pos : Pos} {Q : Bool → Prop} (h : Q false) : EvT G c σ (.BoolOp .Or [] pos) Q :=
  fun m ow al s ok S => PyProof.Rows.isTrue_or_nil (postB_tok (tk := s.toks) h)

/-! values of and | or | not -/
theorem ev_one {op : BoolOp} {e : Expr} {pos : Pos} {Q : PV → Prop} (h : Ev G c σ e Q) : Ev G c σ (.BoolOp op [e] pos) Q :=
  fun m ow al s ok S => PyProof.Rows.BoolOp_one (h m ow al s ok S)
theorem ev_and {e e2 : Expr} {rest : List Expr} {pos : Pos} {Q : PV → Prop} (h : Ev G c σ e (fun x => OpT G c σ truthy x (fun b => if b then Ev G c σ (.BoolOp .And (e2 :: rest) pos) Q else Q x))) : Ev G c σ (.BoolOp .And (e :: e2 :: rest) pos) Q := by
  intro m ow al s ok S
  refine PyProof.Rows.BoolOp_and (wpAny_mono (h m ow al s ok S) (fun v s1 hp => ?_) bot_elim)
  obtain ⟨h1, t1, rfl, k1, x, rx, q1⟩ := hp
  refine wpAny_mono (q1 m ow al _ ok (S.grow k1) v rx) (fun b s2 hp2 => ?_) bot_elim
  obtain ⟨h2, t2, rfl, k2, q2⟩ := hp2
  have k12 := stays_trans k1 k2
  cases b with
  | true => exact wpAny_mono (q2 m ow al _ ok (S.grow k12)) (fun v' s3 h3 => Post.mono k12 h3 fun _ q => q) bot_elim
  | false => exact ⟨h2, t2, rfl, k12, x, rx.keeps (vw_mono k2), q2⟩
theorem op_not {x : PV} {Q : PV → Prop} (h : OpT G c σ truthy x (fun b => Q (.bool (!b)))) : Op1 G c σ (unaryOp .Not) x Q := by
  intro m ow al s ok S v rv
  refine PyProof.Rows.not_of (wpAny_mono (h m ow al s ok S v rv) (fun b s1 hp => ?_) bot_elim)
  obtain ⟨h1, t1, rfl, k1, q1⟩ := hp
  exact ⟨h1, t1, rfl, k1, _, .bool _, q1⟩

/-! is None -/
def PV.isNone : PV → Bool
  | .none => true
  | _ => false
theorem rep_none {H : Heap} {v : Value} {x : PV} (h : Rep G H v x) (hr : ∀ u, x ≠ .raw u) : (v == .none) = x.isNone := by
  cases h <;> first | rfl | exact absurd rfl (hr _)
theorem op_is_none {x : PV} {Q : PV → Prop} (hr : ∀ u, x ≠ .raw u) (h : Q (.bool x.isNone)) : Op2 G c σ (compareOp .Is) x .none Q := by
  intro m ow al s ok S v u rv ru
  cases ru
  exact is_none (post_here (.bool _) (by rw [rep_none rv hr]; exact h))

/-! items -/
theorem ev_Subscript {value slice : Expr} {pos : Pos} {Q : PV → Prop} (h : Ev G c σ value (fun a => Ev G c σ slice (fun b => Op2 G c σ (PyProof.Rows.subscriptTail value slice) a b Q))) : Ev G c σ (.Subscript value slice pos) Q := by
  intro m ow al s ok S
  refine PyProof.Rows.Subscript_ (wpAny_mono (h m ow al s ok S) (fun v s1 hp => ?_) bot_elim)
  obtain ⟨h1, t1, rfl, k1, a, ra, q1⟩ := hp
  refine wpAny_mono (q1 m ow al _ ok (S.grow k1)) (fun u s2 hp2 => ?_) bot_elim
  obtain ⟨h2, t2, rfl, k2, b, rb, q2⟩ := hp2
  exact wpAny_mono (q2 m ow al _ ok (S.grow (stays_trans k1 k2)) v u (ra.keeps (vw_mono k2)) rb) (fun v' s3 h3 => Post.mono (stays_trans k1 k2) h3 fun _ q => q) bot_elim
theorem op_item_lst {value slice : Expr} {xs : List PV} {k : Int} {x : PV} {Q : PV → Prop} (h0 : 0 ≤ k) (h1 : k < 2 ^ 60) (hx : xs[k.toNat]? = some x) (h : Q x)
    (hs : ∀ (l : Addr) (u : Tok), subscripted slice false (.ref l) (.int k u) = operate [.ref l, .int k u] (getItem (.ref l) (.int k u)) := by intros; with_unfolding_all rfl) :
    Op2 G c σ (PyProof.Rows.subscriptTail value slice) (.lst xs) (.int k) Q := by
  intro m ow al s ok S v u rv ru
  cases ru
  cases rv with
  | lst hl r =>
    obtain ⟨w, hw, rw⟩ := r.get hx
    have hl' := isList_keeps vw_sub hl
    exact PyProof.Rows.tail_any hl'.typeIs slot_list_getitem.lookup (wpAny_getItem_list hl' h0 (by omega) (by simpa using hw) (post_here rw h)) (hs _ _)
theorem op_item_lst_neg {value slice : Expr} {xs : List PV} {k : Int} {x : PV} {Q : PV → Prop} (h0 : k < 0) (h1 : -(xs.length : Int) ≤ k) (hlen : xs.length < 2 ^ 60) (hx : xs[(k + xs.length).toNat]? = some x) (h : Q x)
    (hs : ∀ (l : Addr) (u : Tok), subscripted slice false (.ref l) (.int k u) = operate [.ref l, .int k u] (getItem (.ref l) (.int k u)) := by intros; with_unfolding_all rfl) :
    Op2 G c σ (PyProof.Rows.subscriptTail value slice) (.lst xs) (.int k) Q := by
  intro m ow al s ok S v u rv ru
  cases ru
  cases rv with
  | lst hl r =>
    obtain ⟨w, hw, rw⟩ := r.get hx
    have hl' := isList_keeps vw_sub hl
    have e := r.length
    exact PyProof.Rows.tail_any hl'.typeIs slot_list_getitem.lookup (wpAny_getItem_list_neg hl' h0 (by rw [List.size_toArray]; omega) (by omega) (by rw [List.size_toArray, e]; simpa using hw) (post_here rw h)) (hs _ _)
theorem op_item_tup {value slice : Expr} {xs : List PV} {k : Int} {j : Nat} {x : PV} {Q : PV → Prop} (h0 : -2 ^ 60 < k) (h1 : k < 2 ^ 60) (hj : seqIndex? k xs.length = some j) (hx : xs[j]? = some x) (h : Q x)
    (hs : ∀ (l : Addr) (u : Tok), subscripted slice false (.ref l) (.int k u) = operate [.ref l, .int k u] (getItem (.ref l) (.int k u)) := by intros; with_unfolding_all rfl) :
    Op2 G c σ (PyProof.Rows.subscriptTail value slice) (.tup xs) (.int k) Q := by
  intro m ow al s ok S v u rv ru
  cases ru
  cases rv with
  | tup hl r =>
    obtain ⟨w, hw, rw⟩ := r.get hx
    exact PyProof.Rows.item_tupleT (isTup_keeps vw_sub hl) (by omega) (by omega) (by rw [r.length]; exact hj) hw (post_here rw h) (hs _ _)

/-! attributes -/
theorem inst_cell {H : Heap} {a d : Addr} {C : Addr} {es : List DictEntry} {sz : Nat} (h1 : H.get? a = some (instObj C d)) (h2 : H.get? d = some (dictOf es sz)) : W.InstAt H a (instObj C d) C (some (dictOf es sz)) := ⟨h1, rfl, rfl, h2⟩

structure OwnAttr (G : Gl) (C : Addr) (name : Str) : Prop where
  a : plainGet G.K C name = true
  b : hasDictIn G.K C = true
  c : findIn G.K (.ref C) name = some none
theorem noGet_none {K : Frag} : noGet K none = true := rfl

theorem ev_Attr {value : Expr} {attr : Str} {pos : Pos} {Q : PV → Prop} (h : Ev G c σ value (fun x => Op1 G c σ (fun v => getAttr v attr true) x Q))
    (he : eval (.Attribute value attr pos) c.env = (do
          let o ← eval value c.env
          standAt (Pos.atName pos)
          let r ← holding [o] (getAttr o attr true)
          letTemporaryGo value o r
          pure r) := by rfl) : Ev G c σ (.Attribute value attr pos) Q :=
  tr_bind1 h fun _ _ _ _ _ _ => fun hh => PyProof.Rows.Attribute_any_ (E := Bot) hh he

theorem at_cell_id {n : Int} {Q : PV → Prop} (A : OwnAttr G G.C "_CellId__id") (h : Q (.int n)) : Op1 G c σ (fun v => getAttr v "_CellId__id" true) (.cell n) Q := by
  intro m ow al s ok S v rv
  cases rv with
  | cell h1 h2 =>
    exact get_own S.F ok.K (inst_cell (vw_sub _ _ h1) (vw_sub _ _ h2)) A.a A.b A.c noGet_none rfl rfl (post_tok (.int _ _) h)

structure ClassAttr (G : Gl) (C : Addr) : Prop where
  a : plainGet G.K C "__class__" = true
  b : hasDictIn G.K C = true
  c : findIn G.K (.ref C) "__class__" = some (some (.builtin "object.__class__"))
  d : specialIn G.K (.builtin "object.__class__") "__get__" = some (some (.builtin "getset_descriptor.__get__"))
  e : takesIn G.K (.builtin "object.__class__") = some true
  f : mroIn G.K C (.type "object") = some true
  g : ((some (Value.builtin "object.__class__")).all fun a => (typeIn G.K a).any fun t => t != .type "function" && t != .type "method_descriptor" && t != .type "wrapper_descriptor") = true
theorem at_class {n : Int} {Q : PV → Prop} (A : ClassAttr G G.C) (h : Q (.raw (.ref G.C))) : Op1 G c σ (fun v => getAttr v "__class__" true) (.cell n) Q := by
  intro m ow al s ok S v rv
  cases rv with
  | cell h1 h2 => exact get_class S.F ok.K (inst_cell (vw_sub _ _ h1) (vw_sub _ _ h2)) A.a A.b A.c A.d A.e A.f (post_tok (.raw _) h)

structure ClsVal (G : Gl) (C : Addr) (name : Str) (v : Value) : Prop where
  a : typeIn G.K (.ref C) = some (.type "type")
  b : readsIn G.K C (.type "type") = true
  c : findCls G.K (.ref C) (.type "type") name = some (.val v)
theorem at_cls_int {C : Addr} {name : Str} {n : Int} {t : Tok} {Q : PV → Prop} (A : ClsVal G C name (.int n t)) (h : Q (.int n)) : Op1 G c σ (fun v => getAttr v name true) (.raw (.ref C)) Q := by
  intro m ow al s ok S v rv
  cases rv
  exact cls_val S.F ok.K A.a A.b A.c rfl (post_tok (.int _ _) h)

/-! calls -/
def RPost (Q : Value → Shared → Prop) (r : Result) (s' : Shared) : Prop := match r with
  | .ok (.ret v) => Q v s'
  | .ok _ => False
  | .error _ => False
/-- a call of the def at f upon these values -/
def Cl (G : Gl) (c : Cx) (σ : Sg) (f : Value) (xs : List PV) (Q : PV → Prop) : Prop :=
  ∀ m ow al s, c.Ok G → St G c σ m ow al s → ∀ vs, RepL G (Vw c (ow ++ al) s.heap) vs xs → codeAny G.M c.A (.call f ⟨vs, []⟩) (RPost (Post G c (ow ++ al) s Q)) s

def CallW (G : Gl) (c : Cx) (σ : Sg) (pos : Pos) (args : List Expr) (x : PV) (Q : PV → Prop) : Prop :=
  Op1 G c σ (fun f => callWith pos f [] (backTo pos (starEach args c.env)) []) x Q

theorem ev_Call {func : Expr} {args : List Expr} {pos : Pos} {Q : PV → Prop} (h : Ev G c σ func (fun x => CallW G c σ pos args x Q))
    (he : eval (.Call func args [] pos) c.env = (do callWith pos (← eval func c.env) [] (backTo pos (starEach args c.env)) (backToKw pos (keywordEach [] c.env))) := by rfl) : Ev G c σ (.Call func args [] pos) Q :=
  tr_bind1 h fun _ _ _ _ _ _ => fun hh => PyProof.Rows.Call_ hh he

theorem wp_of_code {A : Around} {f : Value} {vs : List Value} {s : Shared} {Q : Value → Shared → Prop} (h : codeAny G.M A (.call f ⟨vs, []⟩) (RPost Q) s) : wpAny G.M A (call f vs) Q Bot s :=
  wpAny_call (codeAny_mono h fun r s' hr => by
    cases r with
    | error e => exact hr
    | ok f => cases f <;> exact hr)

theorem cw_def {pos : Pos} {e : Expr} {rest : List Expr} {f : Addr} {Q : PV → Prop} (hk : keepIn G.K (.ref f) = true) (h : EvL G c σ (spliced (backTo pos (starEach (e :: rest) c.env))) (fun xs => Cl G c σ (.ref f) xs Q))
    (he : starEach (e :: rest) c.env = (false, eval e c.env) :: starEach rest c.env := by rfl) (hplain : (backTo pos (starEach rest c.env)).any (·.1) = false := by rfl) : CallW G c σ pos (e :: rest) (.raw (.ref f)) Q := by
  intro m ow al s ok S v rv
  cases rv
  refine callWith_K ok.K hk (wpAny_mono (h m ow al s ok S) (fun vs s1 hp => ?_) bot_elim) he hplain
  obtain ⟨h1, t1, rfl, k1, a, ra, q1⟩ := hp
  refine ⟨(S.grow (tk := t1) k1).inK ok, wpAny_mono (wp_of_code (q1 m ow al _ ok (S.grow k1) vs ra)) (fun v' s3 h3 => Post.mono k1 h3 fun _ q => q) bot_elim⟩
theorem cw_def0 {pos : Pos} {f : Addr} {Q : PV → Prop} (hk : keepIn G.K (.ref f) = true) (h : Cl G c σ (.ref f) [] Q) : CallW G c σ pos [] (.raw (.ref f)) Q := by
  intro m ow al s ok S v rv
  cases rv
  exact callWith_K0 (S.inK ok) hk (wp_of_code (h m ow al s ok S [] .nil))
theorem cw_builtin {pos : Pos} {e : Expr} {rest : List Expr} {id : String} {Q : PV → Prop} (h : EvL G c σ (spliced (backTo pos (starEach (e :: rest) c.env))) (fun xs => OpL G c σ (fun vs => call (.builtin id) vs) xs Q))
    (he : starEach (e :: rest) c.env = (false, eval e c.env) :: starEach rest c.env := by rfl) (hplain : (backTo pos (starEach rest c.env)).any (·.1) = false := by rfl) : CallW G c σ pos (e :: rest) (.raw (.builtin id)) Q := by
  intro m ow al s ok S v rv
  cases rv
  refine PyProof.Rows.callWith_builtin1 (wpAny_mono (h m ow al s ok S) (fun vs s1 hp => ?_) bot_elim) he hplain
  obtain ⟨h1, t1, rfl, k1, a, ra, q1⟩ := hp
  exact wpAny_mono (q1 m ow al _ ok (S.grow k1) vs ra) (fun v' s3 h3 => Post.mono k1 h3 fun _ q => q) bot_elim
theorem cw_type {pos : Pos} {e : Expr} {rest : List Expr} {id : String} {Q : PV → Prop} (h : EvL G c σ (spliced (backTo pos (starEach (e :: rest) c.env))) (fun xs => OpL G c σ (fun vs => call (.type id) vs) xs Q))
    (he : starEach (e :: rest) c.env = (false, eval e c.env) :: starEach rest c.env := by rfl) (hplain : (backTo pos (starEach rest c.env)).any (·.1) = false := by rfl) : CallW G c σ pos (e :: rest) (.raw (.type id)) Q := by
  intro m ow al s ok S v rv
  cases rv
  refine PyProof.Rows.callWith_type1 (wpAny_mono (h m ow al s ok S) (fun vs s1 hp => ?_) bot_elim) he hplain
  obtain ⟨h1, t1, rfl, k1, a, ra, q1⟩ := hp
  exact wpAny_mono (q1 m ow al _ ok (S.grow k1) vs ra) (fun v' s3 h3 => Post.mono k1 h3 fun _ q => q) bot_elim

/-! methods -/
def MthW (G : Gl) (c : Cx) (σ : Sg) (name : Str) (pos : Pos) (args : List Expr) (x : PV) (Q : PV → Prop) : Prop :=
  ∀ m ow al s, c.Ok G → St G c σ m ow al s → ∀ v pl, Rep G (Vw c (ow ++ al) s.heap) v x →
    wpAny G.M c.A (getMethod v name pl) (fun fx s₂ => wpAny G.M c.A (callWith pos fx.1 fx.2 (backTo pos (starEach args c.env)) []) (Post G c (ow ++ al) s Q) Bot s₂) Bot s
theorem ev_Method {o : Expr} {name : Str} {args : List Expr} {apos pos : Pos} {pl : Sem Bool} {Q : PV → Prop} (h : Ev G c σ o (fun x => MthW G c σ name pos args x Q))
    (he : eval (.Call (.Attribute o name apos) args [] pos) c.env = (do
          let ov ← eval o c.env
          standAt (Pos.atName apos)
          let __x ← holding [ov] (getMethod ov name pl)
          match __x with
            | (f, first) => callWith pos f first (backTo pos (starEach args c.env)) []) := by rfl) : Ev G c σ (.Call (.Attribute o name apos) args [] pos) Q := by
  intro m ow al s ok S
  refine PyProof.Rows.MethodCall_ (wpAny_mono (h m ow al s ok S) (fun v s1 hp => ?_) bot_elim) he
  obtain ⟨h1, t1, rfl, k1, x, rx, q1⟩ := hp
  exact wpAny_mono (q1 m ow al _ ok (S.grow k1) v pl rx) (fun fx s2 h2 => wpAny_mono h2 (fun v' s3 h3 => Post.mono k1 h3 fun _ q => q) bot_elim) bot_elim

structure MethOf (G : Gl) (C : Addr) (name : Str) (f : Addr) : Prop where
  a : plainGet G.K C name = true
  b : findIn G.K (.ref C) name = some (some (.ref f))
  c : isFn G.K (.ref f) = true
  d : keepIn G.K (.ref f) = true
  e : (Str.ofString "_CellId__id" == name) = false
theorem getL_one {hs : Int} {tk : Tok} {v : Value} {a name : Str} (h : (a == name) = false) : getL name [⟨hs, .str a tk, v⟩] = some none := by
  have : (Value.str a tk).isStr name = false := by
    simpa [Value.isStr] using h
  simp [getL, this, DictEntry.refKey]
theorem mth_cell {name : Str} {n : Int} {f : Addr} {pos : Pos} {e : Expr} {rest : List Expr} {Q : PV → Prop} (A : MethOf G G.C name f)
    (h : EvL G c σ (spliced (backTo pos (starEach (e :: rest) c.env))) (fun xs => Cl G c σ (.ref f) (.cell n :: xs) Q))
    (he : starEach (e :: rest) c.env = (false, eval e c.env) :: starEach rest c.env := by rfl) (hplain : (backTo pos (starEach rest c.env)).any (·.1) = false := by rfl) : MthW G c σ name pos (e :: rest) (.cell n) Q := by
  intro m ow al s ok S v pl rv
  cases rv with
  | cell h1 h2 =>
    have rv' : Rep G (Vw c (ow ++ al) s.heap) _ _ := .cell h1 h2
    refine method_inst S.F ok.K (inst_cell (vw_sub _ _ h1) (vw_sub _ _ h2)) A.a A.b A.c (getL_one A.e) ?_
    refine callWith_K ok.K A.d (wpAny_mono (h m ow al s ok S) (fun vs s1 hp => ?_) bot_elim) he hplain
    obtain ⟨h1, t1, rfl, k1, a, ra, q1⟩ := hp
    exact ⟨(S.grow (tk := t1) k1).inK ok, wpAny_mono (wp_of_code (q1 m ow al _ ok (S.grow k1) _ (.cons (rv'.keeps (vw_mono k1)) ra))) (fun v' s3 h3 => Post.mono k1 h3 fun _ q => q) bot_elim⟩
theorem mth_cell0 {name : Str} {n : Int} {f : Addr} {pos : Pos} {Q : PV → Prop} (A : MethOf G G.C name f) (h : Cl G c σ (.ref f) [.cell n] Q) : MthW G c σ name pos [] (.cell n) Q := by
  intro m ow al s ok S v pl rv
  cases rv with
  | cell h1 h2 =>
    have rv' : Rep G (Vw c (ow ++ al) s.heap) _ _ := .cell h1 h2
    refine method_inst S.F ok.K (inst_cell (vw_sub _ _ h1) (vw_sub _ _ h2)) A.a A.b A.c (getL_one A.e) ?_
    exact callWith_K0 (S.inK ok) A.d (wp_of_code (h m ow al s ok S _ (.cons rv' .nil)))

/-- a classmethod met through its class -/
structure CmOf (G : Gl) (C : Addr) (name : Str) (p f : Addr) (rest : List Value) : Prop where
  a : typeIn G.K (.ref C) = some (.type "type")
  b : readsIn G.K C (.type "type") = true
  c : findCls G.K (.ref C) (.type "type") name = some (.get (.builtin "classmethod.__get__") (.ref p) .none (.ref C))
  d : recIn G.K p "classmethod" = some (.ref f :: rest)
  e : fnIn G.K f = true
  f : specialIn G.K (.ref C) "__getattribute__" = some (some (.builtin "type.__getattribute__"))
theorem mth_cls {C : Addr} {name : Str} {p f : Addr} {vr : List Value} {pos : Pos} {e : Expr} {rest : List Expr} {Q : PV → Prop} (A : CmOf G C name p f vr)
    (h : EvL G c σ (spliced (backTo pos (starEach (e :: rest) c.env))) (fun xs => Cl G c σ (.ref f) (.raw (.ref C) :: xs) Q))
    (he : starEach (e :: rest) c.env = (false, eval e c.env) :: starEach rest c.env := by rfl) (hplain : (backTo pos (starEach rest c.env)).any (·.1) = false := by rfl) : MthW G c σ name pos (e :: rest) (.raw (.ref C)) Q := by
  intro m ow al s ok S v pl rv
  cases rv
  refine method_of_cls S.F ok.K A.f (cls_bind (ok.K.keeps S.F.keep) A.b A.c (wpAny_call (cm_get (s := { s with toks := s.toks + 1 }) (ok.K.keeps S.F.keep) A.d (handed_on rfl ?_))))
  have hq : ({ s with toks := s.toks + 1, heap := s.heap.push (methodObj (.ref f) (.ref C)) } : Shared).heap.get? s.heap.objs.size = some (methodObj (.ref f) (.ref C)) := Heap.get?_push_size _ rfl
  have k0 : s.heap.StaysIn (s.heap.push (methodObj (.ref f) (.ref C))) := stays_push _ _
  have S0 := S.grow (tk := s.toks + 1) k0
  refine callWith_of (P := MethP G.K s.heap.objs.size f (.ref C)) ?_ (keeps_M A.e) ?_
  · rw [he]; show ((false || (backTo pos (starEach rest c.env)).any (·.1)) || false) = false; rw [hplain]; rfl
  · have hh := h m ow al _ ok S0
    rw [he] at hh ⊢
    refine evalArgs_plain (wpAny_mono hh (fun vs s1 hp => ?_) bot_elim)
    obtain ⟨h1, t1, rfl, k1, a, ra, q1⟩ := hp
    have k01 := stays_trans k0 k1
    have hm : ({ s with heap := h1, toks := t1 } : Shared).heap.get? s.heap.objs.size = some (methodObj (.ref f) (.ref C)) := k1 _ _ hq
    refine ⟨⟨hm, (S.grow (tk := t1) k01).inK ok⟩, wpAny_call (method_call hm (codeAny_mono (q1 m ow al _ ok (S.grow k01) _ (.cons (.raw _) ra)) fun r s' hr => ?_))⟩
    cases r with
    | error e => exact hr
    | ok fl => cases fl <;> first | exact Post.mono k01 hr (fun _ q => q) | exact hr

/-- x.__class__(..) -/
theorem mth_class {n : Int} {pos : Pos} {args : List Expr} {Q : PV → Prop} (A : ClassAttr G G.C) (h : CallW G c σ pos args (.raw (.ref G.C)) Q) : MthW G c σ "__class__" pos args (.cell n) Q := by
  intro m ow al s ok S v pl rv
  cases rv with
  | cell h1 h2 =>
    have I := inst_cell (vw_sub _ _ h1) (vw_sub _ _ h2)
    refine method_usual (S.inK ok) I (plainGet_of A.a).1 (plainGet_of A.a).2 A.c A.g ?_
    refine get_class S.F ok.K I A.a A.b A.c A.d A.e A.f ?_
    exact wpAny_mono (h m ow al _ ok (S.grow (tk := s.toks + 1) (stays_refl _)) _ (.raw _)) (fun v' s3 h3 => Post.mono (stays_refl _) h3 fun _ q => q) bot_elim
end
end Mine
end Part1
section Part2
open PySem PySem.W PySem.Calls
set_option maxRecDepth 100000
set_option autoImplicit false
set_option linter.unusedVariables false
namespace Mine
open PyProof.Rows (Fr News Top IsTup Below envOf envOfC)

inductive Fl where
  | nxt
  | ret (x : PV)
  | brk
  | cont

inductive FlRep (G : Gl) (H : Heap) : Flow → Fl → Prop
  | nxt : FlRep G H .next .nxt
  | brk : FlRep G H .brk .brk
  | cont : FlRep G H .cont .cont
  | ret {v : Value} {x : PV} : Rep G H v x → FlRep G H (.ret v) (.ret x)

def upd (σ : Sg) (y : Str) (x : PV) : Sg := (y, x) :: σ
theorem lookup_upd (σ : Sg) (y : Str) (x : PV) (z : Str) : (upd σ y x).lookup z = if z == y then some x else σ.lookup z := by
  show List.lookup z ((y, x) :: σ) = _
  simp only [List.lookup]
  cases z == y <;> rfl

def ExPost (G : Gl) (c : Cx) (al : Led) (mu : Led) (s : Shared) (Q : Fl → Sg → Prop) (fl : Flow) (s' : Shared) : Prop :=
  ∃ h' tk m' ow' σ' f, s' = { s with heap := h', toks := tk } ∧ (Vw c mu s.heap).StaysIn (Vw c (ow' ++ al) h') ∧ St G c σ' m' ow' al { s with heap := h', toks := tk } ∧ FlRep G (Vw c (ow' ++ al) h') fl f ∧ Q f σ'

def Ex (G : Gl) (c : Cx) (σ : Sg) (ss : List Stmt) (Q : Fl → Sg → Prop) : Prop :=
  ∀ m ow al s, c.Ok G → St G c σ m ow al s → wpAny G.M c.A (execs ss c.env) (ExPost G c al (ow ++ al) s Q) Bot s
def Ex1 (G : Gl) (c : Cx) (σ : Sg) (st : Stmt) (Q : Fl → Sg → Prop) : Prop :=
  ∀ m ow al s, c.Ok G → St G c σ m ow al s → wpAny G.M c.A (exec st c.env) (ExPost G c al (ow ++ al) s Q) Bot s
/-- an assignment of a value to a target -/
def As (G : Gl) (c : Cx) (σ : Sg) (t : Value → Sem Unit) (x : PV) (Q : Sg → Prop) : Prop :=
  ∀ m ow al s, c.Ok G → St G c σ m ow al s → ∀ v, Rep G (Vw c (ow ++ al) s.heap) v x → wpAny G.M c.A (t v) (fun _ s' => ExPost G c al (ow ++ al) s (fun _ σ' => Q σ') .next s') Bot s

section
variable {G : Gl} {c : Cx} {σ : Sg}

theorem ExPost.mono {al mu mu' : Led} {s : Shared} {h1 : Heap} {t1 : Nat} {Q Q' : Fl → Sg → Prop} {fl : Flow} {s' : Shared} (k : (Vw c mu s.heap).StaysIn (Vw c mu' h1)) (h : ExPost G c al mu' { s with heap := h1, toks := t1 } Q fl s')
    (hq : ∀ f σ', Q f σ' → Q' f σ') : ExPost G c al mu s Q' fl s' := by
  obtain ⟨h', tk, m', ow', σ', f, rfl, st, S', r, q⟩ := h
  exact ⟨h', tk, m', ow', σ', f, rfl, stays_trans k st, S', r, hq _ _ q⟩

theorem ex_nil {Q : Fl → Sg → Prop} (h : Q .nxt σ) : Ex G c σ [] Q := fun m ow al s ok S =>
  wpAny_execs_nil ⟨s.heap, s.toks, m, ow, σ, .nxt, rfl, stays_refl _, S, .nxt, h⟩

def seqQ (G : Gl) (c : Cx) (rest : List Stmt) (Q : Fl → Sg → Prop) (f : Fl) (σ' : Sg) : Prop := match f with
  | .nxt => Ex G c σ' rest Q
  | f => Q f σ'
theorem ex_cons {st : Stmt} {rest : List Stmt} {Q : Fl → Sg → Prop} (h : Ex1 G c σ st (seqQ G c rest Q)) : Ex G c σ (st :: rest) Q := by
  intro m ow al s ok S
  refine wpAny_execs_cons (wpAny_mono (h m ow al s ok S) (fun fl s1 hp => ?_) bot_elim)
  obtain ⟨h1, t1, m1, ow1, σ1, f, rfl, k1, S1, r1, q1⟩ := hp
  cases r1 with
  | nxt => exact wpAny_mono (q1 m1 ow1 al _ ok S1) (fun fl' s2 h2 => ExPost.mono k1 h2 fun _ _ q => q) bot_elim
  | brk => exact ⟨h1, t1, m1, ow1, σ1, _, rfl, k1, S1, .brk, q1⟩
  | cont => exact ⟨h1, t1, m1, ow1, σ1, _, rfl, k1, S1, .cont, q1⟩
  | ret r => exact ⟨h1, t1, m1, ow1, σ1, _, rfl, k1, S1, .ret r, q1⟩

theorem ex1_mono {st : Stmt} {Q Q' : Fl → Sg → Prop} (h : Ex1 G c σ st Q) (hq : ∀ f σ', Q f σ' → Q' f σ') : Ex1 G c σ st Q' := fun m ow al s ok S =>
  wpAny_mono (h m ow al s ok S) (fun fl s1 hp => ExPost.mono (stays_refl _) hp hq) bot_elim
theorem ex_mono {ss : List Stmt} {Q Q' : Fl → Sg → Prop} (h : Ex G c σ ss Q) (hq : ∀ f σ', Q f σ' → Q' f σ') : Ex G c σ ss Q' := fun m ow al s ok S =>
  wpAny_mono (h m ow al s ok S) (fun fl s1 hp => ExPost.mono (stays_refl _) hp hq) bot_elim

/-- an expression's end as a statement's -/
theorem exPost_of {m : Str → Option Value} {ow al : Led} {s : Shared} {h1 : Heap} {t1 : Nat} {Q : Fl → Sg → Prop} {fl : Flow} {f : Fl} (S : St G c σ m ow al s) (k : s.heap.StaysIn h1) (r : FlRep G (Vw c (ow ++ al) h1) fl f) (q : Q f σ) :
    ExPost G c al (ow ++ al) s Q fl { s with heap := h1, toks := t1 } := ⟨h1, t1, m, ow, σ, f, rfl, vw_mono k, S.grow k, r, q⟩

theorem ex_return {e : Expr} {pos : Pos} {Q : Fl → Sg → Prop} (h : Ev G c σ e (fun x => Q (.ret x) σ)) : Ex1 G c σ (.Return (some e) pos) Q := by
  intro m ow al s ok S
  refine wpAny_Return_some (wpAny_mono (h m ow al s ok S) (fun v s1 hp => ?_) bot_elim)
  obtain ⟨h1, t1, rfl, k1, x, rx, q1⟩ := hp
  exact exPost_of S k1 (.ret rx) q1
theorem ex_if {test : Expr} {body orelse : List Stmt} {pos : Pos} {Q : Fl → Sg → Prop} (h : EvT G c σ test (fun b => if b then Ex G c σ body Q else Ex G c σ orelse Q)) : Ex1 G c σ (.If test body orelse pos) Q := by
  intro m ow al s ok S
  refine wpAny_If (wpAny_mono (h m ow al s ok S) (fun b s1 hp => ?_) bot_elim)
  obtain ⟨h1, t1, rfl, k1, q1⟩ := hp
  cases b with
  | true => exact wpAny_mono (q1 m ow al _ ok (S.grow k1)) (fun v' s3 h3 => ExPost.mono (vw_mono k1) h3 fun _ _ q => q) bot_elim
  | false => exact wpAny_mono (q1 m ow al _ ok (S.grow k1)) (fun v' s3 h3 => ExPost.mono (vw_mono k1) h3 fun _ _ q => q) bot_elim
theorem ex_assert {test : Expr} {msg : Option Expr} {pos : Pos} {Q : Fl → Sg → Prop} (h : EvT G c σ test (fun b => b = true ∧ Q .nxt σ)) : Ex1 G c σ (.Assert test msg pos) Q := by
  intro m ow al s ok S
  refine wpAny_Assert_holds (wpAny_mono (h m ow al s ok S) (fun b s1 hp => ?_) bot_elim)
  obtain ⟨h1, t1, rfl, k1, q1, q2⟩ := hp
  exact ⟨q1, exPost_of S k1 .nxt q2⟩
theorem ex_pass {pos : Pos} {Q : Fl → Sg → Prop} (h : Q .nxt σ) : Ex1 G c σ (.Pass pos) Q := fun m ow al s ok S =>
  wpAny_Pass (exPost_of (h1 := s.heap) (t1 := s.toks) S (stays_refl _) .nxt h)
theorem ex_break {pos : Pos} {Q : Fl → Sg → Prop} (h : Q .brk σ) : Ex1 G c σ (.Break pos) Q := fun m ow al s ok S =>
  wpAny_Break (exPost_of (h1 := s.heap) (t1 := s.toks) S (stays_refl _) .brk h)

/-! stores -/
theorem rep_store {mu mu' ow ow' : Led} {h h' : Heap} {v : Value} {x : PV} (k : (Vw c mu h).StaysIn (Vw c mu' h')) (ho : ∀ p ∈ ow, p.2.cls = .type "list" → p ∈ ow') (r : RepO G (Vw c mu h) ow v x) : RepO G (Vw c mu' h') ow' v x := by
  cases r with
  | rep r => exact .rep (r.keeps k)
  | mlst a b d r => exact .mlst (ho _ a b) b d (r.keeps k)

theorem vw_same {mu mu' : Led} {h h' : Heap} {a : Addr} (hs : Heap.SameBut a h h') (ha : a ∈ c.hid ++ c.L :: mu.map (·.1)) (hm : mu'.map (·.1) = mu.map (·.1)) : (Vw c mu h).StaysIn (Vw c mu' h') := by
  intro b o e
  rw [mem_vw] at e ⊢
  refine ⟨(hs.2 b fun q => e.2 (q ▸ ha)).trans e.1, ?_⟩
  rw [hm]; exact e.2

theorem store_local {m : Str → Option Value} {ow al : Led} {s : Shared} {y : Str} {v : Value} {x : PV} {Q : Sg → Prop} (hk : c.env.kindOf y = some .local) (hl : c.env.locals = c.L) (ok : c.Ok G) (S : St G c σ m ow al s)
    (r : RepO G (Vw c (ow ++ al) s.heap) ow v x) (q : Q (upd σ y x)) : wpAny G.M c.A (storeName c.env y v) (fun _ s' => ExPost G c al (ow ++ al) s (fun _ σ' => Q σ') .next s') Bot s := by
  refine wpAny_storeName_local hk (hl ▸ S.F.ns) (fun h' hn hs => ?_) (by rw [ok.ek]; rfl)
  rw [hl] at hn hs
  have k := vw_same (c := c) (mu := ow ++ al) (mu' := ow ++ al) hs (List.mem_append_right _ (.head _)) rfl
  refine ⟨h', s.toks + 1, _, ow, upd σ y x, .nxt, rfl, k, ⟨S.F.set hn hs, S.N.set hs, S.nd, ?_⟩, .nxt, q⟩
  intro z pv e
  rw [lookup_upd] at e
  split at e
  · rename_i hz
    obtain rfl := beq_iff_eq.mp hz
    cases e
    exact ⟨v, .loc hk hl (by simp), rep_store k (fun _ h _ => h) r⟩
  · rename_i hz
    obtain ⟨u, hu, ru⟩ := S.vars z pv e
    refine ⟨u, ?_, rep_store k (fun _ h _ => h) ru⟩
    have hne : z ≠ y := fun q => hz (by rw [q]; simp)
    cases hu with
    | loc a b d => exact .loc a b (by simp [hne, d])
    | locC a ho hn' d => exact absurd (hl ▸ (rfl : c.env.locals = c.env.locals)) (by
        have := (S.N _ (List.mem_append_left _ ho)).2.1; rw [hl] at this; exact absurd rfl this)
    | cel a b d e => exact .cel a b d e
    | free a b d e f => exact .free a b d e f

theorem as_name {y : Str} {pos : Pos} {x : PV} {Q : Sg → Prop} (hk : c.env.kindOf y = some .local) (hl : c.env.locals = c.L) (h : Q (upd σ y x)) : As G c σ (assign (.Name y pos) c.env) x Q := by
  intro m ow al s ok S v r
  refine wpAny_assign_Name ?_
  exact store_local hk hl ok S (.rep r) h

theorem ex_assign {y : Str} {p : Pos} {e : Expr} {pos : Pos} {Q : Fl → Sg → Prop} (h : Ev G c σ e (fun x => Q .nxt (upd σ y x))) (hk : c.env.kindOf y = some .local) (hl : c.env.locals = c.L)
    (hs : swapsWith e (some (.Name y p)) pos.line c.env = pure false := by rfl) : Ex1 G c σ (.Assign [.Name y p] e pos) Q := by
  intro m ow al s ok S
  refine wpAny_Assign_Name (wpAny_mono (h m ow al s ok S) (fun v s1 hp => ?_) bot_elim) hs
  obtain ⟨h1, t1, rfl, k1, x, rx, q1⟩ := hp
  refine wpAny_mono (store_local (Q := fun σ' => Q .nxt σ') hk hl ok (S.grow k1) (.rep rx) q1) (fun _ s2 h2 => ?_) bot_elim
  obtain ⟨h', tk, m', ow', σ', f, rfl, st, S', r, q⟩ := h2
  exact ⟨h', tk, m', ow', σ', .nxt, rfl, stays_trans (vw_mono k1) st, S', .nxt, q⟩

theorem ex_aug {y : Str} {p : Pos} {op : Operator} {e : Expr} {pos : Pos} {old : PV} {Q : Fl → Sg → Prop} (hx : σ.lookup y = some old) (hp : old.plain = true) (h : Ev G c σ e (fun b => Op2 G c σ (inplaceOp op) old b (fun x => Q .nxt (upd σ y x))))
    (hk : c.env.kindOf y = some .local) (hl : c.env.locals = c.L) : Ex1 G c σ (.AugAssign (.Name y p) op e pos) Q := by
  intro m ow al s ok S
  obtain ⟨v, hv, r⟩ := S.vars y old hx
  refine wpAny_AugAssign_Name (load_var ok S hv ?_)
  refine wpAny_mono (h m ow al s ok S) (fun u s1 hp1 => ?_) bot_elim
  obtain ⟨h1, t1, rfl, k1, b, rb, q1⟩ := hp1
  refine wpAny_mono (q1 m ow al _ ok (S.grow k1) v u ((r.plain hp).keeps (vw_mono k1)) rb) (fun w s2 hp2 => ?_) bot_elim
  obtain ⟨h2, t2, rfl, k2, x, rx, q2⟩ := hp2
  have k12 := stays_trans k1 k2
  refine wpAny_mono (store_local (Q := fun σ' => Q .nxt σ') hk hl ok (S.grow k12) (.rep rx) q2) (fun _ s2 h2 => ?_) bot_elim
  obtain ⟨h', tk, m', ow', σ', f, rfl, st, S', r, q⟩ := h2
  exact ⟨h', tk, m', ow', σ', .nxt, rfl, stays_trans (vw_mono k12) st, S', .nxt, q⟩

/-! several targets -/
def AsAll (G : Gl) (c : Cx) (ts : List (Value → Sem Unit)) (xs : List PV) (Q : Sg → Prop) : Sg → Prop := fun σ => match ts, xs with
  | [], [] => Q σ
  | t :: ts, x :: xs => As G c σ t x (AsAll G c ts xs Q)
  | _, _ => False
theorem as_all {Q : Sg → Prop} : ∀ {ts : List (Value → Sem Unit)} {xs : List PV} {σ : Sg}, AsAll G c ts xs Q σ → ∀ m ow al s, c.Ok G → St G c σ m ow al s → ∀ vs, RepL G (Vw c (ow ++ al) s.heap) vs xs →
    wpAny G.M c.A (assignInOrder ts vs) (fun _ s' => ExPost G c al (ow ++ al) s (fun _ σ' => Q σ') .next s') Bot s
  | [], [], σ, h, m, ow, al, s, ok, S, vs, r => by
    cases r
    exact wpAny_pure ⟨s.heap, s.toks, m, ow, σ, .nxt, rfl, stays_refl _, S, .nxt, h⟩
  | t :: ts, x :: xs, σ, h, m, ow, al, s, ok, S, vs, r => by
    cases r with
    | cons rv r =>
      rename_i v vs
      show wpAny G.M c.A (assignInOrder (t :: ts) (v :: vs)) _ Bot s
      unfold assignInOrder
      refine wpAny_bind ?_
      have ha := h m ow al s ok S v rv
      refine wpAny_mono (wpAny_holding ha) (fun _ s1 hp => ?_) bot_elim
      obtain ⟨h1, t1, m1, ow1, σ1, f, rfl, k1, S1, r1, q1⟩ := hp
      refine wpAny_mono (as_all q1 m1 ow1 al _ ok S1 vs (r.keeps k1)) (fun _ s2 h2 => ExPost.mono k1 h2 fun _ _ q => q) bot_elim
  | [], _ :: _, σ, h, _, _, _, _, _, _, _, _ => h.elim
  | _ :: _, [], σ, h, _, _, _, _, _, _, _, _ => h.elim

theorem as_tuple {elts : List Expr} {k : Nat} {pos : Pos} {xs : List PV} {Q : Sg → Prop} (h : AsAll G c ((assignEach elts c.env).map (·.2)) xs Q σ) (hn : (assignEach elts c.env).length = xs.length) (hstar : (assignEach elts c.env).findIdx? (·.1) = none) :
    As G c σ (assign (.Tuple elts k pos) c.env) (.tup xs) Q := by
  intro m ow al s ok S v r
  cases r with
  | tup ht r =>
    rename_i vs
    have e := r.length
    refine wpAny_assign_Tuple ok.hh (isTup_keeps vw_sub ht) (by rw [hn, List.size_toArray, e]) hstar fun h' he => ?_
    have k := stays_ext he
    have := as_all h m ow al { s with heap := h' } ok (S.grow (tk := s.toks) k) vs (r.keeps (vw_mono k))
    exact wpAny_mono this (fun _ s2 h2 => ExPost.mono (t1 := s.toks) (vw_mono k) h2 fun _ _ q => q) bot_elim

theorem ex_assign_tuple {elts : List Expr} {k : Nat} {tpos : Pos} {e : Expr} {pos : Pos} {Q : Fl → Sg → Prop} (h : Ev G c σ e (fun x => As G c σ (assign (.Tuple elts k tpos) c.env) x (fun σ' => Q .nxt σ')))
    (hs : swapsWithSole [.Tuple elts k tpos] e pos.line c.env = pure false := by rfl) (hw : swappedStores [.Tuple elts k tpos] e c.env = pure none := by rfl) : Ex1 G c σ (.Assign [.Tuple elts k tpos] e pos) Q := by
  intro m ow al s ok S
  refine PyProof.Rows.Assign_Tuple (wpAny_mono (h m ow al s ok S) (fun v s1 hp => ?_) bot_elim) hs hw
  obtain ⟨h1, t1, rfl, k1, x, rx, q1⟩ := hp
  refine wpAny_mono (q1 m ow al _ ok (S.grow k1) v rx) (fun _ s2 h2 => ?_) bot_elim
  obtain ⟨h', tk, m', ow', σ', f, rfl, st, S', r, q⟩ := h2
  exact ⟨h', tk, m', ow', σ', .nxt, rfl, stays_trans (vw_mono k1) st, S', .nxt, q⟩

/-! a call of a def -/
def bodyQ (Q : PV → Prop) : Fl → Sg → Prop := fun f _ => match f with
  | .ret x => Q x
  | .nxt => Q .none
  | _ => False

theorem zip_lookup {H : Heap} : ∀ {ns : List Str} {vs : List Value} {xs : List PV}, RepL G H vs xs → ∀ (x : Str) (pv : PV), (ns.zip xs).lookup x = some pv → ∃ v, (ns.zip vs).lookup x = some v ∧ Rep G H v pv
  | [], _, _, _, x, pv, e => by simp at e
  | n :: ns, _, _, .nil, x, pv, e => by simp at e
  | n :: ns, _, _, .cons r rs, x, pv, e => by
    simp only [List.zip_cons_cons, List.lookup] at e ⊢
    split at e
    · cases e; exact ⟨_, rfl, r⟩
    · exact zip_lookup rs x pv e

theorem mem_lookup {α : Type} {x : Str} {v : α} : ∀ {l : List (Str × α)}, l.lookup x = some v → (x, v) ∈ l
  | [], h => by simp at h
  | (n, w) :: r, h => by
    simp only [List.lookup] at h
    split at h
    · rename_i e
      cases h; rw [beq_iff_eq.mp e]; exact .head _
    · exact .tail _ (mem_lookup h)
theorem zip_names {α : Type} : ∀ (ns : List Str) (vs : List α), ((ns.zip vs).map (·.1)).Sublist ns
  | [], _ => by simp
  | n :: ns, [] => by simp
  | n :: ns, v :: vs => by simpa using zip_names ns vs

theorem lookup_reverse_of_nodup {α : Type} {x : Str} : ∀ {l : List (Str × α)}, (l.map (·.1)).Nodup → l.reverse.lookup x = l.lookup x
  | [], _ => rfl
  | p :: r, h => by
    obtain ⟨n, v⟩ := p
    simp only [List.map_cons, List.nodup_cons] at h
    rw [List.reverse_cons, List.lookup_append, lookup_reverse_of_nodup h.2]
    by_cases hx : x = n
    · subst hx
      have : r.lookup x = none := by
        cases q : r.lookup x with
        | none => rfl
        | some w =>
          have : (x, w) ∈ r := mem_lookup q
          exact absurd (List.mem_map_of_mem this) h.1
      rw [this]; simp [List.lookup]
    · simp only [List.lookup, beq_eq_false_iff_ne.mpr hx]
      cases r.lookup x <;> simp

theorem cl_def {name qual : Str} {params : Arguments} {body : List Stmt} {scope : Scope} {dV kV doc pm cdv ct oc : Value} {an od : Option Addr} {osl : Array (Option Value)} {f : Addr} {xs : List PV} {k : Nat} {ns : List Str} {Q : PV → Prop}
    (ho : G.K.lookup f = some ⟨oc, od, .func (fnOf name qual params body scope dV kV doc pm an cdv ct), osl⟩) (hcd : codeIn G.K cdv qual = true) (hroom : c.Room (k + 1))
    (hbind : ∀ vs s, vs.length = xs.length → BindsTo s (fnOf name qual params body scope dV kV doc pm an cdv ct) ⟨vs, []⟩ (ns.zip vs))
    (hloc : (ns.all fun x => decide (scope.names.lookup x = some .local)) = true) (hnd : ns.Nodup) (hcell : (scope.names.all fun x => x.2 != .cell) = true)
    (h : ∀ A g0 L hid, (Cx.mk A (envOf qual scope L f cdv) g0 L hid).Room k → Ex G (Cx.mk A (envOf qual scope L f cdv) g0 L hid) (ns.zip xs) body (bodyQ Q))
    (hco : scope.isCoroutine = false := by rfl) (hgen : scope.isGenerator = false := by rfl) (hk : scope.kind = .function := by rfl) : Cl G c σ (.ref f) xs Q := by
  intro m ow al s ok S vs r
  have X := S.inK ok
  have hlen := r.length
  refine codeAny_call_def (fd := fnOf name qual params body scope dV kV doc pm an cdv ct) (body := body) (binds := ns.zip vs) (by have := hroom.1; omega) (X _ _ ho) rfl (ok.T.nolimit.keeps S.F.keep) (codeRec_of X hcd) rfl (hbind vs s hlen)
    (fun x hx => by have := List.all_eq_true.mp hcell x hx; simpa using this)
    (fun x hx => by
      have h1 : x.1 ∈ ns := (List.of_mem_zip hx).1
      simpa using List.all_eq_true.mp hloc _ h1) (fun h₁ hns hk₁ => ?_) hco hgen hk
  let c' : Cx := ⟨c.A.deeper (envOf qual scope s.heap.objs.size f cdv), envOf qual scope s.heap.objs.size f cdv, s.heap, s.heap.objs.size, c.hid ++ c.L :: (ow ++ al).map (·.1)⟩
  have hhid : ∀ a ∈ c'.hid, ∃ o, s.heap.get? a = some o := S.hsome ok
  have ok' : c'.Ok G := ⟨ok.hh, X, ok.T.keeps S.F.keep, hk, rfl, rfl, hhid, S.hidden ok⟩
  have F' : Fr c'.g0 c'.L h₁ (fun y => (ns.zip vs).reverse.lookup y) := ⟨hns, hk₁, Nat.le_refl _⟩
  have hview : (Vw c (ow ++ al) s.heap).StaysIn (Vw c' ([] ++ []) h₁) := fun b o e => by
    rw [mem_vw] at e ⊢
    refine ⟨hk₁ _ _ e.1, fun hm => ?_⟩
    rcases List.mem_append.mp hm with q | q
    · exact e.2 q
    · simp only [List.append_nil, List.map_nil, List.mem_singleton] at q
      exact absurd (Heap.lt_size e.1) (by rw [q]; exact Nat.lt_irrefl _)
  have hnd' : ((ns.zip vs).map (·.1)).Nodup := hnd.sublist (zip_names ns vs)
  have S' : St G c' (ns.zip xs) (fun y => (ns.zip vs).reverse.lookup y) [] [] { s with heap := h₁, toks := s.toks + (ns.zip vs).length } := by
    refine ⟨F', PyProof.Rows.News.nil, List.nodup_nil, fun x pv e => ?_⟩
    obtain ⟨v, hv, rv⟩ := zip_lookup r x pv e
    refine ⟨v, .loc ?_ rfl ((lookup_reverse_of_nodup hnd').trans hv), .rep (rv.keeps hview)⟩
    have h1 : x ∈ ns := (List.of_mem_zip (mem_lookup hv)).1
    have h2 : scope.names.lookup x = some .local := by simpa using List.all_eq_true.mp hloc _ h1
    exact h2
  have room' : c'.Room k := ⟨by have := hroom.1; show c.A.depth + 1 + k < _; omega, by have := hroom.2; show c.A.units + 3 + 8 * k < _; omega⟩
  refine wpAny_mono (h _ _ _ _ room' _ [] [] _ ok' S') (fun fl s1 hp => ?_) bot_elim
  obtain ⟨h1, t1, m1, ow1, σ1, fq, rfl, k1, S1, r1, q1⟩ := hp
  have kk : s.heap.StaysIn h1 := S1.F.keep
  have vv : (Vw c' (ow1 ++ []) h1).StaysIn (Vw c (ow ++ al) h1) := fun b o e => by
    rw [mem_vw] at e ⊢
    exact ⟨e.1, fun hm => e.2 (List.mem_append_left _ hm)⟩
  cases r1 with
  | nxt => exact ⟨h1, t1, rfl, kk, _, .none, q1⟩
  | brk => exact q1.elim
  | cont => exact q1.elim
  | ret r => exact ⟨h1, t1, rfl, kk, _, r.keeps vv, q1⟩
end
end Mine
end Part2
section Part3
open PySem PySem.W PySem.Calls
set_option maxRecDepth 100000
set_option autoImplicit false
set_option linter.unusedVariables false
namespace Mine
open PyProof.Rows (Fr News Top IsTup Below envOf envOfC)

/-! plain data -/
mutual
def PV.data? : PV → Option PyData
  | .int n => some (.int n)
  | .bool b => some (.bool b)
  | .none => some .none
  | .tup xs => (PV.datas? xs).map .tuple
  | .lst xs => (PV.datas? xs).map .list
  | _ => Option.none
def PV.datas? : List PV → Option (List PyData)
  | [] => some []
  | x :: r => match PV.data? x, PV.datas? r with
    | some d, some ds => some (d :: ds)
    | _, _ => Option.none
end

section
variable {G : Gl} {H : Heap}
mutual
theorem Rep.reads {v : Value} {x : PV} : Rep G H v x → ∀ {d : PyData}, x.data? = some d → ∃ as, Reads H v d as
  | .int n t, d, e => by simp only [PV.data?, Option.some.injEq] at e; subst e; exact ⟨_, .int n t⟩
  | .bool b, d, e => by simp only [PV.data?, Option.some.injEq] at e; subst e; exact ⟨_, .bool b⟩
  | .none, d, e => by simp only [PV.data?, Option.some.injEq] at e; subst e; exact ⟨_, .none⟩
  | .raw _, d, e => by simp [PV.data?] at e
  | .tup ⟨o, h1, h2, n, h3⟩ r, d, e => by
    simp only [PV.data?, Option.map_eq_some_iff] at e
    obtain ⟨ds, e1, rfl⟩ := e
    obtain ⟨as, ra⟩ := RepL.readsAll r e1
    exact ⟨_, .tuple h1 h2 h3 ra⟩
  | .lst ⟨o, h1, h2, n, h3⟩ r, d, e => by
    simp only [PV.data?, Option.map_eq_some_iff] at e
    obtain ⟨ds, e1, rfl⟩ := e
    obtain ⟨as, ra⟩ := RepL.readsAll r e1
    exact ⟨_, .list h1 h2 h3 ra⟩
  | .rng _, d, e => by simp [PV.data?] at e
  | .cell _ _, d, e => by simp [PV.data?] at e
  | .point _ _ _, d, e => by simp [PV.data?] at e
theorem RepL.readsAll {vs : List Value} {xs : List PV} : RepL G H vs xs → ∀ {ds : List PyData}, PV.datas? xs = some ds → ∃ as, ReadsAll H vs ds as
  | .nil, ds, e => by simp only [PV.datas?, Option.some.injEq] at e; subst e; exact ⟨_, .nil⟩
  | .cons (x := x) (xs := xs) h r, ds, e => by
    simp only [PV.datas?] at e
    split at e
    · rename_i d ds' e1 e2
      cases e
      obtain ⟨as, ra⟩ := Rep.reads h e1
      obtain ⟨bs, rb⟩ := RepL.readsAll r e2
      exact ⟨_, .cons ra rb⟩
    · cases e
end
end

section
variable {G : Gl} {c : Cx} {σ : Sg}

theorem reads_keeps {H H' : Heap} (k : H.StaysIn H') {v : Value} {d : PyData} {as : List Addr} (r : Reads H v d as) : Reads H' v d as := PyProof.Rows.Reads.keeps k r

theorem op_eq_data {x y : PV} {dx dy : PyData} {Q : PV → Prop} (hr : c.Room 20) (ex : x.data? = some dx) (ey : y.data? = some dy) (sx : SeqAt.shaped dx = true) (sy : SeqAt.shaped dy = true) (h : Q (.bool (dx.eqv dy))) : Op2 G c σ (compareOp .Eq) x y Q := by
  intro m ow al s ok S v u rv ru
  obtain ⟨as, r1⟩ := rv.reads ex
  obtain ⟨bs, r2⟩ := ru.reads ey
  exact PyProof.Rows.eq_dataH (reads_keeps vw_sub r1) (reads_keeps vw_sub r2) sx sy (by have := hr.2; omega) (post_here (.bool _) h)
theorem op_ne_data {x y : PV} {dx dy : PyData} {Q : PV → Prop} (hr : c.Room 20) (ex : x.data? = some dx) (ey : y.data? = some dy) (sx : SeqAt.shaped dx = true) (sy : SeqAt.shaped dy = true) (h : Q (.bool (!dx.eqv dy))) : Op2 G c σ (compareOp .NotEq) x y Q := by
  intro m ow al s ok S v u rv ru
  obtain ⟨as, r1⟩ := rv.reads ex
  obtain ⟨bs, r2⟩ := ru.reads ey
  exact PyProof.Rows.ne_dataH (reads_keeps vw_sub r1) (reads_keeps vw_sub r2) sx sy (by have := hr.2; omega) (post_here (.bool _) h)

/-! comparison of cells by their own defs -/
structure CmpAt (G : Gl) (C : Addr) (op : CmpOp) (f : Addr) : Prop where
  a : notFirst G.K C (.ref C) = true
  b : findIn G.K (.ref C) (cmpInfo op).2.1 = some (some (.ref f))
  c : isFn G.K (.ref f) = true
def resBool (x : PV) : Prop := ∃ b, x = .bool b
theorem rich_cell {op : CmpOp} {a b : Int} {f : Addr} {Q : PV → Prop} (hr : c.Room 1) (A : CmpAt G G.C op f) (h : Cl G c σ (.ref f) [.cell a, .cell b] (fun x => resBool x ∧ Q x)) : Op2 G c σ (fun v u => richCompare op v u) (.cell a) (.cell b) Q := by
  intro m ow al s ok S v u rv ru
  cases rv with
  | cell h1 h2 =>
    cases ru with
    | cell h3 h4 =>
      refine cmp_K (by have := hr.2; omega) S.F ok.K (inst_cell (vw_sub _ _ h1) (vw_sub _ _ h2)) ((inst_cell (vw_sub _ _ h3) (vw_sub _ _ h4)).type) A.a A.b A.c ?_
      refine wpAny_mono (wp_of_code (h m ow al s ok S _ (.cons (.cell h1 h2) (.cons (.cell h3 h4) .nil)))) (fun w s1 hp => ?_) bot_elim
      obtain ⟨h1, t1, rfl, k1, x, rx, ⟨b, rfl⟩, q1⟩ := hp
      cases rx
      exact ⟨h1, t1, rfl, k1, _, .bool b, q1⟩
theorem op_eq_cell {a b : Int} {f : Addr} {Q : PV → Prop} (hr : c.Room 1) (A : CmpAt G G.C .Eq f) (h : Cl G c σ (.ref f) [.cell a, .cell b] (fun x => resBool x ∧ Q x)) : Op2 G c σ (compareOp .Eq) (.cell a) (.cell b) Q := rich_cell hr A h
theorem op_ne_cell {a b : Int} {f : Addr} {Q : PV → Prop} (hr : c.Room 1) (A : CmpAt G G.C .NotEq f) (h : Cl G c σ (.ref f) [.cell a, .cell b] (fun x => resBool x ∧ Q x)) : Op2 G c σ (compareOp .NotEq) (.cell a) (.cell b) Q := rich_cell hr A h
theorem op_lt_cell {a b : Int} {f : Addr} {Q : PV → Prop} (hr : c.Room 1) (A : CmpAt G G.C .Lt f) (h : Cl G c σ (.ref f) [.cell a, .cell b] (fun x => resBool x ∧ Q x)) : Op2 G c σ (compareOp .Lt) (.cell a) (.cell b) Q := rich_cell hr A h

/-! built-ins -/
theorem b_len_lst {xs : List PV} {Q : PV → Prop} (hl : xs.length < 2 ^ 60) (h : Q (.int xs.length)) : OpL G c σ (fun vs => call (.builtin "len") vs) [.lst xs] Q := by
  intro m ow al s ok S vs r
  cases r with
  | cons r0 r1 =>
    cases r1
    cases r0 with
    | lst hl' r =>
      have e := r.length
      refine PyProof.Rows.len_list (isList_keeps vw_sub hl') (by rw [List.size_toArray]; omega) ?_
      rw [List.size_toArray, e]
      exact post_tok (.int _ _) h
theorem b_len_tup {xs : List PV} {Q : PV → Prop} (hl : xs.length < 2 ^ 60) (h : Q (.int xs.length)) : OpL G c σ (fun vs => call (.builtin "len") vs) [.tup xs] Q := by
  intro m ow al s ok S vs r
  cases r with
  | cons r0 r1 =>
    cases r1
    cases r0 with
    | tup hl' r =>
      have e := r.length
      refine PyProof.Rows.len_tuple (isTup_keeps vw_sub hl') (by rw [List.size_toArray]; omega) ?_
      rw [List.size_toArray, e]
      exact post_tok (.int _ _) h
theorem b_max {a b : Int} {Q : PV → Prop} (h : Q (.int (max a b))) : OpL G c σ (fun vs => call (.builtin "max") vs) [.int a, .int b] Q := by
  intro m ow al s ok S vs r
  cases r with
  | cons r0 r1 =>
    cases r1 with
    | cons r1 r2 =>
      cases r2; cases r0; cases r1
      refine max_two_ints ok.hh fun h' tk k => ?_
      by_cases q : b > a
      · have e : max a b = b := by omega
        rw [e] at h
        simp only [q, if_true]
        exact ⟨h', tk, rfl, k, _, .int _ _, h⟩
      · have e : max a b = a := by omega
        rw [e] at h
        simp only [q, if_false]
        exact ⟨h', tk, rfl, k, _, .int _ _, h⟩
theorem b_min {a b : Int} {Q : PV → Prop} (h : Q (.int (min a b))) : OpL G c σ (fun vs => call (.builtin "min") vs) [.int a, .int b] Q := by
  intro m ow al s ok S vs r
  cases r with
  | cons r0 r1 =>
    cases r1 with
    | cons r1 r2 =>
      cases r2; cases r0; cases r1
      refine min_two_ints ok.hh fun h' tk k => ?_
      by_cases q : b < a
      · have e : min a b = b := by omega
        rw [e] at h
        simp only [q, if_true]
        exact ⟨h', tk, rfl, k, _, .int _ _, h⟩
      · have e : min a b = a := by omega
        rw [e] at h
        simp only [q, if_false]
        exact ⟨h', tk, rfl, k, _, .int _ _, h⟩
theorem b_abs {a : Int} {Q : PV → Prop} (h : Q (.int a.natAbs)) : OpL G c σ (fun vs => call (.builtin "abs") vs) [.int a] Q := by
  intro m ow al s ok S vs r
  cases r with
  | cons r0 r1 =>
    cases r1; cases r0
    refine PyProof.Rows.call_abs_int fun u tk => ?_
    have : (if a < 0 then -a else a) = (a.natAbs : Int) := by split <;> omega
    rw [this]
    exact post_tok (.int _ _) h
theorem b_range1 {n : Int} {Q : PV → Prop} (h : Q (.rng 0 n 1)) : OpL G c σ (fun vs => call (.type "range") vs) [.int n] Q := by
  intro m ow al s ok S vs r
  cases r with
  | cons r0 r1 =>
    cases r1; cases r0
    exact call_range_1 ⟨_, _, rfl, stays_push _ _, _, .rng (t := s.toks) (v := s.toks + 1) (S.vis ok (Nat.le_refl _) (Heap.get?_push_size _ rfl)), h⟩
theorem b_range2 {a n : Int} {Q : PV → Prop} (h : Q (.rng a n 1)) : OpL G c σ (fun vs => call (.type "range") vs) [.int a, .int n] Q := by
  intro m ow al s ok S vs r
  cases r with
  | cons r0 r1 =>
    cases r1 with
    | cons r1 r2 =>
      cases r2; cases r0; cases r1
      exact call_range_2 ⟨_, _, rfl, stays_push _ _, _, .rng (S.vis ok (Nat.le_refl _) (Heap.get?_push_size _ rfl)), h⟩
theorem b_range3 {a n st : Int} {Q : PV → Prop} (hs : st ≠ 0) (hl : st.natAbs.log2 < 9000) (h : Q (.rng a n st)) : OpL G c σ (fun vs => call (.type "range") vs) [.int a, .int n, .int st] Q := by
  intro m ow al s ok S vs r
  cases r with
  | cons r0 r1 =>
    cases r1 with
    | cons r1 r2 =>
      cases r2 with
      | cons r2 r3 =>
        cases r3; cases r0; cases r1; cases r2
        exact call_range_3 hs ⟨_, _, rfl, stays_push _ _, _, .rng (S.vis ok (Nat.le_refl _) (Heap.get?_push_size _ rfl)), h⟩ (.inl (PyProof.noPylong_of_log2 hl))
theorem b_isi_int_int {n : Int} {Q : PV → Prop} (h : Q (.bool true)) : OpL G c σ (fun vs => call (.builtin "isinstance") vs) [.int n, .raw (.type "int")] Q := by
  intro m ow al s ok S vs r
  cases r with
  | cons r0 r1 =>
    cases r1 with
    | cons r1 r2 =>
      cases r2; cases r0; cases r1
      exact IsiPair.int_int (post_here (.bool _) h)
theorem b_isi_int_bool {n : Int} {Q : PV → Prop} (h : Q (.bool false)) : OpL G c σ (fun vs => call (.builtin "isinstance") vs) [.int n, .raw (.type "bool")] Q := by
  intro m ow al s ok S vs r
  cases r with
  | cons r0 r1 =>
    cases r1 with
    | cons r1 r2 =>
      cases r2; cases r0; cases r1
      exact IsiPair.int_bool (post_tok (.bool _) h)
theorem b_isi_cell {n : Int} {Q : PV → Prop} (hi : isIn G.K (.ref G.C) G.C = true) (h : Q (.bool true)) : OpL G c σ (fun vs => call (.builtin "isinstance") vs) [.cell n, .raw (.ref G.C)] Q := by
  intro m ow al s ok S vs r
  cases r with
  | cons r0 r1 =>
    cases r1 with
    | cons r1 r2 =>
      cases r2; cases r1
      cases r0 with
      | cell h1 h2 =>
        exact isi_call (S.inK ok) (fun M => (inst_cell (vw_sub _ _ h1) (vw_sub _ _ h2)).type) hi (by intro e; cases e) (post_here (.bool _) h)

/-! inplace -/
theorem iop_add {a b : Int} {Q : PV → Prop} (h : Q (.int (a + b))) : Op2 G c σ (inplaceOp .Add) (.int a) (.int b) Q := by
  intro m ow al s ok S v u rv ru
  cases rv; cases ru
  exact PyProof.Rows.iadd_int (post_tok (.int _ _) h)
theorem iop_sub {a b : Int} {Q : PV → Prop} (h : Q (.int (a - b))) : Op2 G c σ (inplaceOp .Sub) (.int a) (.int b) Q := by
  intro m ow al s ok S v u rv ru
  cases rv; cases ru
  exact PyProof.Rows.isub_int (post_tok (.int _ _) h)
theorem iop_and {a b : Int} {Q : PV → Prop} (h : Q (.int (Builtin.bitAnd a b))) : Op2 G c σ (inplaceOp .BitAnd) (.int a) (.int b) Q := by
  intro m ow al s ok S v u rv ru
  cases rv; cases ru
  exact PyProof.Rows.iand_int (post_tok (.int _ _) h)
theorem iop_or {a b : Int} {Q : PV → Prop} (h : Q (.int (Builtin.bitOr a b))) : Op2 G c σ (inplaceOp .BitOr) (.int a) (.int b) Q := by
  intro m ow al s ok S v u rv ru
  cases rv; cases ru
  exact PyProof.Rows.ior_int (post_tok (.int _ _) h)
theorem iop_xor {a b : Int} {Q : PV → Prop} (h : Q (.int (Builtin.bitXor a b))) : Op2 G c σ (inplaceOp .BitXor) (.int a) (.int b) Q := by
  intro m ow al s ok S v u rv ru
  cases rv; cases ru
  exact PyProof.Rows.ixor_int (post_tok (.int _ _) h)
theorem iop_mod {a b : Int} {Q : PV → Prop} (hb : b ≠ 0) (h : Q (.int (a.fmod b))) : Op2 G c σ (inplaceOp .Mod) (.int a) (.int b) Q := by
  intro m ow al s ok S v u rv ru
  cases rv; cases ru
  exact PyProof.Rows.imod_int hb (post_tok (.int _ _) h)

/-! a call with *args -/
theorem wp_alloc_pure {α : Type} {A : Around} {E : Value → Shared → Prop} {Q : α → Shared → Prop} {s : Shared} {o : Obj} {r : Addr → α} (q : Q (r s.heap.objs.size) { s with heap := s.heap.push o }) :
    ∀ (t : Sem α) (g : Addr → Option α), peek1 [] ⟨G.prog, G.w.params⟩ t = some (o, g) → (∀ D, g D = some (r D)) → wpAny G.M A t Q E s := by
  intro t
  induction t with
  | rule _ k ih => intro g e hg Γ p hΓ; exact ih () g e hg Γ p hΓ
  | point _ k ih => intro g e hg Γ p hΓ; exact ih () g e hg Γ p hΓ
  | ask k ih => intro g e hg Γ p hΓ; exact ih _ g e hg Γ p hΓ
  | load a _ k ih =>
    intro g e hg Γ p hΓ
    simp only [peek1] at e
    split at e
    · rename_i h; cases h
    · cases e
  | alloc ob k _ =>
    intro g e hg
    have e : some (ob, fun D => peek [] ⟨G.prog, G.w.params⟩ (k D)) = some (o, g) := e
    obtain ⟨e1, e2⟩ := Prod.mk.inj (Option.some.inj e)
    subst e1
    subst e2
    show wpAny G.M A (alloc ob >>= k) Q E s
    refine wpAny_bind (wpAny_alloc ?_)
    exact (Looks.of_peek (M := G.M) (K := []) (h := s.heap.push ob) (fun a o e => by cases e) (hg s.heap.objs.size)).here (s := { s with heap := s.heap.push ob }) q
  | _ => intro g e; cases e

/-- the frame that a def's body is run in -/
theorem frame_of {qual : Str} {scope : Scope} {cdv : Value} {f : Addr} {m : Str → Option Value} {ow al : Led} {s : Shared} {h₁ : Heap} {tk k : Nat} {binds : List (Str × Value)} {σ' : Sg} (ok : c.Ok G) (S : St G c σ m ow al s) (hroom : c.Room (k + 1))
    (hk : scope.kind = .function) (hns : h₁.Ns s.heap.objs.size (fun y => binds.reverse.lookup y)) (hk₁ : ∀ b o, s.heap.get? b = some o → h₁.get? b = some o)
    (hloc : ∀ x ∈ binds, scope.names.lookup x.1 = some .local) (hb : ∀ x pv, σ'.lookup x = some pv → ∃ v, binds.reverse.lookup x = some v ∧ Rep G (Vw c (ow ++ al) s.heap) v pv) :
    ∃ hid, (Cx.mk (c.A.deeper (envOf qual scope s.heap.objs.size f cdv)) (envOf qual scope s.heap.objs.size f cdv) s.heap s.heap.objs.size hid).Room k ∧
      (Cx.mk (c.A.deeper (envOf qual scope s.heap.objs.size f cdv)) (envOf qual scope s.heap.objs.size f cdv) s.heap s.heap.objs.size hid).Ok G ∧
      St G (Cx.mk (c.A.deeper (envOf qual scope s.heap.objs.size f cdv)) (envOf qual scope s.heap.objs.size f cdv) s.heap s.heap.objs.size hid) σ' (fun y => binds.reverse.lookup y) [] [] { s with heap := h₁, toks := tk } ∧
      ∀ mu' h', (Vw (Cx.mk (c.A.deeper (envOf qual scope s.heap.objs.size f cdv)) (envOf qual scope s.heap.objs.size f cdv) s.heap s.heap.objs.size hid) mu' h').StaysIn (Vw c (ow ++ al) h') := by
  have X := S.inK ok
  refine ⟨c.hid ++ c.L :: (ow ++ al).map (·.1), ⟨by have := hroom.1; show c.A.depth + 1 + k < _; omega, by have := hroom.2; show c.A.units + 3 + 8 * k < _; omega⟩, ?_, ?_, ?_⟩
  · exact ⟨ok.hh, X, ok.T.keeps S.F.keep, hk, rfl, rfl, S.hsome ok, S.hidden ok⟩
  · refine ⟨⟨hns, hk₁, Nat.le_refl _⟩, PyProof.Rows.News.nil, List.nodup_nil, fun x pv e => ?_⟩
    obtain ⟨v, hv, rv⟩ := hb x pv e
    have hm : (x, v) ∈ binds := by simpa using mem_lookup hv
    refine ⟨v, .loc (hloc _ hm) rfl hv, .rep (rv.keeps fun b o e => ?_)⟩
    rw [mem_vw] at e ⊢
    refine ⟨hk₁ _ _ e.1, fun hm => ?_⟩
    rcases List.mem_append.mp hm with q | q
    · exact e.2 q
    · simp only [List.append_nil, List.map_nil, List.mem_singleton] at q
      exact absurd (Heap.lt_size e.1) (by rw [q]; exact Nat.lt_irrefl _)
  · intro mu' h' b o e
    rw [mem_vw] at e ⊢
    exact ⟨e.1, fun hm => e.2 (List.mem_append_left _ hm)⟩

theorem body_end {c' : Cx} {Q : PV → Prop} {mu : Led} {s : Shared} {al : Led} {mu1 : Led} {h₁ : Heap} {tk : Nat} {fl : Flow} {s1 : Shared} (hg : c'.g0 = s.heap)
    (hv : ∀ mu' h', (Vw c' mu' h').StaysIn (Vw c mu h')) (h : ExPost G c' al mu1 { s with heap := h₁, toks := tk } (bodyQ Q) fl s1) : Post G c mu s Q (match (motive := Flow → Value) fl with | .ret v => v | _ => .none) s1 := by
  obtain ⟨h1, t1, m1, ow1, σ1, fq, rfl, k1, S1, r1, q1⟩ := h
  have kk : s.heap.StaysIn h1 := hg ▸ S1.F.keep
  cases r1 with
  | nxt => exact ⟨h1, t1, rfl, kk, _, .none, q1⟩
  | brk => exact q1.elim
  | cont => exact q1.elim
  | ret r => exact ⟨h1, t1, rfl, kk, _, r.keeps (hv _ _), q1⟩

/-- def f(self, *args) called with one more argument, or with none -/
theorem cl_rest {name qual : Str} {params : Arguments} {body : List Stmt} {scope : Scope} {dV kV doc pm cdv ct oc : Value} {an od : Option Addr} {osl : Array (Option Value)} {f : Addr} {x0 : PV} {xs : List PV} {k : Nat} {n0 n1 : Str} {Q : PV → Prop}
    (ho : G.K.lookup f = some ⟨oc, od, .func (fnOf name qual params body scope dV kV doc pm an cdv ct), osl⟩) (hcd : codeIn G.K cdv qual = true) (hroom : c.Room (k + 1)) (hx : xs.length ≤ 1000)
    (hbind : ∀ v0 vs, vs.length = xs.length → ∃ g, peek1 [] ⟨G.prog, G.w.params⟩ (bindArgs (fnOf name qual params body scope dV kV doc pm an cdv ct) ⟨v0 :: vs, []⟩) = some (({ cls := .type "tuple", data := .seq vs.toArray } : Obj), g) ∧ ∀ D, g D = some [(n0, v0), (n1, .ref D)])
    (hloc : scope.names.lookup n0 = some .local ∧ scope.names.lookup n1 = some .local) (hne : (n1 == n0) = false) (hcell : (scope.names.all fun x => x.2 != .cell) = true)
    (h : ∀ A g0 L hid, (Cx.mk A (envOf qual scope L f cdv) g0 L hid).Room k → Ex G (Cx.mk A (envOf qual scope L f cdv) g0 L hid) [(n0, x0), (n1, .tup xs)] body (bodyQ Q))
    (hco : scope.isCoroutine = false := by rfl) (hgen : scope.isGenerator = false := by rfl) (hk : scope.kind = .function := by rfl) : Cl G c σ (.ref f) (x0 :: xs) Q := by
  intro m ow al s ok S vs r
  cases r with
  | cons r0 r =>
    rename_i v0 vs
    have X := S.inK ok
    have hlen := r.length
    obtain ⟨g, hp, hg⟩ := hbind v0 vs hlen
    refine codeAny_call_function (fd := fnOf name qual params body scope dV kV doc pm an cdv ct) (body := body) (by have := hroom.1; omega) (X _ _ ho) rfl hco hgen rfl (codeRec_of X hcd) ?_
    refine wp_alloc_pure (r := fun D => [(n0, v0), (n1, .ref D)]) ?_ _ g hp hg
    have k0 : s.heap.StaysIn (s.heap.push { cls := .type "tuple", data := .seq vs.toArray }) := stays_push _ _
    have S0 := S.grow (tk := s.toks) k0
    have hl : ∀ x ∈ ([(n0, v0), (n1, .ref s.heap.objs.size)] : List (Str × Value)), scope.names.lookup x.1 = some .local := fun x hx => by
      rcases List.mem_cons.mp hx with rfl | hx
      · exact hloc.1
      · rcases List.mem_cons.mp hx with rfl | hx
        · exact hloc.2
        · cases hx
    refine wpAny_newFunctionEnv (fun x hx => by have := List.all_eq_true.mp hcell x hx; simpa using this) hl (fun h₁ hns hsb => ⟨((ok.T.nolimit.keeps S.F.keep).keeps k0).fresh _ hsb, codeAny_func ?_⟩) hk
    have hk₁ : ∀ b o, (s.heap.push { cls := .type "tuple", data := .seq vs.toArray }).get? b = some o → h₁.get? b = some o := fun b o e => hsb.extBut b o (Nat.ne_of_lt (Heap.lt_size e)) (Heap.get?_push_of_some _ e)
    obtain ⟨hid, room', ok', S', hv⟩ := frame_of (qual := qual) (cdv := cdv) (f := f) (k := k) (tk := s.toks + 2) (σ' := [(n0, x0), (n1, .tup xs)]) ok S0 hroom hk hns hk₁ hl (fun x pv e => by
      have hn : ∀ y z : Str, (y == z) = true → y = z := fun _ _ => beq_iff_eq.mp
      simp only [List.lookup] at e
      split at e
      · rename_i hx
        obtain rfl := hn _ _ hx
        cases e
        refine ⟨v0, ?_, r0.keeps (vw_mono k0)⟩
        have : (x == n1) = false := by cases q : x == n1 with
          | false => rfl
          | true => rw [hn _ _ q] at hne; simp at hne
        simp [List.lookup, this]
      · rename_i hx
        split at e
        · rename_i hx2
          obtain rfl := hn _ _ hx2
          cases e
          exact ⟨.ref s.heap.objs.size, by simp [List.lookup], .tup ⟨_, S.vis ok (Nat.le_refl _) (Heap.get?_push_size _ rfl), rfl, _, rfl⟩ (r.keeps (vw_mono k0))⟩
        · cases e)
    refine wpAny_mono (h _ _ _ _ room' _ [] [] _ ok' S') (fun fl s1 hp => ?_) bot_elim
    have := body_end (s := { s with heap := s.heap.push { cls := .type "tuple", data := .seq vs.toArray } }) rfl hv hp
    exact Post.mono (t1 := s.toks) k0 this fun _ q => q

/-- all that is in h and not in g, but for some -/
def allNew (g h : Heap) (ex : List Addr) : Led := (List.range h.objs.size).filterMap fun a => match h.get? a with
  | some o => if g.get? a = none ∧ a ∉ ex then some (a, o) else none
  | none => none
theorem mem_allNew {g h : Heap} {ex : List Addr} {a : Addr} {o : Obj} : (a, o) ∈ allNew g h ex ↔ h.get? a = some o ∧ g.get? a = none ∧ a ∉ ex := by
  unfold allNew
  rw [List.mem_filterMap]
  constructor
  · rintro ⟨b, _, e⟩
    split at e
    · rename_i o' ho
      split at e
      · rename_i q
        cases e; exact ⟨ho, q⟩
      · cases e
    · cases e
  · rintro ⟨h1, h2⟩
    refine ⟨a, List.mem_range.mpr (Heap.lt_size h1), ?_⟩
    simp only [h1]
    rw [if_pos h2]

/-- an instance is made: its __init__ is one store -/
structure NewAt (G : Gl) (C fI : Addr) (attr : Str) : Prop where
  a : keepIn G.K (.ref C) = true
  b : makesIn G.K C = true
  c : findIn G.K (.ref C) "__init__" = some (some (.ref fI))
  d : typeIn G.K (.ref fI) = some (.type "function")
  e : findIn G.K (.ref C) "__setattr__" = some (some (.builtin "object.__setattr__"))
  f : plainOver G.K C = true
  g : takerIn G.K C attr = some none
  h : hasDictIn G.K C = true
theorem cl_new0 {C fI : Addr} {attr : Str} {name qual : Str} {params : Arguments} {e : Expr} {sp ap pos : Pos} {scope : Scope} {dV kV doc pm cdv ct oc : Value} {an od : Option Addr} {osl : Array (Option Value)} {xs : List PV} {k : Nat} {n0 : Str} {ns : List Str} {R Q : PV → Prop}
    (A : NewAt G C fI attr)
    (ho : G.K.lookup fI = some ⟨oc, od, .func (fnOf name qual params [.Assign [.Attribute (.Name n0 sp) attr ap] e pos] scope dV kV doc pm an cdv ct), osl⟩) (hcd : codeIn G.K cdv qual = true) (hroom : c.Room (k + 2))
    (hbind : ∀ v0 vs s, G.K.In s.heap → vs.length = xs.length → BindsTo s (fnOf name qual params [.Assign [.Attribute (.Name n0 sp) attr ap] e pos] scope dV kV doc pm an cdv ct) ⟨v0 :: vs, []⟩ ((n0 :: ns).zip (v0 :: vs)))
    (hloc : ((n0 :: ns).all fun x => decide (scope.names.lookup x = some .local)) = true) (hnd : (n0 :: ns).Nodup) (hcell : (scope.names.all fun x => x.2 != .cell) = true) (hdbg : (n0 == ("__debug__" : Str)) = false)
    (h : ∀ A g0 L hid x, (Cx.mk A (envOf qual scope L fI cdv) g0 L hid).Room k → Ev G (Cx.mk A (envOf qual scope L fI cdv) g0 L hid) ((n0 :: ns).zip (.raw (.ref x) :: xs)) e R)
    (hmk : ∀ pv, R pv → ∀ H a d v hs sz tk, H.get? a = some (instObj C d) → H.get? d = some (dictOf [⟨hs, .str attr tk, v⟩] sz) → Rep G H v pv → ∃ r, Rep G H (.ref a) r ∧ Q r)
    (hsw : ∀ L, swapsWith e (some (.Attribute (.Name n0 sp) attr ap)) pos.line (envOf qual scope L fI cdv) = pure false)
    (hco : scope.isCoroutine = false := by rfl) (hgen : scope.isGenerator = false := by rfl) (hk : scope.kind = .function := by rfl) : Cl G c σ (.ref C) xs Q := by
  intro m ow al s ok S vs r
  have X := S.inK ok
  have hlen := r.length
  obtain ⟨hh, gn, dr, tk0, os⟩ := s
  refine make_core (makes_of X A.b) (looks_findIn X A.c) (fun self => bind_fn X self A.d) (.inl rfl) ?_
  have k0 : hh.StaysIn ((hh.push emptyDict).push (instObj C hh.objs.size)) := stays_trans (stays_push _ _) (stays_push _ _)
  have S0 := S.grow (tk := tk0) k0
  dsimp only at S0 X
  have X0 := X.keeps k0
  have hsz : ((hh.push emptyDict).push (instObj C hh.objs.size)).objs.size = hh.objs.size + 2 := by simp
  have hx : ((hh.push emptyDict).push (instObj C hh.objs.size)).get? (hh.objs.size + 1) = some (instObj C hh.objs.size) := by
    have := Heap.get?_push_size (hh.push emptyDict) (o := instObj C hh.objs.size) rfl
    simpa using this
  have hd : ((hh.push emptyDict).push (instObj C hh.objs.size)).get? hh.objs.size = some emptyDict := Heap.get?_push_of_some _ (Heap.get?_push_size _ rfl)
  let A' : Around := c.A.under (.builtin "type.__call__" ⟨.ref C :: vs, []⟩)
  have room1 : A'.depth = c.A.depth + 1 := rfl
  have room2 : A'.units = c.A.units + 1 := rfl
  refine codeAny_call_def (fd := fnOf name qual params [.Assign [.Attribute (.Name n0 sp) attr ap] e pos] scope dV kV doc pm an cdv ct) (body := [.Assign [.Attribute (.Name n0 sp) attr ap] e pos]) (binds := (n0 :: ns).zip (.ref (hh.objs.size + 1) :: vs))
    (by show A'.depth < _; have := hroom.1; omega) (X0 _ _ ho) rfl ((ok.T.nolimit.keeps S.F.keep).keeps k0) (codeRec_of X0 hcd) rfl (hbind _ _ _ X0 hlen)
    (fun x hx => by have := List.all_eq_true.mp hcell x hx; simpa using this)
    (fun x hx => by
      have h1 : x.1 ∈ n0 :: ns := (List.of_mem_zip hx).1
      simpa using List.all_eq_true.mp hloc _ h1) (fun h₁ hns hk₁ => ?_) hco hgen hk
  show wpAny G.M (A'.deeper (envOf qual scope ((hh.push emptyDict).push (instObj C hh.objs.size)).objs.size fI cdv)) (execs [.Assign [.Attribute (.Name n0 sp) attr ap] e pos] (envOf qual scope ((hh.push emptyDict).push (instObj C hh.objs.size)).objs.size fI cdv)) _ _ _
  have hloc' : ∀ x ∈ (n0 :: ns).zip (.ref (hh.objs.size + 1) :: vs), scope.names.lookup x.1 = some .local := fun x hx => by
    have h1 : x.1 ∈ n0 :: ns := (List.of_mem_zip hx).1
    simpa using List.all_eq_true.mp hloc _ h1
  have hnd' : (((n0 :: ns).zip ((Value.ref (hh.objs.size + 1)) :: vs)).map (·.1)).Nodup := hnd.sublist (zip_names _ _)
  have ok1 : ({ c with A := A' } : Cx).Ok G := ⟨ok.hh, ok.K, ok.T, ok.ek, ok.eg, ok.eb, ok.hsome, ok.hK⟩
  have nn : ∀ a, hh.objs.size ≤ a → hh.get? a = none := fun a ha => by
    cases q : hh.get? a with
    | none => rfl
    | some o => exact absurd (Nat.lt_of_lt_of_le (Heap.lt_size q) ha) (Nat.lt_irrefl _)
  have S1 : St G { c with A := A' } [] m ow ((hh.objs.size, emptyDict) :: al) ⟨(hh.push emptyDict).push (instObj C hh.objs.size), gn, dr, tk0, os⟩ := by
    refine ⟨S0.F, fun p hp => ?_, ?_, fun x pv e => by cases e⟩
    · rcases List.mem_append.mp hp with q | q
      · exact S0.N p (List.mem_append_left _ q)
      · rcases List.mem_cons.mp q with rfl | q
        · refine ⟨hd, Nat.ne_of_gt S.F.ns.lt, ?_⟩
          cases q : c.g0.get? hh.objs.size with
          | none => rfl
          | some o =>
            have := S.F.keep _ _ q
            rw [nn _ (Nat.le_refl _)] at this; cases this
        · exact S0.N p (List.mem_append_right _ q)
    · rw [List.map_append, List.map_cons]
      have h0 := S.nd
      rw [List.map_append] at h0
      rw [List.nodup_append] at h0 ⊢
      obtain ⟨n1, n2, n3⟩ := h0
      have fresh : ∀ p ∈ ow ++ al, p.1 ≠ hh.objs.size := fun p hp => Nat.ne_of_lt (Heap.lt_size (S.N p hp).1)
      refine ⟨n1, ?_, ?_⟩
      · rw [List.nodup_cons]
        refine ⟨fun hm => ?_, n2⟩
        obtain ⟨p, hp, e⟩ := List.mem_map.mp hm
        exact fresh p (List.mem_append_right _ hp) e
      · intro a ha b hb
        rcases List.mem_cons.mp hb with rfl | hb
        · obtain ⟨p, hp, rfl⟩ := List.mem_map.mp ha
          exact fresh p (List.mem_append_left _ hp)
        · exact n3 a ha b hb
  obtain ⟨hid, room', ok', S', hv⟩ := frame_of (c := { c with A := A' }) (qual := qual) (cdv := cdv) (f := fI) (k := k) (tk := tk0 + ((n0 :: ns).zip (Value.ref (hh.objs.size + 1) :: vs)).length) (σ' := (n0 :: ns).zip (.raw (.ref (hh.objs.size + 1)) :: xs)) ok1 S1
    ⟨by show A'.depth + _ < _; have := hroom.1; omega, by show A'.units + _ < _; have := hroom.2; omega⟩ hk hns hk₁ hloc' (fun x pv e => by
      have rr : RepL G (Vw { c with A := A' } (ow ++ (hh.objs.size, emptyDict) :: al) ((hh.push emptyDict).push (instObj C hh.objs.size))) (.ref (hh.objs.size + 1) :: vs) (.raw (.ref (hh.objs.size + 1)) :: xs) := .cons (.raw _) (r.keeps fun b o e => by
        rw [mem_vw] at e ⊢
        refine ⟨k0 _ _ e.1, fun hm => ?_⟩
        rcases List.mem_append.mp hm with q | q
        · exact e.2 (List.mem_append_left _ q)
        · rcases List.mem_cons.mp q with q | q
          · exact e.2 (List.mem_append_right _ (q ▸ .head _))
          · rw [List.map_append, List.map_cons] at q
            rcases List.mem_append.mp q with q | q
            · exact e.2 (List.mem_append_right _ (.tail _ (by rw [List.map_append]; exact List.mem_append_left _ q)))
            · rcases List.mem_cons.mp q with q | q
              · exact absurd (Heap.lt_size e.1) (by rw [q]; exact Nat.lt_irrefl _)
              · exact e.2 (List.mem_append_right _ (.tail _ (by rw [List.map_append]; exact List.mem_append_right _ q))))
      obtain ⟨v, hv, rv⟩ := zip_lookup rr x pv e
      exact ⟨v, (lookup_reverse_of_nodup hnd').trans hv, rv⟩)
  refine wpAny_execs_cons (plainObj_wpAny_Assign_Attribute ?_ (hsw _))
  refine wpAny_mono (h _ _ _ _ _ room' _ [] [] _ ok' S') (fun v s1 hp => ?_) bot_elim
  obtain ⟨h2, t2, rfl, k2, pv, rpv, q2⟩ := hp
  have S2 := S'.grow (tk := t2) k2
  have hself : ((n0 :: ns).zip ((PV.raw (.ref (hh.objs.size + 1))) :: xs)).lookup n0 = some (.raw (.ref (hh.objs.size + 1))) := by simp [List.lookup]
  have hn0 : scope.names.lookup n0 = some .local := by simpa using List.all_eq_true.mp hloc n0 (by simp)
  refine wpAny_Name (wpAny_loadName_local (v := .ref (hh.objs.size + 1)) hk hn0 S2.F.ns (by
    rw [lookup_reverse_of_nodup hnd']; simp [List.lookup]) ?_) hdbg
  have k02 : hh.StaysIn h2 := stays_trans k0 (stays_trans hk₁ k2)
  have F2 : Fr hh ((hh.push emptyDict).push (instObj C hh.objs.size)).objs.size h2 _ := ⟨S2.F.ns, k02, by rw [hsz]; exact Nat.le_add_right _ _⟩
  have hx2 := k2 _ _ (hk₁ _ _ hx)
  have hd2 := k2 _ _ (hk₁ _ _ hd)
  let L' : Addr := ((hh.push emptyDict).push (instObj C hh.objs.size)).objs.size
  have hL' : L' = hh.objs.size + 2 := hsz
  let rest := allNew hh h2 [L', hh.objs.size, hh.objs.size + 1]
  have N2 : News hh L' h2 ((hh.objs.size + 1, instObj C hh.objs.size) :: (hh.objs.size, dictOf [] 0) :: rest) := fun p hp => by
    rcases List.mem_cons.mp hp with rfl | hp
    · exact ⟨hx2, by rw [hL']; exact Nat.ne_of_lt (Nat.lt_succ_self _), nn _ (Nat.le_succ _)⟩
    · rcases List.mem_cons.mp hp with rfl | hp
      · exact ⟨hd2, by rw [hL']; exact Nat.ne_of_lt (Nat.lt_add_of_pos_right (by decide)), nn _ (Nat.le_refl _)⟩
      · obtain ⟨a, o⟩ := p
        obtain ⟨q1, q2, q3⟩ := mem_allNew.mp hp
        exact ⟨q1, fun e => q3 (by rw [show a = L' from e]; simp), q2⟩
  refine set_dict (K := G.K) (C := C) (dx := hh.objs.size) (es := []) (n := 0) (es' := [⟨PyData.keyHash G.w.params attr, .str attr (t2 + 1), v⟩]) (n' := 1) (news' := (hh.objs.size + 1, instObj C hh.objs.size) :: (hh.objs.size, dictOf [⟨PyData.keyHash G.w.params attr, .str attr (t2 + 1), v⟩] 1) :: rest) F2 X N2
    ⟨hx2, rfl, rfl, hd2⟩ rfl A.e A.f A.g A.h rfl rfl (.tail (Nat.succ_ne_self _) (.head fun p hp => by
      obtain ⟨a, o⟩ := p
      obtain ⟨q1, q2, q3⟩ := mem_allNew.mp hp
      exact fun e => q3 (by rw [show a = hh.objs.size from e]; simp))) (by simp) (fun h' F3 N3 => ?_)
  refine wpAny_execs_nil ⟨rfl, ?_⟩
  -- the end: what was before stays; the value is seen
  have k3 : hh.StaysIn h' := F3.keep
  have e1 := (N3 (hh.objs.size + 1, instObj C hh.objs.size) (.head _)).1
  have e2 := (N3 (hh.objs.size, _) (.tail _ (.head _))).1
  have v1 := S.vis ok (h' := h') (Nat.le_succ _) e1
  have v2 := S.vis ok (h' := h') (Nat.le_refl _) e2
  have kv : (Vw (Cx.mk (A'.deeper (envOf qual scope L' fI cdv)) (envOf qual scope L' fI cdv) ((hh.push emptyDict).push (instObj C hh.objs.size)) L' hid) ([] ++ []) h2).StaysIn (Vw c (ow ++ al) h') := fun b o e => by
    have e' := mem_vw.mp e
    have ev := mem_vw.mp (hv _ _ _ _ e)
    have hbL : b ≠ L' := fun q => e'.2 (List.mem_append_right _ (q ▸ .head _))
    have hbd : b ≠ hh.objs.size := fun q => ev.2 (by rw [q]; simp)
    have hb : h'.get? b = some o := by
      cases q : hh.get? b with
      | some o' =>
        have h1 := k02 _ _ q
        rw [e'.1] at h1
        cases h1
        exact k3 _ _ q
      | none =>
        by_cases hbx : b = hh.objs.size + 1
        · subst hbx
          rw [hx2] at e'
          rw [e1]; exact e'.1
        · exact (N3 (b, o) (.tail _ (.tail _ (mem_allNew.mpr ⟨e'.1, q, by simp [hbL, hbd, hbx]⟩)))).1
    refine mem_vw.mpr ⟨hb, fun hm => ev.2 ?_⟩
    show b ∈ c.hid ++ c.L :: (ow ++ (hh.objs.size, emptyDict) :: al).map (·.1)
    rcases List.mem_append.mp hm with q | q
    · exact List.mem_append_left _ q
    · refine List.mem_append_right _ ?_
      rcases List.mem_cons.mp q with q | q
      · exact q ▸ .head _
      · refine .tail _ ?_
        rw [List.map_append] at q ⊢
        rcases List.mem_append.mp q with q | q
        · exact List.mem_append_left _ q
        · exact List.mem_append_right _ (.tail _ q)
  obtain ⟨r, hr, hq⟩ := hmk pv q2 _ _ _ v _ _ _ v1 v2 (rpv.keeps kv)
  exact ⟨h', _, rfl, k3, r, hr, hq⟩
end
end Mine
end Part3
section Part4
open PySem PySem.W PySem.Calls
set_option maxRecDepth 100000
set_option autoImplicit false
set_option linter.unusedVariables false
namespace Mine
open PyProof.Rows (Fr News Top IsTup Below envOf envOfC)

/-- the items of a source -/
def rngItems (a st : Int) (n : Nat) : List PV := (List.range n).map fun i => .int (a + (i : Nat) * st)
inductive Items : PV → List PV → Prop
  | lst {xs : List PV} : Items (.lst xs) xs
  | tup {xs : List PV} : Items (.tup xs) xs
  | rng {a b st : Int} {n : Nat} {xs : List PV} : Builtin.Range.small a b st = true → Builtin.Range.rangeSize a b st = (n : Int) → xs = rngItems a st n → Items (.rng a b st) xs

section
variable {G : Gl} {c : Cx} {σ : Sg}

theorem iter_src {A : Around} {V : Heap} {s : Shared} {v : Value} {x : PV} {xs : List PV} {Q : Value → Shared → Prop} (hh : A.handled = none) (hV : V.StaysIn s.heap) (r : Rep G V v x) (hi : Items x xs)
    (h : ∀ (o : Obj) (fp : List Addr) (P : Nat → Value → Prop) (St' : Nat → Heap → Prop), o.isFreed = false → Walks G.prog G.w A s.heap.objs.size fp [s.heap.objs.size] xs.length P St' → St' 0 (s.heap.push o) →
      (∀ b ∈ fp, b = s.heap.objs.size ∨ ∃ q, V.get? b = some q) → (∀ i g, St' i g → ∃ o', g.get? s.heap.objs.size = some o') → (∀ i u, i < xs.length → P i u → ∃ y, xs[i]? = some y ∧ Rep G V u y) →
      Q (.ref s.heap.objs.size) { s with heap := s.heap.push o }) : wpAny G.M A (pyIter v) Q Bot s := by
  cases hi with
  | lst =>
    cases r with
    | lst hl r =>
      rename_i a vs
      have hl' := isList_keeps hV hl
      have e := r.length
      obtain ⟨ol, hol, _⟩ := hl'
      have hl2 := hl
      obtain ⟨ov, hov, _⟩ := hl2
      have hne : a ≠ s.heap.objs.size := Nat.ne_of_lt (Heap.lt_size hol)
      refine wpAny_pyIter_list (isList_keeps hV hl) ?_
      have W := Walks.list (prog := G.prog) (w := G.w) hh s.heap.objs.size a hne vs.toArray
      rw [show vs.toArray.size = xs.length from List.size_toArray.trans e] at W
      refine h _ _ _ _ rfl W ⟨⟨_, Heap.get?_push_size _ rfl, rfl, rfl⟩, (isList_keeps hV hl).push _⟩ ?_ ?_ ?_
      · intro b hb
        rcases List.mem_cons.mp hb with q | q
        · exact .inl q
        · rcases List.mem_cons.mp q with q | q
          · exact .inr ⟨ov, q ▸ hov⟩
          · cases q
      · rintro i g ⟨⟨o', ho', _⟩, _⟩; exact ⟨o', ho'⟩
      · intro i u _ hu
        have hu : vs[i]? = some u := by simpa using hu
        have hlt : i < vs.length := by
          rcases Nat.lt_or_ge i vs.length with q | q
          · exact q
          · rw [List.getElem?_eq_none q] at hu; cases hu
        have hx : xs[i]? = some (xs[i]'(e ▸ hlt)) := by simp
        obtain ⟨w, hw, rw⟩ := r.get hx
        rw [hu] at hw; cases hw
        exact ⟨_, hx, rw⟩
  | tup =>
    cases r with
    | tup hl r =>
      rename_i a vs
      have hl' := isTup_keeps hV hl
      have e := r.length
      obtain ⟨ol, hol, _⟩ := hl'
      have hl2 := hl
      obtain ⟨ov, hov, _⟩ := hl2
      have hne : a ≠ s.heap.objs.size := Nat.ne_of_lt (Heap.lt_size hol)
      refine wpAny_pyIter_tuple (isTup_keeps hV hl) ?_
      have W := Walks.tuple (prog := G.prog) (w := G.w) hh s.heap.objs.size a hne vs.toArray
      rw [show vs.toArray.size = xs.length from List.size_toArray.trans e] at W
      refine h _ _ _ _ rfl W ⟨⟨_, Heap.get?_push_size _ rfl, rfl, rfl⟩, Heap.IsTuple.push (isTup_keeps hV hl) _⟩ ?_ ?_ ?_
      · intro b hb
        rcases List.mem_cons.mp hb with q | q
        · exact .inl q
        · rcases List.mem_cons.mp q with q | q
          · exact .inr ⟨ov, q ▸ hov⟩
          · cases q
      · rintro i g ⟨⟨o', ho', _⟩, _⟩; exact ⟨o', ho'⟩
      · intro i u _ hu
        have hu : vs[i]? = some u := by simpa using hu
        have hlt : i < vs.length := by
          rcases Nat.lt_or_ge i vs.length with q | q
          · exact q
          · rw [List.getElem?_eq_none q] at hu; cases hu
        have hx : xs[i]? = some (xs[i]'(e ▸ hlt)) := by simp
        obtain ⟨w, hw, rw⟩ := r.get hx
        rw [hu] at hw; cases hw
        exact ⟨_, hx, rw⟩
  | rng hsm hsz hxs =>
    rename_i a b st n
    subst hxs
    cases r with
    | rng hr =>
      refine wpAny_pyIter_range (hV _ _ hr) hsm ?_
      have W := Walks.range (prog := G.prog) (w := G.w) hh s.heap.objs.size a st n
      have hlen : (rngItems a st n).length = n := by simp [rngItems]
      have W' : Walks G.prog G.w A s.heap.objs.size [s.heap.objs.size] [s.heap.objs.size] (rngItems a st n).length (fun i v => ∃ t, v = Value.int (a + (i : Int) * st) t) fun i h => IsRangeIter h s.heap.objs.size (a + (i : Int) * st) ((n : Int) - (i : Int)) st := by rw [hlen]; exact W
      refine h _ _ _ _ rfl W' ?_ ?_ ?_ ?_
      · show IsRangeIter _ _ _ _ _
        rw [hsz]
        have := Heap.get?_push_size s.heap (o := { cls := .type "range_iterator", data := .fields #[rawInt a, rawInt (n : Int), rawInt st] }) rfl
        simpa using this
      · intro b hb; exact .inl (List.mem_singleton.mp hb)
      · intro i g hg; exact ⟨_, hg⟩
      · rintro i u hi ⟨t, rfl⟩
        rw [hlen] at hi
        exact ⟨.int (a + (i : Nat) * st), by simp [rngItems, hi], .int _ _⟩

theorem St.alter {m : Str → Option Value} {ow al : Led} {s : Shared} {I : Addr} {o o' : Obj} {h' : Heap} {tk : Nat} (S : St G c σ m ow ((I, o) :: al) s) (k : ∀ b q, b ∉ [I] → s.heap.get? b = some q → h'.get? b = some q) (e : h'.get? I = some o') :
    St G c σ m ow ((I, o') :: al) { s with heap := h', toks := tk } := by
  have hI := S.N (I, o) (List.mem_append_right _ (.head _))
  have k' : Heap.ExtBut I s.heap h' := fun b q hb e => k b q (by simpa using hb) e
  have hne : ∀ p ∈ ow ++ al, p.1 ≠ I := fun p hp q => by
    have nd := S.nd
    rw [List.map_append, List.map_cons, List.nodup_append] at nd
    obtain ⟨n1, n2, n3⟩ := nd
    rcases List.mem_append.mp hp with hp | hp
    · exact n3 _ (List.mem_map_of_mem hp) I (.head _) q
    · rw [List.nodup_cons] at n2
      exact n2.1 (by rw [← q]; exact List.mem_map_of_mem (f := (·.1)) hp)
  have hv : (Vw c (ow ++ (I, o) :: al) s.heap).StaysIn (Vw c (ow ++ (I, o') :: al) h') := fun b q e => by
    rw [mem_vw] at e ⊢
    simp only [List.map_append, List.map_cons] at e ⊢
    refine ⟨k' b q (fun hb => e.2 (by rw [hb]; simp)) e.1, e.2⟩
  refine ⟨⟨S.F.ns.extBut k' (Ne.symm hI.2.1), fun b q eb => k' b q (fun hb => ?_) (S.F.keep b q eb), S.F.above⟩, fun p hp => ?_, ?_, fun x pv ex => ?_⟩
  · have h3 := hI.2.2
    rw [← show b = I from hb, eb] at h3; cases h3
  · rcases List.mem_append.mp hp with q | q
    · have := S.N p (List.mem_append_left _ q)
      exact ⟨k' _ _ (hne p (List.mem_append_left _ q)) this.1, this.2⟩
    · rcases List.mem_cons.mp q with rfl | q
      · exact ⟨e, hI.2⟩
      · have := S.N p (List.mem_append_right _ (.tail _ q))
        exact ⟨k' _ _ (hne p (List.mem_append_right _ q)) this.1, this.2⟩
  · have nd := S.nd
    simp only [List.map_append, List.map_cons] at nd ⊢
    exact nd
  · obtain ⟨v, hvv, r⟩ := S.vars x pv ex
    refine ⟨v, ?_, r.keeps hv⟩
    cases hvv with
    | loc a b d => exact .loc a b d
    | locC a b d e => exact .locC a b d e
    | cel a b d e => exact .cel a b d e
    | free a b d e f => exact .free a b d e f

/-- the iterator goes -/
theorem St.drop {m : Str → Option Value} {ow al : Led} {s : Shared} {I : Addr} {o : Obj} (S : St G c σ m ow ((I, o) :: al) s) : St G c σ m ow al s := by
  have hv : (Vw c (ow ++ (I, o) :: al) s.heap).StaysIn (Vw c (ow ++ al) s.heap) := fun b q e => by
    rw [mem_vw] at e ⊢
    refine ⟨e.1, fun hm => e.2 ?_⟩
    simp only [List.map_append, List.map_cons] at hm ⊢
    rcases List.mem_append.mp hm with h | h
    · exact List.mem_append_left _ h
    · refine List.mem_append_right _ ?_
      rcases List.mem_cons.mp h with h | h
      · exact h ▸ .head _
      · refine .tail _ ?_
        rcases List.mem_append.mp h with h | h
        · exact List.mem_append_left _ h
        · exact List.mem_append_right _ (.tail _ h)
  refine ⟨S.F, fun p hp => S.N p ?_, ?_, fun x pv ex => ?_⟩
  · rcases List.mem_append.mp hp with h | h
    · exact List.mem_append_left _ h
    · exact List.mem_append_right _ (.tail _ h)
  · have nd := S.nd
    refine nd.sublist ?_
    simp only [List.map_append, List.map_cons]
    exact List.Sublist.append (List.Sublist.refl _) (List.sublist_cons_self _ _)
  · obtain ⟨v, hvv, r⟩ := S.vars x pv ex
    exact ⟨v, hvv, r.keeps hv⟩

/-- a new mutable object of the machine's own -/
theorem St.add {m : Str → Option Value} {ow al : Led} {s : Shared} {o : Obj} (ok : c.Ok G) (S : St G c σ m ow al s) (hf : o.isFreed = false) :
    St G c σ m ow ((s.heap.objs.size, o) :: al) { s with heap := s.heap.push o } ∧ (Vw c (ow ++ al) s.heap).StaysIn (Vw c (ow ++ (s.heap.objs.size, o) :: al) (s.heap.push o)) := by
  have k0 : s.heap.StaysIn (s.heap.push o) := stays_push _ _
  have hfr : ∀ p ∈ ow ++ al, p.1 ≠ s.heap.objs.size := fun p hp => Nat.ne_of_lt (Heap.lt_size (S.N p hp).1)
  have hv : (Vw c (ow ++ al) s.heap).StaysIn (Vw c (ow ++ (s.heap.objs.size, o) :: al) (s.heap.push o)) := fun b q e => by
    rw [mem_vw] at e ⊢
    refine ⟨k0 _ _ e.1, fun hm => e.2 ?_⟩
    simp only [List.map_append, List.map_cons] at hm ⊢
    rcases List.mem_append.mp hm with h | h
    · exact List.mem_append_left _ h
    · refine List.mem_append_right _ ?_
      rcases List.mem_cons.mp h with h | h
      · exact h ▸ .head _
      · refine .tail _ ?_
        rcases List.mem_append.mp h with h | h
        · exact List.mem_append_left _ h
        · rcases List.mem_cons.mp h with h | h
          · exact absurd (Heap.lt_size e.1) (by rw [h]; exact Nat.lt_irrefl _)
          · exact List.mem_append_right _ h
  have S0 := S.grow (tk := s.toks) k0
  refine ⟨⟨S0.F, fun p hp => ?_, ?_, fun x pv ex => ?_⟩, hv⟩
  · rcases List.mem_append.mp hp with h | h
    · exact S0.N p (List.mem_append_left _ h)
    · rcases List.mem_cons.mp h with rfl | h
      · refine ⟨Heap.get?_push_size _ hf, Nat.ne_of_gt S.F.ns.lt, ?_⟩
        cases q : c.g0.get? s.heap.objs.size with
        | none => rfl
        | some o' => exact absurd (Heap.lt_size (S.F.keep _ _ q)) (Nat.lt_irrefl _)
      · exact S0.N p (List.mem_append_right _ h)
  · have nd := S.nd
    simp only [List.map_append, List.map_cons, List.nodup_append, List.nodup_cons] at nd ⊢
    obtain ⟨n1, n2, n3⟩ := nd
    refine ⟨n1, ⟨fun hm => ?_, n2⟩, fun a ha b hb => ?_⟩
    · obtain ⟨p, hp, e⟩ := List.mem_map.mp hm
      exact hfr p (List.mem_append_right _ hp) e
    · rcases List.mem_cons.mp hb with rfl | hb
      · obtain ⟨p, hp, rfl⟩ := List.mem_map.mp ha
        exact hfr p (List.mem_append_left _ hp)
      · exact n3 a ha b hb
  · obtain ⟨v, hvv, r⟩ := S.vars x pv ex
    exact ⟨v, hvv, r.keeps hv⟩

/-- what is left of a loop -/
def forStep (Q : Fl → Sg → Prop) (k : Sg → Prop) (f : Fl) (σ2 : Sg) : Prop := match f with
  | .nxt => k σ2
  | .cont => k σ2
  | .brk => Q .nxt σ2
  | .ret v => Q (.ret v) σ2
def ForL (G : Gl) (c : Cx) (tgt : Expr) (body : List Stmt) (Q : Fl → Sg → Prop) : List PV → Sg → Prop
  | [], σ => Q .nxt σ
  | x :: xs, σ => As G c σ (assign tgt c.env) x (fun σ1 => Ex G c σ1 body (forStep Q (ForL G c tgt body Q xs)))

theorem ex_for {tgt iter : Expr} {body : List Stmt} {pos : Pos} {Q : Fl → Sg → Prop} (h : Ev G c σ iter (fun x => ∃ xs, Items x xs ∧ ForL G c tgt body Q xs σ))
    (ht : ∀ it v, letOwnedTupleGo tgt it v = pure () := by intro _ _; rfl) (hs : ∀ x, foldedSetIterable iter c.env x = pure x := by intro _; rfl) : Ex1 G c σ (.For tgt iter body [] pos) Q := by
  intro m ow al s ok S
  refine wpAny_For (wpAny_mono (h m ow al s ok S) (fun v s1 hp => ?_) bot_elim) hs
  obtain ⟨h1, t1, rfl, k1, x, rx, xs, hi, hL⟩ := hp
  have S1 := S.grow (tk := t1) k1
  refine iter_src (s := { s with heap := h1, toks := t1 }) ok.hh vw_sub rx hi (fun o fp P St' hof W st0 hfp hob hP => ?_)
  dsimp only at W st0 hfp hob ⊢
  obtain ⟨S2, v2⟩ := S1.add ok hof
  dsimp only at S2 v2
  let V := Vw c (ow ++ al) h1
  let Inv : Nat → Shared → Prop := fun n s' => ∃ i σ' m' ow' h' tk o', s' = { s with heap := h', toks := tk } ∧ i + n = xs.length ∧ St G c σ' m' ow' ((h1.objs.size, o') :: al) { s with heap := h', toks := tk } ∧ St' i h' ∧
    V.StaysIn (Vw c (ow' ++ (h1.objs.size, o') :: al) h') ∧ ForL G c tgt body Q (xs.drop i) σ'
  have fin : ∀ σ' m' ow' h' tk o', St G c σ' m' ow' ((h1.objs.size, o') :: al) { s with heap := h', toks := tk } → V.StaysIn (Vw c (ow' ++ (h1.objs.size, o') :: al) h') →
      ∀ fl f, FlRep G (Vw c (ow' ++ (h1.objs.size, o') :: al) h') fl f → Q f σ' → ExPost G c al (ow ++ al) s Q fl { s with heap := h', toks := tk } := by
    intro σ' m' ow' h' tk o' S' hv fl f hr hq
    have hv2 : (Vw c (ow' ++ (h1.objs.size, o') :: al) h').StaysIn (Vw c (ow' ++ al) h') := fun b q e => by
      rw [mem_vw] at e ⊢
      refine ⟨e.1, fun hm => e.2 ?_⟩
      simp only [List.map_append, List.map_cons] at hm ⊢
      rcases List.mem_append.mp hm with h | h
      · exact List.mem_append_left _ h
      · refine List.mem_append_right _ ?_
        rcases List.mem_cons.mp h with h | h
        · exact h ▸ .head _
        · refine .tail _ ?_
          rcases List.mem_append.mp h with h | h
          · exact List.mem_append_left _ h
          · exact List.mem_append_right _ (.tail _ h)
    refine ⟨h', tk, m', ow', σ', f, rfl, stays_trans (vw_mono k1) (stays_trans hv hv2), S'.drop, ?_, hq⟩
    cases hr with
    | nxt => exact .nxt
    | brk => exact .brk
    | cont => exact .cont
    | ret r => exact .ret (r.keeps hv2)
  refine codeAny_forLoop (prog := G.prog) (w := G.w) Inv ?_ xs.length ⟨0, σ, m, ow, _, _, o, rfl, Nat.zero_add _, S2, st0, v2, by rw [List.drop_zero]; exact hL⟩ (ht _)
  rintro n s' ⟨i, σ', m', ow', h', tk, o', rfl, hn, S', st', v', hF⟩
  cases n with
  | zero =>
    have hil : i = xs.length := by omega
    subst hil
    refine W.done _ _ _ st' (fun h'' tk' kk => ?_)
    have hI : h''.get? h1.objs.size = some o' ∨ True := .inr trivial
    rw [List.drop_length] at hF
    -- the iterator may have been freed or changed; what else was there stays
    have S3 : St G c σ' m' ow' al { s with heap := h'', toks := tk' } := by
      have D := S'.drop
      have kn : Heap.ExtBut h1.objs.size h' h'' := fun b q hb e => kk b q (by simpa using hb) e
      have hIN := S'.N (h1.objs.size, o') (List.mem_append_right _ (.head _))
      have hne : ∀ p ∈ ow' ++ al, p.1 ≠ h1.objs.size := fun p hp q => by
        have nd := S'.nd
        rw [List.map_append, List.map_cons, List.nodup_append] at nd
        obtain ⟨n1, n2, n3⟩ := nd
        rcases List.mem_append.mp hp with hp | hp
        · exact n3 _ (List.mem_map_of_mem hp) h1.objs.size (.head _) q
        · rw [List.nodup_cons] at n2
          exact n2.1 (by rw [← q]; exact List.mem_map_of_mem (f := (·.1)) hp)
      refine ⟨⟨D.F.ns.extBut kn (Ne.symm hIN.2.1), fun b q eb => kn b q (fun hb => ?_) (D.F.keep b q eb), D.F.above⟩, fun p hp => ⟨kn _ _ (hne p hp) (D.N p hp).1, (D.N p hp).2⟩, D.nd, fun x pv ex => ?_⟩
      · have h3 := hIN.2.2
        rw [← show b = h1.objs.size from hb, eb] at h3; cases h3
      · obtain ⟨v, hvv, r⟩ := S'.vars x pv ex
        refine ⟨v, hvv, r.keeps fun b q e => ?_⟩
        rw [mem_vw] at e ⊢
        refine ⟨kn b q (fun hb => e.2 (by rw [hb]; simp)) e.1, fun hm => e.2 ?_⟩
        simp only [List.map_append, List.map_cons] at hm ⊢
        rcases List.mem_append.mp hm with h | h
        · exact List.mem_append_left _ h
        · refine List.mem_append_right _ ?_
          rcases List.mem_cons.mp h with h | h
          · exact h ▸ .head _
          · refine .tail _ ?_
            rcases List.mem_append.mp h with h | h
            · exact List.mem_append_left _ h
            · exact List.mem_append_right _ (.tail _ h)
    refine wpAny_execs_nil ?_
    refine ⟨h'', tk', m', ow', σ', .nxt, rfl, ?_, S3, .nxt, hF⟩
    refine stays_trans (vw_mono k1) (stays_trans v' fun b q e => ?_)
    rw [mem_vw] at e ⊢
    refine ⟨kk b q (fun hb => e.2 (by rw [List.mem_singleton.mp hb]; simp)) e.1, fun hm => e.2 ?_⟩
    simp only [List.map_append, List.map_cons] at hm ⊢
    rcases List.mem_append.mp hm with h | h
    · exact List.mem_append_left _ h
    · refine List.mem_append_right _ ?_
      rcases List.mem_cons.mp h with h | h
      · exact h ▸ .head _
      · refine .tail _ ?_
        rcases List.mem_append.mp h with h | h
        · exact List.mem_append_left _ h
        · exact List.mem_append_right _ (.tail _ h)
  | succ n =>
    have hil : i < xs.length := by omega
    refine W.item i _ _ _ hil st' (fun u h'' tk' hPu st'' kk => ?_)
    obtain ⟨o'', ho''⟩ := hob _ _ st''
    have S3 := S'.alter (o' := o'') (tk := tk') kk ho''
    obtain ⟨y, hy, ry⟩ := hP i u hil hPu
    have hdrop : xs.drop i = y :: xs.drop (i + 1) := by
      rw [List.drop_eq_getElem_cons hil]
      congr 1
      exact Option.some.inj ((List.getElem?_eq_getElem hil).symm.trans hy)
    rw [hdrop] at hF
    have v3 : V.StaysIn (Vw c (ow' ++ (h1.objs.size, o'') :: al) h'') := stays_trans v' fun b q e => by
      rw [mem_vw] at e ⊢
      simp only [List.map_append, List.map_cons] at e ⊢
      exact ⟨kk b q (fun hb => e.2 (by rw [List.mem_singleton.mp hb]; simp)) e.1, e.2⟩
    refine wpAny_mono (hF m' ow' _ _ ok S3 u (ry.keeps v3)) (fun _ s4 hp4 => ?_) (fun _ _ b => b.elim)
    obtain ⟨h4, t4, m4, ow4, σ4, f4, rfl, k4, S4, r4, q4⟩ := hp4
    refine wpAny_mono (q4 m4 ow4 _ _ ok S4) (fun fl s5 hp5 => ?_) (fun _ _ b => b.elim)
    obtain ⟨h5, t5, m5, ow5, σ5, f5, rfl, k5, S5, r5, q5⟩ := hp5
    have v5 := stays_trans v3 (stays_trans k4 k5)
    have stk : St' (i + 1) h5 := W.frame _ _ _ st'' fun b hb q e => by
      rcases hfp b hb with rfl | ⟨q', hq'⟩
      · rw [ho''] at e
        cases e
        exact (S5.N (h1.objs.size, o'') (List.mem_append_right _ (.head _))).1
      · have h6 := v3 _ _ hq'
        have h7 := (mem_vw.mp h6).1
        rw [h7] at e
        cases e
        exact (mem_vw.mp (v5 _ _ hq')).1
    have again : ForL G c tgt body Q (xs.drop (i + 1)) σ5 → ∃ n', n' < n + 1 ∧ Inv n' { s with heap := h5, toks := t5 } := fun q =>
      ⟨n, Nat.lt_succ_self _, i + 1, σ5, m5, ow5, h5, t5, o'', rfl, by omega, S5, stk, v5, q⟩
    cases r5 with
    | nxt => exact again q5
    | cont => exact again q5
    | brk => exact fin _ _ _ _ _ _ S5 v5 _ _ .nxt q5
    | ret r => exact fin _ _ _ _ _ _ S5 v5 _ _ (.ret r) q5
end
end Mine
end Part4
section Part5
open PySem PySem.W PySem.Calls
set_option maxRecDepth 100000
set_option autoImplicit false
set_option linter.unusedVariables false
namespace Mine
open PyProof.Rows (Fr News Top IsTup Below envOf envOfC)

def PV.simple : PV → Bool
  | .int _ => true
  | .cell _ => true
  | _ => false
def PV.flat : PV → Bool
  | .int _ => true
  | .bool _ => true
  | _ => false
inductive FlatRep : Value → PV → Prop
  | int (n : Int) (t : Tok) : FlatRep (.int n t) (.int n)
  | bool (b : Bool) : FlatRep (.bool b) (.bool b)

section
variable {G : Gl} {c : Cx} {σ : Sg}

theorem Rep.inj {H : Heap} {v : Value} {x y : PV} (h1 : Rep G H v x) (h2 : Rep G H v y) (hx : x.simple = true) (hy : y.simple = true) : x = y := by
  cases h1 <;> cases h2 <;> first | rfl | (cases hx; done) | (cases hy; done) | skip
  rename_i a1 d1 n1 t1 tk1 hs1 sz1 e1 e2 d2 n2 t2 tk2 hs2 sz2 e4 e3
  rw [e1] at e3
  cases e3
  rw [e2] at e4
  simp only [dictOf, Option.some.injEq, Obj.mk.injEq, Data.dict.injEq, List.toArray_eq_iff, List.cons.injEq, DictEntry.mk.injEq, Value.int.injEq] at e4
  simp at e4
  simp [e4]
theorem Rep.flatRep {H : Heap} {v : Value} {x : PV} (h : Rep G H v x) (hx : x.flat = true) : FlatRep v x := by
  cases h <;> first | exact .int _ _ | exact .bool _ | cases hx
theorem FlatRep.rep {H : Heap} {v : Value} {x : PV} (h : FlatRep v x) : Rep G H v x := by
  cases h <;> first | exact .int _ _ | exact .bool _

theorem repl_of_all {H : Heap} : ∀ {xs : List PV} {vs : List Value}, vs.length = xs.length → (∀ (j : Nat) v, vs[j]? = some v → ∃ y, xs[j]? = some y ∧ Rep G H v y) → RepL G H vs xs
  | [], [], _, _ => .nil
  | x :: xs, v :: vs, hl, h => by
    obtain ⟨y, e, r⟩ := h 0 v rfl
    cases e
    exact .cons r (repl_of_all (by simpa using hl) fun j v e => h (j + 1) v (by simpa using e))
  | [], _ :: _, hl, _ => by simp at hl
  | _ :: _, [], hl, _ => by simp at hl

theorem flat_filter {V : Heap} {b : PV → Bool} {f : PV → PV} {p : Value → Bool} {F : Value → Value → Prop} : ∀ {xs : List PV} {vs ys : List Value}, RepL G V vs xs →
    (∀ v y, y ∈ xs → Rep G V v y → p v = b y) → (∀ v y u, y ∈ xs → Rep G V v y → F v u → FlatRep u (f y)) → PySem.Paired F (vs.filter p) ys → ∀ H, RepL G H ys ((xs.filter b).map f)
  | _, _, _, .nil, _, _, hP, H => by cases hP; exact .nil
  | _, _, _, .cons (x := x) (xs := xs) r rs, hp, hF, hP, H => by
    rename_i v vs
    have e := hp v x (.head _) r
    have ih := fun {ys} h => flat_filter (ys := ys) rs (fun v y hy => hp v y (.tail _ hy)) (fun v y u hy => hF v y u (.tail _ hy)) h H
    by_cases q : b x = true
    · rw [List.filter_cons_of_pos (by rw [e]; exact q)] at hP
      rw [List.filter_cons_of_pos q]
      cases hP with
      | cons h1 h2 => exact .cons (hF v x _ (.head _) r h1).rep (ih h2)
    · rw [List.filter_cons_of_neg (by rw [e]; exact q)] at hP
      rw [List.filter_cons_of_neg q]
      exact ih hP

/-- the block of a comprehension -/
def compCx (c : Cx) (scope : Scope) (cl : List (Str × Addr)) (C : Addr) : Cx := { c with env := compEnvC scope cl C c.env }
def TestsAre (G : Gl) (c : Cx) (σ : Sg) : List Expr → Bool → Prop
  | [], b => b = true
  | [e], b => EvT G c σ e (fun r => r = b)
  | _, _ => False

structure CompOk (c : Cx) (scope : Scope) (cl : List (Str × Addr)) (x : Str) (fr : List Str) : Prop where
  clos : closureFor scope c.env = pure cl
  cell : (scope.names.all fun y => y.2 != .cell) = true
  kind : scope.kind = .function
  names : (scope.names.all fun y => y.2 != .local || decide (scope.names.lookup y.1 = some .local)) = true
  hx : scope.names.lookup x = some .local
  free : ∀ n ∈ fr, c.env.kindOf n = some .cell ∧ (relabel scope c.env).names.lookup n = some .cell ∧ cl.lookup n = c.env.cells.lookup n ∧ n ≠ x

open Classical in
theorem comp_core {elt : Expr} {x : Str} {ifs : List Expr} {scope : Scope} {cl : List (Str × Addr)} {fr : List Str} {v : Value} {src : PV} {xs : List PV} {b : PV → Bool} {f : PV → PV} {m : Str → Option Value} {ow al : Led} {s : Shared} {Q : Value → Shared → Prop}
    (ok : c.Ok G) (S : St G c σ m ow al s) (K : CompOk c scope cl x fr) (rx : Rep G (Vw c (ow ++ al) s.heap) v src) (hi : Items src xs) (hlen : xs.length ≤ 1000) (hs : ∀ y ∈ xs, y.simple = true) (hf : ∀ y ∈ xs, (f y).flat = true)
    (ht : ∀ C, ∀ y ∈ xs, TestsAre G (compCx c scope cl C) ((x, y) :: fr.filterMap fun n => (σ.lookup n).map fun z => (n, z)) ifs (b y))
    (he : ∀ C, ∀ y ∈ xs, b y = true → Ev G (compCx c scope cl C) ((x, y) :: fr.filterMap fun n => (σ.lookup n).map fun z => (n, z)) elt (fun r => r = f y))
    (hQ : ∀ (I : Addr) (fp wr : List Addr) (n : Nat) (P : Nat → Value → Prop) (St' : Nat → Heap → Prop) (p : Value → Bool) (F : Value → Value → Prop) (s₂ : Shared), s₂ = { s with heap := s₂.heap } → s.heap.StaysIn s₂.heap → I = s.heap.objs.size → wr = [I] → Walks G.prog G.w c.A I fp wr n P St' → n ≤ sizeLine → St' 0 s₂.heap →
      (∀ b ∈ fp, b < s₂.heap.objs.size) → QuietOnC G.prog G.w c.A c.env scope cl x ifs elt wr P p F s₂ →
      (∀ (ys : Array Value) (vs : List Value), vs.length = n → (∀ j v, vs[j]? = some v → P j v) → PySem.Paired F (vs.filter p) ys.toList → ∀ H, RepL G H ys.toList ((xs.filter b).map f)) → Q (.ref I) s₂) :
    wpAny G.M c.A (pyIter v) Q Bot s := by
  let V := Vw c (ow ++ al) s.heap
  refine iter_src ok.hh vw_sub rx hi (fun o fp P St' hof W st0 hfp hob hP => ?_)
  have W' := W.bound
  let p : Value → Bool := fun u => decide (∃ y ∈ xs, Rep G V u y ∧ b y = true)
  let F : Value → Value → Prop := fun u r => ∃ y ∈ xs, Rep G V u y ∧ FlatRep r (f y)
  have hp : ∀ u y, y ∈ xs → Rep G V u y → p u = b y := fun u y hy r => by
    cases hb : b y with
    | true => exact decide_eq_true ⟨y, hy, r, hb⟩
    | false =>
      refine decide_eq_false ?_
      rintro ⟨z, hz, rz, hbz⟩
      rw [Rep.inj r rz (hs _ hy) (hs _ hz)] at hb
      rw [hb] at hbz; cases hbz
  have k0 : s.heap.StaysIn (s.heap.push o) := stays_push _ _
  have inner : ∀ (C : Addr) (u : Value) (y : PV) (s₃ : Shared) (m₃ : Str → Option Value), (s.heap.push o).objs.size ≤ C → Rep G V u y → s₃.heap.Ns C m₃ → m₃ x = some u → (∀ b q, b ∉ [s.heap.objs.size] → (s.heap.push o).get? b = some q → s₃.heap.get? b = some q) →
      (compCx c scope cl C).Ok G ∧ ∃ oC, St G (compCx c scope cl C) ((x, y) :: fr.filterMap fun n => (σ.lookup n).map fun z => (n, z)) m ((C, oC) :: ow) al s₃ := by
    intro C u y s₃ m₃ hC ru hn hm hk
    have hsz : (s.heap.push o).objs.size = s.heap.objs.size + 1 := Heap.size_push ..
    have old : s.heap.StaysIn s₃.heap := fun b q e => hk b q (by simpa using Nat.ne_of_lt (Heap.lt_size e)) (k0 _ _ e)
    have hCs : @LT.lt Nat _ s.heap.objs.size C := Nat.lt_of_lt_of_le (by rw [hsz]; exact Nat.lt_succ_self _) hC
    have hCn : s.heap.get? C = none := by
      cases q : s.heap.get? C with
      | none => rfl
      | some o' => exact absurd (Nat.lt_trans (Heap.lt_size q) hCs) (Nat.lt_irrefl _)
    obtain ⟨oC, es, ep, hoC, hdC, hkC, hfC⟩ := hn
    refine ⟨⟨ok.hh, ok.K, ok.T, by show (relabel scope c.env).kind = _; exact K.kind, ok.eg, ok.eb, ok.hsome, ok.hK⟩, oC, ⟨fr_grow S.F old, fun q hq => ?_, ?_, fun z pv e => ?_⟩⟩
    · rcases List.mem_cons.mp hq with rfl | hq
      · refine ⟨hoC, fun e => ?_, ?_⟩
        · obtain ⟨oL, _, _, hL, _⟩ := S.F.ns
          have e : C = c.L := e
          rw [e, hL] at hCn; cases hCn
        · show c.g0.get? C = none
          cases q : c.g0.get? C with
          | none => rfl
          | some o' => rw [S.F.keep _ _ q] at hCn; cases hCn
      · exact ⟨old _ _ (S.N q hq).1, (S.N q hq).2⟩
    · show (C :: (ow ++ al).map (·.1)).Nodup
      rw [List.nodup_cons]
      refine ⟨fun hm => ?_, S.nd⟩
      obtain ⟨q, hq, e⟩ := List.mem_map.mp hm
      have := (S.N q hq).1
      rw [e, hCn] at this; cases this
    · have hview : V.StaysIn (Vw (compCx c scope cl C) ((C, oC) :: ow ++ al) s₃.heap) := fun a q e => by
        have e' := mem_vw.mp e
        refine mem_vw.mpr ⟨old _ _ e'.1, fun hm => e'.2 ?_⟩
        rcases List.mem_append.mp hm with h | h
        · exact List.mem_append_left _ h
        · refine List.mem_append_right _ ?_
          rcases List.mem_cons.mp h with h | h
          · exact h ▸ .head _
          · refine .tail _ ?_
            rcases List.mem_cons.mp h with h | h
            · have e'' : a = C := h
              rw [e'', hCn] at e'; cases e'.1
            · exact h
      simp only [List.lookup] at e
      split at e
      · rename_i hz
        obtain rfl := beq_iff_eq.mp hz
        cases e
        exact ⟨u, .locC (lookup_relabel_local K.hx) (.head _) ⟨es, ep, hdC, hkC, hfC⟩ hm, .rep (ru.keeps hview)⟩
      · have hmem : (z, pv) ∈ fr.filterMap fun n => (σ.lookup n).map fun z => (n, z) := mem_lookup e
        obtain ⟨n, hn', e2⟩ := List.mem_filterMap.mp hmem
        obtain ⟨z', hz', e3⟩ := Option.map_eq_some_iff.mp e2
        obtain ⟨e4, e5⟩ := Prod.mk.inj e3
        subst e4 e5
        obtain ⟨g1, g2, g3, g4⟩ := K.free _ hn'
        obtain ⟨w', hw', rw'⟩ := S.vars _ _ hz'
        cases hw' with
        | loc a b d => rw [g1] at a; cases a
        | locC a b d e => rw [g1] at a; cases a
        | free a b d e f => rw [g1] at a; cases a
        | cel a b d e =>
          refine ⟨w', .cel g2 (g3.trans b) (.tail _ d) e, ?_⟩
          cases rw' with
          | rep r => exact .rep (r.keeps hview)
          | mlst a b d r => exact .mlst (.tail _ a) b d (r.keeps hview)
  refine hQ _ _ _ _ _ _ p F { s with heap := s.heap.push o } rfl k0 rfl rfl W' (Nat.le_trans hlen (by decide)) st0 ?_ ⟨?_, ?_⟩ ?_
  · intro a ha
    show @LT.lt Nat _ a (s.heap.push o).objs.size
    rw [Heap.size_push]
    rcases hfp a ha with rfl | ⟨q, hq⟩
    · exact Nat.lt_succ_self _
    · exact Nat.lt_succ_of_lt (Heap.lt_size (mem_vw.mp hq).1)
  · intro C i u s₃ m₃ E' hC hPu hn hm hk htk
    obtain ⟨y, hy, ry⟩ := hP i u hPu.1 hPu.2
    have hyx : y ∈ xs := List.mem_of_getElem? hy
    obtain ⟨ok', oC, S'⟩ := inner C u y s₃ m₃ hC ry hn hm hk
    have h1 := ht C y hyx
    rw [hp u y hyx ry]
    match ifs, h1 with
    | [], h1 => exact wpAny_pure ⟨h1.symm, s₃.heap, s₃.toks, rfl, stays_refl _⟩
    | [e], h1 =>
      show wpAny _ _ (forIn [e] true _) _ _ _
      simp only [List.forIn_cons, List.forIn_nil, if_true]
      refine wpAny_bind (wpAny_bind (wpAny_mono (h1 m _ al s₃ ok' S') (fun r s4 hp4 => ?_) (fun _ _ z => z.elim)))
      obtain ⟨h4, t4, rfl, k4, q4⟩ := hp4
      exact wpAny_pure (wpAny_pure ⟨q4, h4, t4, rfl, k4⟩)
    | _ :: _ :: _, h1 => exact h1.elim
  · intro C i u s₃ m₃ E' hC hPu hpu hn hm hk htk
    obtain ⟨y, hy, ry⟩ := hP i u hPu.1 hPu.2
    have hyx : y ∈ xs := List.mem_of_getElem? hy
    obtain ⟨ok', oC, S'⟩ := inner C u y s₃ m₃ hC ry hn hm hk
    rw [hp u y hyx ry] at hpu
    refine wpAny_mono (he C y hyx hpu m _ al s₃ ok' S') (fun r s4 hp4 => ?_) (fun _ _ z => z.elim)
    obtain ⟨h4, t4, rfl, k4, pv, r4, q4⟩ := hp4
    subst q4
    exact ⟨⟨y, hyx, ry, r4.flatRep (hf y hyx)⟩, h4, t4, rfl, k4⟩
  · intro ys vs hl hv hPa H
    refine flat_filter (p := p) (F := F) (V := V) (repl_of_all hl fun j u e => hP j u (hv j u e).1 (hv j u e).2) hp (fun u y r hy ru hF => ?_) hPa H
    obtain ⟨z, hz, rz, fz⟩ := hF
    rw [Rep.inj ru rz (hs _ hy) (hs _ hz)]; exact fz

theorem ev_ListComp {elt iter : Expr} {x : Str} {px : Pos} {ifs : List Expr} {scope : Scope} {pos : Pos} {cl : List (Str × Addr)} {Q : PV → Prop} (fr : List Str) (b : PV → Bool) (f : PV → PV) (K : CompOk c scope cl x fr)
    (h : Ev G c σ iter (fun src => ∃ xs, Items src xs ∧ xs.length ≤ 1000 ∧ (∀ y ∈ xs, y.simple = true) ∧ (∀ y ∈ xs, (f y).flat = true) ∧
      (∀ C, ∀ y ∈ xs, TestsAre G (compCx c scope cl C) ((x, y) :: fr.filterMap fun n => (σ.lookup n).map fun z => (n, z)) ifs (b y)) ∧
      (∀ C, ∀ y ∈ xs, b y = true → Ev G (compCx c scope cl C) ((x, y) :: fr.filterMap fun n => (σ.lookup n).map fun z => (n, z)) elt (fun r => r = f y)) ∧ Q (.lst ((xs.filter b).map f))))
    (hs : ∀ x, foldedSetIterable iter c.env x = pure x := by intro _; rfl) : Ev G c σ (.ListComp elt [⟨.Name x px, iter, ifs, 0⟩] scope pos) Q := by
  intro m ow al s ok S
  rw [eval_ListComp]
  have hn : ∀ y ∈ scope.names, y.2 = .local → scope.names.lookup y.1 = some .local := fun y hy e => by
    have := List.all_eq_true.mp K.names y hy
    simpa [e] using this
  have hc : ∀ y ∈ scope.names, y.2 ≠ .cell := fun y hy => by simpa using List.all_eq_true.mp K.cell y hy
  refine wpAny_comprehension_free (use := none) rfl hs K.clos K.kind hn (wpAny_mono (h m ow al s ok S) (fun v s1 hp => ?_) bot_elim)
  obtain ⟨h1, t1, rfl, k1, src, rsrc, xs, hi, hlen, hsim, hfl, ht, he, hQ⟩ := hp
  refine comp_core ok (S.grow (tk := t1) k1) K rsrc hi hlen hsim hfl ht he (fun I fp wr n P St' p F s₂ es k2 hI hwr W hsz hst hfp hq hend => ?_)
  rw [es] at hst hfp hq ⊢
  refine comp_block_walkC (RR := fun acc C => compPost G.M c.A Bot none _ acc C) W hsz p F hc K.kind K.hx hst hfp hq ?_
  intro D C h' tk m' ys vs hD hC hDC hnC hlD hplD hl hP hF hk
  refine ⟨m', hnC, fun h'' hs'' => ?_⟩
  have hkeep : s.heap.StaysIn h'' := fun a q e => by
    have e1 := k2 _ _ (k1 _ _ e)
    refine hs''.extBut a q (fun hx => ?_) (hk a q (fun hm => ?_) e1)
    · subst hx; dsimp only at hC; rw [hC] at e1; cases e1
    · rw [hwr] at hm
      have : a = I := List.mem_singleton.mp hm
      rw [this, hI] at e
      exact absurd (Heap.lt_size (k1 _ _ e)) (Nat.lt_irrefl _)
  refine ⟨h'', _, rfl, hkeep, _, .lst ?_ (hend ys vs hl hP hF _), hQ⟩
  obtain ⟨o, ho, r⟩ := hlD.extBut hs''.extBut hDC
  refine ⟨o, mem_vw.mpr ⟨ho, fun hm => ?_⟩, r⟩
  obtain ⟨q, hq⟩ := S.hsome ok D hm
  dsimp only at hD
  rw [k2 _ _ (k1 _ _ hq)] at hD; cases hD

/-- y = [.. for x in ..]: the store is made within -/
theorem ex_assign_comp {elt iter : Expr} {x y : Str} {px py : Pos} {ifs : List Expr} {scope : Scope} {pos spos : Pos} {cl : List (Str × Addr)} {Q : Fl → Sg → Prop} (fr : List Str) (b : PV → Bool) (f : PV → PV) (K : CompOk c scope cl x fr)
    (hk : c.env.kindOf y = some .local) (hl : c.env.locals = c.L)
    (hsw : swapsWith (.ListComp elt [⟨.Name x px, iter, ifs, 0⟩] scope pos) (some (.Name y py)) spos.line c.env = pure true)
    (h : Ev G c σ iter (fun src => ∃ xs, Items src xs ∧ xs.length ≤ 1000 ∧ (∀ y ∈ xs, y.simple = true) ∧ (∀ y ∈ xs, (f y).flat = true) ∧
      (∀ C, ∀ y ∈ xs, TestsAre G (compCx c scope cl C) ((x, y) :: fr.filterMap fun n => (σ.lookup n).map fun z => (n, z)) ifs (b y)) ∧
      (∀ C, ∀ y ∈ xs, b y = true → Ev G (compCx c scope cl C) ((x, y) :: fr.filterMap fun n => (σ.lookup n).map fun z => (n, z)) elt (fun r => r = f y)) ∧ Q .nxt (upd σ y (.lst ((xs.filter b).map f)))))
    (hs : ∀ x, foldedSetIterable iter c.env x = pure x := by intro _; rfl) : Ex1 G c σ (.Assign [.Name y py] (.ListComp elt [⟨.Name x px, iter, ifs, 0⟩] scope pos) spos) Q := by
  intro m ow al s ok S
  have hn : ∀ y ∈ scope.names, y.2 = .local → scope.names.lookup y.1 = some .local := fun y hy e => by
    have := List.all_eq_true.mp K.names y hy
    simpa [e] using this
  have hc : ∀ y ∈ scope.names, y.2 ≠ .cell := fun y hy => by simpa using List.all_eq_true.mp K.cell y hy
  rw [exec_Assign_Name_used _ _ _ _ hsw]
  refine wpAny_bind (wpAny_standAt (wpAny_bind ?_))
  show wpAny _ c.A (do let _ ← comprehension (.ListComp elt [⟨.Name x px, iter, ifs, 0⟩] scope pos) scope c.env _ (newList []) false (eval iter c.env) (some (assign (.Name y py) c.env))) _ _ s
  refine wpAny_bind (wpAny_mono (wpAny_comprehension_free (use := some (assign (.Name y py) c.env)) (Q := fun _ s' => ExPost G c al (ow ++ al) s Q .next s') rfl hs K.clos K.kind hn
    (wpAny_mono (h m ow al s ok S) (fun v s1 hp => ?_) bot_elim)) (fun _ s' hq => wpAny_pure (wpAny_pure hq)) bot_elim)
  obtain ⟨h1, t1, rfl, k1, src, rsrc, xs, hi, hlen, hsim, hfl, ht, he, hQ⟩ := hp
  refine comp_core ok (S.grow (tk := t1) k1) K rsrc hi hlen hsim hfl ht he (fun I fp wr n P St' p F s₂ es k2 hI hwr W hsz hst hfp hq hend => ?_)
  rw [es] at hst hfp hq ⊢
  refine comp_block_walkC (RR := fun acc C => compPost G.M c.A Bot (some (assign (.Name y py) c.env)) _ acc C) W hsz p F hc K.kind K.hx hst hfp hq ?_
  intro D C h' tk m' ys vs hD hC hDC hnC hlD hplD hlv hP hF hk'
  dsimp only at hD hC
  have hkeep : s.heap.StaysIn h' := fun a q e => by
    have e1 := k2 _ _ (k1 _ _ e)
    refine hk' a q (fun hm => ?_) e1
    rw [hwr] at hm
    have : a = I := List.mem_singleton.mp hm
    rw [this, hI] at e
    exact absurd (Heap.lt_size (k1 _ _ e)) (Nat.lt_irrefl _)
  have S' := S.grow (tk := tk) hkeep
  have hDvis : D ∉ c.hid ++ c.L :: (ow ++ al).map (·.1) := fun hm => by
    obtain ⟨q, hq⟩ := S.hsome ok D hm
    rw [k2 _ _ (k1 _ _ hq)] at hD; cases hD
  have hCvis : C ∉ c.hid ++ c.L :: (ow ++ al).map (·.1) := fun hm => by
    obtain ⟨q, hq⟩ := S.hsome ok C hm
    rw [k2 _ _ (k1 _ _ hq)] at hC; cases hC
  have rD : Rep G (Vw c (ow ++ al) h') (.ref D) (.lst ((xs.filter b).map f)) := by
    obtain ⟨o, ho, r⟩ := hlD
    exact .lst ⟨o, mem_vw.mpr ⟨ho, hDvis⟩, r⟩ (hend ys vs hlv hP hF _)
  show wpAny _ c.A (assign (.Name y py) c.env (.ref D)) _ _ _
  refine wpAny_assign_Name (wpAny_storeName_local hk (hl ▸ S'.F.ns) (fun h₂ hn₂ hs₂ => ?_) (by rw [ok.ek]; rfl))
  rw [hl] at hn₂ hs₂
  have hLC : C ≠ c.L := fun e => hCvis (by rw [e]; simp)
  refine ⟨m', hnC.sameBut hs₂ hLC, fun h₃ hs₃ => ?_⟩
  -- what the store leaves, and then the block's names let go
  have hne3 : ∀ a o, s.heap.get? a = some o → a ≠ C := fun a o e hx => by
    have := k2 _ _ (k1 _ _ e)
    rw [hx, hC] at this; cases this
  have oL := S.F.ns
  have k2' := vw_same (c := c) (mu := ow ++ al) (mu' := ow ++ al) (h := h') (h' := h₂) hs₂ (List.mem_append_right _ (.head _)) rfl
  have hDC' : D ≠ C := hDC
  have N' : News c.g0 c.L h₃ (ow ++ al) := fun p hp => by
    have := S'.N p hp
    refine ⟨hs₃.extBut _ _ (hne3 _ _ (S.N p hp).1) ((hs₂.2 p.1 this.2.1).trans this.1), this.2⟩
  have F' : Fr c.g0 c.L h₃ (fun z => if z = y then some (.ref D) else m z) := by
    refine ⟨hn₂.sameBut hs₃ (Ne.symm hLC), fun a o e => ?_, S.F.above⟩
    have hs1 := S.F.keep a o e
    exact hs₃.extBut a o (hne3 _ _ hs1) ((hs₂.2 a (fun q => by
      have := S.F.above
      exact absurd (Nat.lt_of_lt_of_le (Heap.lt_size e) this) (by rw [q]; exact Nat.lt_irrefl _))).trans (hkeep _ _ hs1))
  have hvw : (Vw c (ow ++ al) s.heap).StaysIn (Vw c (ow ++ al) h₃) := fun a o e => by
    have e' := mem_vw.mp e
    exact mem_vw.mpr ⟨hs₃.extBut a o (hne3 _ _ e'.1) ((hs₂.2 a (fun q => e'.2 (by rw [q]; simp))).trans (hkeep _ _ e'.1)), e'.2⟩
  have rD3 : Rep G (Vw c (ow ++ al) h₃) (.ref D) (.lst ((xs.filter b).map f)) := by
    obtain ⟨o, ho, r⟩ := hlD
    exact .lst ⟨o, mem_vw.mpr ⟨hs₃.extBut _ _ hDC' ((hs₂.2 D (fun q => hDvis (by rw [q]; simp))).trans ho), hDvis⟩, r⟩ (hend ys vs hlv hP hF _)
  refine ⟨h₃, _, _, ow, upd σ y (.lst ((xs.filter b).map f)), .nxt, rfl, hvw, ⟨F', N', S.nd, fun z pv e => ?_⟩, .nxt, hQ⟩
  rw [lookup_upd] at e
  split at e
  · rename_i hz
    obtain rfl := beq_iff_eq.mp hz
    cases e
    exact ⟨_, .loc hk hl (by simp), .rep rD3⟩
  · rename_i hz
    obtain ⟨u, hu, ru⟩ := S.vars z pv e
    refine ⟨u, ?_, ru.keeps hvw⟩
    have hne : z ≠ y := fun q => hz (by rw [q]; simp)
    cases hu with
    | loc a b d => exact .loc a b (by simp [hne, d])
    | locC a ho hn' d => exact absurd hl (S.N _ (List.mem_append_left _ ho)).2.1
    | cel a b d e => exact .cel a b d e
    | free a b d e f => exact .free a b d e f
end
end Mine
end Part5
section Part6
open PySem PySem.W PySem.Calls
set_option maxRecDepth 100000
set_option autoImplicit false
set_option linter.unusedVariables false
namespace Mine
open PyProof.Rows (Fr News Top IsTup Below envOf envOfC)

section
variable {G : Gl} {c : Cx} {σ : Sg}

theorem seq_nxt {rest : List Stmt} {Q : Fl → Sg → Prop} (h : Ex G c σ rest Q) : seqQ G c rest Q .nxt σ := h
theorem seq_ret {rest : List Stmt} {x : PV} {Q : Fl → Sg → Prop} (h : Q (.ret x) σ) : seqQ G c rest Q (.ret x) σ := h
theorem seq_brk {rest : List Stmt} {Q : Fl → Sg → Prop} (h : Q .brk σ) : seqQ G c rest Q .brk σ := h
theorem body_ret {x : PV} {Q : PV → Prop} (h : Q x) : bodyQ Q (.ret x) σ := h
theorem body_nxt {Q : PV → Prop} (h : Q .none) : bodyQ Q .nxt σ := h
theorem for_nxt {k : Sg → Prop} {Q : Fl → Sg → Prop} (h : k σ) : forStep Q k .nxt σ := h
theorem for_ret {k : Sg → Prop} {Q : Fl → Sg → Prop} {x : PV} (h : Q (.ret x) σ) : forStep Q k (.ret x) σ := h
theorem forL_nil {tgt : Expr} {body : List Stmt} {Q : Fl → Sg → Prop} (h : Q .nxt σ) : ForL G c tgt body Q [] σ := h
theorem forL_cons {y : Str} {p : Pos} {body : List Stmt} {x : PV} {xs : List PV} {Q : Fl → Sg → Prop} (hk : c.env.kindOf y = some .local) (hl : c.env.locals = c.L)
    (h : Ex G c (upd σ y x) body (forStep Q (ForL G c (.Name y p) body Q xs))) : ForL G c (.Name y p) body Q (x :: xs) σ := as_name hk hl h
theorem ite_t {b : Bool} {A B : Prop} (hb : b = true) (h : A) : if b = true then A else B := by rw [if_pos hb]; exact h
theorem ite_f {b : Bool} {A B : Prop} (hb : b = false) (h : B) : if b = true then A else B := by rw [if_neg (by rw [hb]; decide)]; exact h
theorem and_tt {P : Prop} (h : P) : true = true ∧ P := ⟨rfl, h⟩
theorem asAll_cons {y : Str} {p : Pos} {es : List Expr} {x : PV} {xs : List PV} {Q : Sg → Prop} {ts : List (Value → Sem Unit)} (hk : c.env.kindOf y = some .local) (hl : c.env.locals = c.L)
    (h : AsAll G c ts xs Q (upd σ y x)) : AsAll G c (assign (.Name y p) c.env :: ts) (x :: xs) Q σ := as_name hk hl h
theorem asAll_nil {Q : Sg → Prop} (h : Q σ) : AsAll G c [] [] Q σ := h
theorem q_cell {Q : PV → Prop} {a b : Int} (e : a = b) (h : Q (.cell b)) : Q (.cell a) := e ▸ h
theorem q_int {Q : PV → Prop} {a b : Int} (e : a = b) (h : Q (.int b)) : Q (.int a) := e ▸ h
theorem q_bool {Q : PV → Prop} {a b : Bool} (e : a = b) (h : Q (.bool b)) : Q (.bool a) := e ▸ h

/-! a name that is a cell -/
theorem store_cell {m : Str → Option Value} {ow al : Led} {s : Shared} {y : Str} {a : Addr} {v : Value} {x : PV} {Q : Sg → Prop} (hk : c.env.kindOf y = some .cell) (ha : c.env.cells.lookup y = some a) (hinj : ∀ z, c.env.cells.lookup z = some a → z = y)
    (ho : ∃ o v₀, (a, o) ∈ ow ∧ o.data = .cell v₀) (ok : c.Ok G) (S : St G c σ m ow al s)
    (r : Rep G (Vw c (ow ++ al) s.heap) v x) (q : Q (upd σ y x)) : wpAny G.M c.A (storeName c.env y v) (fun _ s' => ∃ ow', ow'.map (·.1) = ow.map (·.1) ∧ (∀ b o, (b, o) ∈ ow → (∃ v₀, o.data = .cell v₀) → ∃ o' v₀, (b, o') ∈ ow' ∧ o'.data = .cell v₀) ∧
      ∃ h' tk, s' = { s with heap := h', toks := tk } ∧ (Vw c (ow ++ al) s.heap).StaysIn (Vw c (ow' ++ al) h') ∧ St G c (upd σ y x) m ow' al s' ∧ Q (upd σ y x)) Bot s := by
  obtain ⟨o, v₀, hao, hd⟩ := ho
  have hN := S.N (a, o) (List.mem_append_left _ hao)
  refine wpAny_storeName_cell ok.ek hk ha ⟨o, hN.1, hd⟩ fun h' hv hs => ?_
  obtain ⟨o', ho', hd'⟩ := hv
  let ow' : Led := ow.map fun p => if p.1 = a then (a, o') else p
  have hmap : ow'.map (·.1) = ow.map (·.1) := by
    simp only [ow', List.map_map]
    refine List.map_congr_left fun p hp => ?_
    show (if p.1 = a then (a, o') else p).1 = p.1
    split
    · rename_i e; exact e.symm
    · rfl
  have hmap2 : (ow' ++ al).map (·.1) = (ow ++ al).map (·.1) := by rw [List.map_append, List.map_append, hmap]
  have mem' : ∀ p ∈ ow', p = (a, o') ∨ (p ∈ ow ∧ p.1 ≠ a) := fun p hp => by
    obtain ⟨q, hq, rfl⟩ := List.mem_map.mp hp
    by_cases e : q.1 = a
    · left; simp [e]
    · right; simp [e, hq]
  have hne : ∀ p ∈ al, p.1 ≠ a := fun p hp e => by
    have nd := S.nd
    rw [List.map_append, List.nodup_append] at nd
    exact nd.2.2 a (List.mem_map.mpr ⟨_, hao, rfl⟩) p.1 (List.mem_map_of_mem hp) e.symm
  have hview := vw_same (c := c) (mu := ow ++ al) (mu' := ow' ++ al) hs (List.mem_append_right _ (.tail _ (List.mem_map.mpr ⟨_, List.mem_append_left _ hao, rfl⟩))) hmap2
  refine ⟨ow', hmap, ?_, h', s.toks, rfl, hview, ?_, q⟩
  · intro b ob hb ⟨w, hw⟩
    by_cases e : b = a
    · exact ⟨o', some v, List.mem_map.mpr ⟨_, hb, by simp [e]⟩, hd'⟩
    · exact ⟨ob, w, List.mem_map.mpr ⟨_, hb, by simp [e]⟩, hw⟩
  · refine ⟨⟨S.F.ns.sameBut hs (Ne.symm hN.2.1), fun b ob e => (hs.2 b (fun q => ?_)).trans (S.F.keep b ob e), S.F.above⟩, fun p hp => ?_, by rw [hmap2]; exact S.nd, fun z pv e => ?_⟩
    · have h3 := hN.2.2
      rw [← show b = a from q, e] at h3; cases h3
    · rcases List.mem_append.mp hp with hp | hp
      · rcases mem' p hp with rfl | ⟨hp, hpa⟩
        · exact ⟨ho', hN.2⟩
        · have := S.N p (List.mem_append_left _ hp)
          exact ⟨(hs.2 _ hpa).trans this.1, this.2⟩
      · have := S.N p (List.mem_append_right _ hp)
        exact ⟨(hs.2 _ (hne p hp)).trans this.1, this.2⟩
    · rw [lookup_upd] at e
      split at e
      · rename_i hz
        obtain rfl := beq_iff_eq.mp hz
        cases e
        exact ⟨v, .cel hk ha (List.mem_map.mpr ⟨_, hao, by simp⟩) hd', .rep (r.keeps hview)⟩
      · rename_i hz
        obtain ⟨u, hu, ru⟩ := S.vars z pv e
        have hne' : z ≠ y := fun q => hz (by rw [q]; simp)
        have lst : ∀ p ∈ ow, p.2.cls = .type "list" → p.1 ≠ a → p ∈ ow' := fun p hp _ hpa => List.mem_map.mpr ⟨p, hp, by simp [hpa]⟩
        refine ⟨u, ?_, ?_⟩
        · cases hu with
          | loc a1 b1 d1 => exact .loc a1 b1 d1
          | locC a1 b1 d1 e1 =>
            rename_i o1 m1
            refine .locC (o := o1) a1 (List.mem_map.mpr ⟨_, b1, ?_⟩) d1 e1
            have : c.env.locals ≠ a := fun e => by
              have := S.N _ (List.mem_append_left _ b1)
              rw [show (c.env.locals, o1).1 = a from e, hN.1] at this
              obtain ⟨es, ep, hde, _⟩ := d1
              have h1 := this.1
              simp only [Option.some.injEq] at h1
              rw [← h1, hd] at hde; cases hde
            simp [this]
          | cel a1 b1 d1 e1 =>
            rename_i a2 o2
            refine .cel a1 b1 (List.mem_map.mpr ⟨_, d1, ?_⟩) e1
            have : a2 ≠ a := fun e => hne' (hinj z (e ▸ b1))
            simp [this]
          | free a1 b1 d1 e1 f1 =>
            rename_i a2 o2
            refine .free a1 b1 (List.mem_map.mpr ⟨_, d1, ?_⟩) e1 f1
            have : a2 ≠ a := fun e => hne' (hinj z (e ▸ b1))
            simp [this]
        · cases ru with
          | rep r1 => exact .rep (r1.keeps hview)
          | mlst a1 b1 d1 r1 =>
            rename_i a2 o2 vs2 n2 xs2
            refine .mlst (lst _ a1 b1 fun e => ?_) b1 d1 (r1.keeps hview)
            have h2 := (S.N _ (List.mem_append_left _ a1)).1
            rw [show (a2, o2).1 = a from e, hN.1] at h2
            simp only [Option.some.injEq] at h2
            have d2 := d1.2; rw [← h2, hd] at d2; cases d2

/-- names whose values are as they were -/
theorem St.same {m : Str → Option Value} {ow al : Led} {s : Shared} {σ' : Sg} (S : St G c σ m ow al s) (h : ∀ z pv, σ'.lookup z = some pv → σ.lookup z = some pv) : St G c σ' m ow al s :=
  ⟨S.F, S.N, S.nd, fun x pv e => S.vars x pv (h x pv e)⟩
/-- if test: y += n, as one way -/
theorem ex_if_add {test : Expr} {y : Str} {p apos cpos pos : Pos} {k : Nat} {n l : Int} {Q : Fl → Sg → Prop} (hx : σ.lookup y = some (.int l)) (hk : c.env.kindOf y = some .local) (hl : c.env.locals = c.L)
    (h : EvT G c σ test (fun b => Q .nxt (upd σ y (.int (l + if b = true then n else 0))))) : Ex1 G c σ (.If test [.AugAssign (.Name y p) .Add (.Constant (.int n) k cpos) apos] [] pos) Q := by
  refine ex_if ?_
  intro m ow al s ok S
  refine wpAny_mono (h m ow al s ok S) (fun b s1 hp => ?_) bot_elim
  obtain ⟨h1, t1, rfl, k1, q1⟩ := hp
  refine ⟨h1, t1, rfl, k1, ?_⟩
  cases b with
  | true => exact ex_cons (ex_aug hx rfl (ev_int (iop_add (ex_nil q1))) hk hl)
  | false =>
    simp only [Bool.false_eq_true, if_false, Int.add_zero] at q1 ⊢
    intro m ow al s ok S
    have S' := S.same (σ' := upd σ y (.int l)) (fun z pv e => by
      rw [lookup_upd] at e
      split at e
      · rename_i hz
        rw [beq_iff_eq.mp hz, hx]; exact e
      · exact e)
    exact wpAny_execs_nil ⟨s.heap, s.toks, m, ow, _, .nxt, rfl, stays_refl _, S', .nxt, q1⟩

theorem shl_fits {a n : Int} (ha : a.natAbs < 2 ^ 100) (h0 : 0 ≤ n) (hn : n ≤ 1000) : (Builtin.Int.intBits a : Int) + n ≤ 2 ^ 27 := by
  have : Builtin.Int.intBits a ≤ 101 := by
    unfold Builtin.Int.intBits
    split
    · omega
    · have h0 : a.natAbs ≠ 0 := by rename_i q; intro e; apply q; simp at e; simp [e]
      have := (Nat.log2_lt h0).mpr ha
      omega
  omega
theorem mul_ok_l {a b : Int} (ha : a.natAbs < 2 ^ 64) : IntMulOk a b := IntMulOk.of_left (by
  unfold Builtin.Int.intBits
  split
  · omega
  · have h0 : a.natAbs ≠ 0 := by rename_i q; intro e; apply q; simp at e; simp [e]
    have := (Nat.log2_lt h0).mpr ha
    omega)
theorem mul_ok_r {a b : Int} (ha : b.natAbs < 2 ^ 64) : IntMulOk a b := IntMulOk.of_right (by
  unfold Builtin.Int.intBits
  split
  · omega
  · have h0 : b.natAbs ≠ 0 := by rename_i q; intro e; apply q; simp at e; simp [e]
    have := (Nat.log2_lt h0).mpr ha
    omega)
end
end Mine
end Part6
section Part7
open PySem
set_option maxRecDepth 100000
set_option autoImplicit false
set_option linter.unusedVariables false
namespace Mine
open Builtin (bitAnd bitOr bitXor bitNot)

theorem and_nat (a b : Nat) : bitAnd (a : Int) (b : Int) = ((a &&& b : Nat) : Int) := by
  unfold bitAnd
  have h1 : decide ((0 : Int) ≤ a) = true := decide_eq_true (by omega)
  have h2 : decide ((0 : Int) ≤ b) = true := decide_eq_true (by omega)
  rw [h1, h2]
  simp
theorem and_negNat (a b : Nat) (hb : 0 < b) : bitAnd (a : Int) (-(b : Int)) = (a : Int) - ((a &&& (b - 1) : Nat) : Int) := by
  unfold bitAnd
  have h1 : decide ((0 : Int) ≤ a) = true := decide_eq_true (by omega)
  have h2 : decide ((0 : Int) ≤ -(b : Int)) = false := decide_eq_false (by omega)
  rw [h1, h2]
  have : bitNot (-(b : Int)) = ((b - 1 : Nat) : Int) := by unfold bitNot; omega
  simp [this]
theorem or_nat (a b : Nat) : bitOr (a : Int) (b : Int) = ((a ||| b : Nat) : Int) := by
  have e : ∀ x : Nat, bitNot (x : Int) = -(x : Int) - 1 := fun _ => rfl
  have e2 : ∀ x : Nat, bitNot (-(x : Int) - 1) = (x : Int) := fun x => by unfold bitNot; omega
  unfold bitOr
  rw [e, e]
  unfold bitAnd
  have h1 : decide ((0 : Int) ≤ -(a : Int) - 1) = false := decide_eq_false (by omega)
  have h2 : decide ((0 : Int) ≤ -(b : Int) - 1) = false := decide_eq_false (by omega)
  rw [h1, h2]
  simp only [e2, Int.toNat_natCast]
  rw [e, e2]
theorem or_eq_xor_add_and : ∀ (a b : Nat), (a ||| b) = (a ^^^ b) + (a &&& b) := by
  intro a
  induction a using Nat.strongRecOn with
  | ind a ih =>
    intro b
    by_cases ha : a = 0
    · subst ha; simp
    · have h := ih (a / 2) (by omega) (b / 2)
      have o2 := Nat.or_div_two (a := a) (b := b)
      have x2 := Nat.xor_div_two (a := a) (b := b)
      have a2 := Nat.and_div_two (a := a) (b := b)
      have om := Nat.or_mod_two_eq_one (a := a) (b := b)
      have xm := Nat.xor_mod_two_eq_one (a := a) (b := b)
      have am := Nat.and_mod_two_eq_one (a := a) (b := b)
      rw [← o2, ← x2, ← a2] at h
      have q1 := Nat.div_add_mod (a ||| b) 2
      have q2 := Nat.div_add_mod (a ^^^ b) 2
      have q3 := Nat.div_add_mod (a &&& b) 2
      have key : (a ||| b) % 2 = (a ^^^ b) % 2 + (a &&& b) % 2 := by
        by_cases u : a % 2 = 1 <;> by_cases v : b % 2 = 1 <;> simp only [u, v, true_or, or_true, or_self, and_self, and_true, true_and, iff_true, iff_false, true_iff, false_iff, not_true, not_false_iff, iff_self, and_false, false_and] at om xm am <;> omega
      omega
theorem xor_nat (a b : Nat) : bitXor (a : Int) (b : Int) = ((a ^^^ b : Nat) : Int) := by
  unfold bitXor
  rw [or_nat, and_nat, or_eq_xor_add_and]
  omega
theorem fdiv_nat (a b : Nat) : (a : Int).fdiv (b : Int) = ((a / b : Nat) : Int) := by
  rw [Int.fdiv_eq_ediv_of_nonneg _ (by omega)]; rfl
theorem fmod_nat (a b : Nat) : (a : Int).fmod (b : Int) = ((a % b : Nat) : Int) := by
  rw [Int.fmod_eq_emod_of_nonneg _ (by omega)]; rfl
theorem land_mask (n j : Nat) : n &&& (2 ^ j - 1) = n % 2 ^ j := Nat.and_two_pow_sub_one_eq_mod n j
theorem and_neg_pow (n j : Nat) : bitAnd (n : Int) (-((2 ^ j : Nat) : Int)) = ((n / 2 ^ j * 2 ^ j : Nat) : Int) := by
  rw [and_negNat _ _ (Nat.pow_pos (by decide)), land_mask]
  have := Nat.div_add_mod n (2 ^ j)
  have h : n / 2 ^ j * 2 ^ j = n - n % 2 ^ j := by rw [Nat.mul_comm]; omega
  rw [h]
  have := Nat.mod_le n (2 ^ j)
  omega
theorem or_one (a : Nat) : a ||| 1 = 2 * (a / 2) + 1 := by
  have o2 := Nat.or_div_two (a := a) (b := 1)
  have om := Nat.or_mod_two_eq_one (a := a) (b := 1)
  have q1 := Nat.div_add_mod (a ||| 1) 2
  have om' : (a ||| 1) % 2 = 1 := om.mpr (.inr rfl)
  rw [show (1 : Nat) / 2 = 0 from rfl, Nat.or_zero] at o2
  omega
theorem or_pow (a j : Nat) : (a * 2 ^ j) ||| 2 ^ j = (2 * (a / 2) + 1) * 2 ^ j := by
  have h1 : (2 : Nat) ^ j = 1 * 2 ^ j := by omega
  have h2 : (a * 2 ^ j) ||| (1 * 2 ^ j) = (a ||| 1) * 2 ^ j := by
    rw [← Nat.shiftLeft_eq, ← Nat.shiftLeft_eq, ← Nat.shiftLeft_eq, Nat.shiftLeft_or_distrib]
  rw [← h1] at h2
  rw [h2, or_one]

/-! cells: the p-th one of level L on the whole curve -/
def gidN (L p : Nat) : Nat := (2 * p + 1) * 2 ^ (60 - 2 * L)
def gid (L p : Nat) : Int := (gidN L p : Nat)

theorem gid_pos (L p : Nat) : 0 < gidN L p := Nat.mul_pos (by omega) (Nat.pow_pos (by decide))
theorem pow_split {a b c : Nat} (h : c = a + b) : 2 ^ c = 2 ^ a * 2 ^ b := by rw [h, Nat.pow_add]
theorem gid_lt {L p : Nat} (hL : L ≤ 30) (hp : p < 6 * 2 ^ (2 * L)) : gidN L p < 6 * 2 ^ 61 := by
  unfold gidN
  have e : (2 : Nat) ^ 61 = 2 * (2 ^ (2 * L) * 2 ^ (60 - 2 * L)) := by
    rw [← Nat.pow_add, show 2 * L + (60 - 2 * L) = 60 by omega]
  have h : (2 * p + 1) * 2 ^ (60 - 2 * L) < (2 * (6 * 2 ^ (2 * L))) * 2 ^ (60 - 2 * L) := Nat.mul_lt_mul_of_pos_right (by omega) (Nat.pow_pos (by decide))
  rw [e]
  have : (2 * (6 * 2 ^ (2 * L))) * 2 ^ (60 - 2 * L) = 6 * (2 * (2 ^ (2 * L) * 2 ^ (60 - 2 * L))) := by
    simp only [Nat.mul_assoc, Nat.mul_left_comm]
  omega
theorem odd_and (p : Nat) : (2 * p + 1) &&& (2 * p) = 2 * p := by
  have a2 := Nat.and_div_two (a := 2 * p + 1) (b := 2 * p)
  have am := Nat.and_mod_two_eq_one (a := 2 * p + 1) (b := 2 * p)
  rw [show (2 * p + 1) / 2 = p by omega, show 2 * p / 2 = p by omega, Nat.and_self] at a2
  have q := Nat.div_add_mod ((2 * p + 1) &&& (2 * p)) 2
  have : ¬ ((2 * p + 1) &&& (2 * p)) % 2 = 1 := fun h => by
    have := (am.mp h).2; omega
  omega
theorem lsb_nat (p k : Nat) : ((2 * p + 1) * 2 ^ k) &&& ((2 * p + 1) * 2 ^ k - 1) = 2 * p * 2 ^ k := by
  have hk : 0 < 2 ^ k := Nat.pow_pos (by decide)
  have h1 : (2 * p + 1) * 2 ^ k - 1 = 2 ^ k * (2 * p) + (2 ^ k - 1) := by
    rw [Nat.add_mul, Nat.one_mul, Nat.mul_comm (2 * p)]; omega
  have hd := Nat.and_div_two_pow (a := (2 * p + 1) * 2 ^ k) (b := (2 * p + 1) * 2 ^ k - 1) (n := k)
  have hm := Nat.and_mod_two_pow (a := (2 * p + 1) * 2 ^ k) (b := (2 * p + 1) * 2 ^ k - 1) (n := k)
  rw [Nat.mul_div_cancel _ hk] at hd
  rw [h1] at hd hm ⊢
  rw [Nat.mul_add_div hk, Nat.div_eq_of_lt (by omega : 2 ^ k - 1 < 2 ^ k), show (2 * p + 0 : Nat) = 2 * p from rfl, odd_and] at hd
  rw [Nat.mul_mod_left, Nat.zero_and] at hm
  have q := Nat.div_add_mod ((2 * p + 1) * 2 ^ k &&& (2 ^ k * (2 * p) + (2 ^ k - 1))) (2 ^ k)
  rw [hd, hm] at q
  rw [← q, Nat.add_zero, Nat.mul_comm]
theorem gid_lsb (L p : Nat) : bitAnd (gid L p) (-(gid L p)) = ((2 ^ (60 - 2 * L) : Nat) : Int) := by
  unfold gid
  rw [and_negNat _ _ (gid_pos L p)]
  unfold gidN
  rw [lsb_nat]
  have : (2 * p + 1) * 2 ^ (60 - 2 * L) = 2 * p * 2 ^ (60 - 2 * L) + 2 ^ (60 - 2 * L) := by rw [Nat.add_mul, Nat.one_mul]
  omega
theorem gid_div (L p j : Nat) (h : 60 - 2 * L ≤ j) : gidN L p / 2 ^ (j + 1) = p / 2 ^ (j - (60 - 2 * L)) := by
  unfold gidN
  rw [show j + 1 = (60 - 2 * L) + (1 + (j - (60 - 2 * L))) by omega, Nat.pow_add, ← Nat.div_div_eq_div_mul, Nat.mul_div_cancel _ (Nat.pow_pos (by decide)), Nat.pow_add, ← Nat.div_div_eq_div_mul]
  congr 1
  omega
theorem gid_face {L p : Nat} (hL : L ≤ 30) : gidN L p / 2 ^ 61 = p / 2 ^ (2 * L) := by
  have := gid_div L p 60 (by omega)
  rw [this]; congr 2; omega
theorem gid_odd {L p : Nat} (hL : L ≤ 30) : gidN L p % 2 = if L = 30 then 1 else 0 := by
  unfold gidN
  split
  · subst L; simp only [Nat.mul_comm]; omega
  · rw [show 60 - 2 * L = (59 - 2 * L) + 1 by omega, Nat.pow_succ, ← Nat.mul_assoc]; omega
theorem gid_parent {L l p : Nat} (hl : l ≤ L) (hL : L ≤ 30) : ((gidN L p / 2 ^ (60 - 2 * l)) * 2 ^ (60 - 2 * l)) ||| 2 ^ (60 - 2 * l) = gidN l (p / 2 ^ (2 * (L - l))) := by
  rw [or_pow, Nat.div_div_eq_div_mul, ← Nat.pow_succ, gid_div _ _ _ (by omega)]
  unfold gidN
  congr 5; omega
theorem parent_int {L l p : Nat} (hl : l ≤ L) (hL : L ≤ 30) : bitOr (bitAnd (gid L p) (-((2 ^ (60 - 2 * l) : Nat) : Int))) ((2 ^ (60 - 2 * l) : Nat) : Int) = gid l (p / 2 ^ (2 * (L - l))) := by
  unfold gid
  rw [and_neg_pow, or_nat, gid_parent hl hL]
theorem gid_mod {L p : Nat} (hL : L ≤ 30) (hp : p < 6 * 2 ^ (2 * L)) : (gid L p).fmod 18446744073709551615 = gid L p := by
  unfold gid
  rw [show (18446744073709551615 : Int) = ((18446744073709551615 : Nat) : Int) from rfl, fmod_nat, Nat.mod_eq_of_lt]
  have := gid_lt hL hp
  omega
theorem valid_mask {L : Nat} (hL : L ≤ 30) : bitAnd ((2 ^ (60 - 2 * L) : Nat) : Int) 1537228672809129301 ≠ 0 := by
  rw [show (1537228672809129301 : Int) = ((1537228672809129301 : Nat) : Int) from rfl, and_nat]
  have : ∀ L : Fin 31, 2 ^ (60 - 2 * L.val) &&& 1537228672809129301 ≠ 0 := by decide +kernel
  have := this ⟨L, by omega⟩
  simpa using this
end Mine
end Part7
section Part8
open PySem
set_option maxRecDepth 100000
set_option autoImplicit false
set_option linter.unusedVariables false
namespace Mine
open Builtin (bitAnd bitOr bitXor bitNot)

theorem face_int {L p : Nat} (hL : L ≤ 30) : (gid L p).fdiv (2 ^ Int.toNat 61) = ((p / 2 ^ (2 * L) : Nat) : Int) := by
  rw [← gid_face hL]; exact fdiv_nat _ _
theorem leaf_bool {L p : Nat} (hL : L ≤ 30) : (bitAnd (gid L p) 1 != 0) = decide (L = 30) := by
  have e : bitAnd (gid L p) 1 = ((gidN L p % 2 : Nat) : Int) := by
    rw [show (1 : Int) = ((1 : Nat) : Int) from rfl, gid, and_nat, Nat.and_one_is_mod]
  rw [e, gid_odd hL]
  by_cases q : L = 30 <;> simp [q]
theorem face_lt {L p : Nat} (hp : p < 6 * 2 ^ (2 * L)) : ((p / 2 ^ (2 * L) : Nat) : Int) < 6 := by
  have : p / 2 ^ (2 * L) < 6 := (Nat.div_lt_iff_lt_mul (Nat.pow_pos (by decide))).mpr hp
  omega
theorem gid_le {L p : Nat} (hL : L ≤ 30) (hp : p ≤ 6 * 2 ^ (2 * L)) : gidN L p ≤ 6 * 2 ^ 61 + 2 ^ 60 := by
  unfold gidN
  have e : (2 : Nat) ^ 60 = 2 ^ (2 * L) * 2 ^ (60 - 2 * L) := by
    rw [← Nat.pow_add, show 2 * L + (60 - 2 * L) = 60 by omega]
  have h : (2 * p + 1) * 2 ^ (60 - 2 * L) ≤ (2 * (6 * 2 ^ (2 * L)) + 1) * 2 ^ (60 - 2 * L) := Nat.mul_le_mul_right _ (by omega)
  have h2 : (2 * (6 * 2 ^ (2 * L)) + 1) * 2 ^ (60 - 2 * L) = 12 * (2 ^ (2 * L) * 2 ^ (60 - 2 * L)) + 2 ^ (60 - 2 * L) := by
    generalize (2 : Nat) ^ (60 - 2 * L) = z
    generalize (2 : Nat) ^ (2 * L) = y
    grind
  have h3 : 2 ^ (60 - 2 * L) ≤ 2 ^ 60 := Nat.pow_le_pow_right (by decide) (by omega)
  rw [← e] at h2
  omega
theorem gid_mod' {L p : Nat} (hL : L ≤ 30) (hp : p ≤ 6 * 2 ^ (2 * L)) : (gid L p).fmod 18446744073709551615 = gid L p := by
  unfold gid
  rw [show (18446744073709551615 : Int) = ((18446744073709551615 : Nat) : Int) from rfl, fmod_nat, Nat.mod_eq_of_lt]
  have := gid_le hL hp
  omega

/-! the level -/
theorem low_mask (n : Nat) : bitAnd (n : Int) 4294967295 = ((n % 2 ^ 32 : Nat) : Int) := by
  rw [show (4294967295 : Int) = ((2 ^ 32 - 1 : Nat) : Int) from rfl, and_nat, land_mask]
theorem odd_mod (p k : Nat) (hk : k < 32) : ((2 * p + 1) * 2 ^ k) % 2 ^ 32 = (2 * (p % 2 ^ (31 - k)) + 1) * 2 ^ k := by
  rw [show (2 : Nat) ^ 32 = 2 ^ (32 - k) * 2 ^ k by rw [← Nat.pow_add]; congr 1; omega, Nat.mul_mod_mul_right]
  congr 1
  rw [show 32 - k = (31 - k) + 1 by omega, Nat.pow_succ, Nat.mul_comm (2 ^ (31 - k)) 2, Nat.add_mod, Nat.mul_mod_mul_left]
  have h1 : p % 2 ^ (31 - k) < 2 ^ (31 - k) := Nat.mod_lt _ (Nat.pow_pos (by decide))
  have h2 : 1 % (2 * 2 ^ (31 - k)) = 1 := Nat.mod_eq_of_lt (by omega)
  rw [h2, Nat.mod_eq_of_lt (by omega)]
theorem and_neg_odd (q k : Nat) : bitAnd (((2 * q + 1) * 2 ^ k : Nat) : Int) (-(((2 * q + 1) * 2 ^ k : Nat) : Int)) = ((2 ^ k : Nat) : Int) := by
  rw [and_negNat _ _ (Nat.mul_pos (by omega) (Nat.pow_pos (by decide))), lsb_nat]
  have : (2 * q + 1) * 2 ^ k = 2 * q * 2 ^ k + 2 ^ k := by rw [Nat.add_mul, Nat.one_mul]
  omega
/-- the low half of an id -/
theorem low_ne {L p : Nat} (h : 15 ≤ L) (hL : L ≤ 30) : bitAnd (gid L p) 4294967295 ≠ 0 ∧ bitAnd (bitAnd (gid L p) 4294967295) (-(bitAnd (gid L p) 4294967295)) = ((2 ^ (60 - 2 * L) : Nat) : Int) := by
  have e : bitAnd (gid L p) 4294967295 = (((2 * (p % 2 ^ (31 - (60 - 2 * L))) + 1) * 2 ^ (60 - 2 * L) : Nat) : Int) := by
    rw [gid, low_mask, gidN, odd_mod _ _ (by omega)]
  rw [e]
  refine ⟨?_, and_neg_odd _ _⟩
  have := Nat.mul_pos (show 0 < 2 * (p % 2 ^ (31 - (60 - 2 * L))) + 1 by omega) (Nat.pow_pos (n := 60 - 2 * L) (show 0 < 2 by decide))
  omega
theorem low_zero {L p : Nat} (h : L < 15) : bitAnd (gid L p) 4294967295 = 0 := by
  rw [gid, low_mask, gidN]
  have : (2 * p + 1) * 2 ^ (60 - 2 * L) % 2 ^ 32 = 0 := by
    rw [show 60 - 2 * L = (28 - 2 * L) + 32 by omega, Nat.pow_add, ← Nat.mul_assoc, Nat.mul_mod_left]
  rw [this]; rfl
theorem high_lsb {L p : Nat} (h : L < 15) : bitAnd (bitAnd ((gid L p).fdiv (2 ^ Int.toNat 32)) 4294967295) (-(bitAnd ((gid L p).fdiv (2 ^ Int.toNat 32)) 4294967295)) = ((2 ^ (28 - 2 * L) : Nat) : Int) := by
  have e0 : (gid L p).fdiv (2 ^ Int.toNat 32) = (((2 * p + 1) * 2 ^ (28 - 2 * L) : Nat) : Int) := by
    have : (gid L p).fdiv (2 ^ Int.toNat 32) = ((gidN L p / 2 ^ 32 : Nat) : Int) := fdiv_nat _ _
    rw [this, gidN, show 60 - 2 * L = (28 - 2 * L) + 32 by omega, Nat.pow_add, ← Nat.mul_assoc, Nat.mul_div_cancel _ (by decide)]
  have e : bitAnd ((gid L p).fdiv (2 ^ Int.toNat 32)) 4294967295 = (((2 * (p % 2 ^ (31 - (28 - 2 * L))) + 1) * 2 ^ (28 - 2 * L) : Nat) : Int) := by
    rw [e0, low_mask, odd_mod _ _ (by omega)]
  rw [e]
  exact and_neg_odd _ _
def levSum (X l0 : Int) : Int :=
  l0 + (if (bitAnd X 21845 != 0) = true then 8 else 0) + (if (bitAnd X 5570645 != 0) = true then 4 else 0) + (if (bitAnd X 84215045 != 0) = true then 2 else 0) + (if (bitAnd X 286331153 != 0) = true then 1 else 0)
theorem lev_low {L : Nat} (h : 15 ≤ L) (hL : L < 30) : levSum ((2 ^ (60 - 2 * L) : Nat) : Int) (-1 + 16) = (L : Int) := by
  have : ∀ i : Fin 15, levSum ((2 ^ (60 - 2 * (15 + i.val)) : Nat) : Int) (-1 + 16) = ((15 + i.val : Nat) : Int) := by decide +kernel
  have := this ⟨L - 15, by omega⟩
  rw [show 15 + (⟨L - 15, by omega⟩ : Fin 15).val = L by show 15 + (L - 15) = L; omega] at this
  exact this
theorem lev_high {L : Nat} (h : L < 15) : levSum ((2 ^ (28 - 2 * L) : Nat) : Int) (-1) = (L : Int) := by
  have : ∀ i : Fin 15, levSum ((2 ^ (28 - 2 * i.val) : Nat) : Int) (-1) = ((i.val : Nat) : Int) := by decide +kernel
  exact this ⟨L, h⟩

theorem lsb_small {L : Nat} : (((2 ^ (60 - 2 * L) : Nat) : Int).fdiv (2 ^ Int.toNat 2)).natAbs < 2 ^ 64 := by
  have : ((2 ^ (60 - 2 * L) : Nat) : Int).fdiv (2 ^ Int.toNat 2) = ((2 ^ (60 - 2 * L) / 2 ^ 2 : Nat) : Int) := fdiv_nat _ _
  rw [this, Int.natAbs_natCast]
  have h3 : 2 ^ (60 - 2 * L) ≤ 2 ^ 60 := Nat.pow_le_pow_right (by decide) (by omega)
  have := Nat.div_le_self (2 ^ (60 - 2 * L)) (2 ^ 2)
  omega
/-! steps, children, ends -/
theorem lsbl_int {l : Nat} (hl : l ≤ 30) : (1 : Int) * 2 ^ (2 * (30 - (l : Int))).toNat = ((2 ^ (60 - 2 * l) : Nat) : Int) := by
  rw [show (2 * (30 - (l : Int))).toNat = 60 - 2 * l by omega]; simp
theorem child_int {L p r : Nat} (hL : L < 30) : gid L p + (2 * (r : Int) + 1 - 4) * (((2 ^ (60 - 2 * L) : Nat) : Int).fdiv (2 ^ Int.toNat 2)) = gid (L + 1) (4 * p + r) := by
  have e1 : ((2 ^ (60 - 2 * L) : Nat) : Int).fdiv (2 ^ Int.toNat 2) = ((2 ^ (58 - 2 * L) : Nat) : Int) := by
    have : ((2 ^ (60 - 2 * L) : Nat) : Int).fdiv (2 ^ Int.toNat 2) = ((2 ^ (60 - 2 * L) / 2 ^ 2 : Nat) : Int) := fdiv_nat _ _
    rw [this, show 60 - 2 * L = (58 - 2 * L) + 2 by omega, Nat.pow_add, Nat.mul_div_cancel _ (by decide)]
  rw [e1, gid, gid, gidN, gidN, show 60 - 2 * (L + 1) = 58 - 2 * L by omega, show 60 - 2 * L = (58 - 2 * L) + 2 by omega, Nat.pow_add]
  generalize (2 : Nat) ^ (58 - 2 * L) = z
  push_cast
  grind
theorem begin_int {L l p : Nat} (h : L ≤ l) (hl : l ≤ 30) : gid L p - ((2 ^ (60 - 2 * L) : Nat) : Int) + ((2 ^ (60 - 2 * l) : Nat) : Int) = gid l (p * 2 ^ (2 * (l - L))) := by
  rw [gid, gid, gidN, gidN]
  have e : (2 : Nat) ^ (60 - 2 * L) = 2 ^ (2 * (l - L)) * 2 ^ (60 - 2 * l) := by rw [← Nat.pow_add]; congr 1; omega
  rw [e]
  generalize (2 : Nat) ^ (60 - 2 * l) = z
  generalize (2 : Nat) ^ (2 * (l - L)) = y
  have : (2 * p + 1) * (y * z) = 2 * (p * y) * z + y * z := by rw [Nat.add_mul, Nat.one_mul]; congr 1; rw [← Nat.mul_assoc, Nat.mul_assoc 2]
  rw [this, Nat.add_mul (2 * (p * y)) 1 z, Nat.one_mul]
  omega
theorem end_int {L l p : Nat} (h : L ≤ l) (hl : l ≤ 30) : gid L p + ((2 ^ (60 - 2 * L) : Nat) : Int) + ((2 ^ (60 - 2 * l) : Nat) : Int) = gid l ((p + 1) * 2 ^ (2 * (l - L))) := by
  rw [gid, gid, gidN, gidN]
  have e : (2 : Nat) ^ (60 - 2 * L) = 2 ^ (2 * (l - L)) * 2 ^ (60 - 2 * l) := by rw [← Nat.pow_add]; congr 1; omega
  rw [e]
  generalize (2 : Nat) ^ (60 - 2 * l) = z
  generalize (2 : Nat) ^ (2 * (l - L)) = y
  have : (2 * p + 1) * (y * z) = 2 * (p * y) * z + y * z := by rw [Nat.add_mul, Nat.one_mul]; congr 1; rw [← Nat.mul_assoc, Nat.mul_assoc 2]
  have h2 : (2 * ((p + 1) * y) + 1) * z = 2 * (p * y) * z + 2 * (y * z) + z := by
    rw [Nat.add_mul, Nat.one_mul, Nat.add_mul p 1 y, Nat.one_mul, Nat.mul_add, Nat.add_mul, Nat.mul_assoc 2 y z]
  rw [this, h2]
  omega
theorem shr_pos {L p : Nat} (hL : L ≤ 30) : (gid L p).fdiv (2 ^ (2 * (30 - (L : Int)) + 1).toNat) = (p : Int) := by
  rw [show (2 * (30 - (L : Int)) + 1).toNat = (60 - 2 * L) + 1 by omega]
  have : (gid L p).fdiv (2 ^ ((60 - 2 * L) + 1)) = ((gidN L p / 2 ^ ((60 - 2 * L) + 1) : Nat) : Int) := by
    rw [gid, ← fdiv_nat]; congr 1
  rw [this, gid_div _ _ _ (Nat.le_refl _), Nat.sub_self, Nat.pow_zero, Nat.div_one]
theorem step_int {L p q : Nat} {n : Int} (hL : L ≤ 30) (e : (q : Int) = p + n) : gid L p + n * 2 ^ (2 * (30 - (L : Int)) + 1).toNat = gid L q := by
  rw [show (2 * (30 - (L : Int)) + 1).toNat = (60 - 2 * L) + 1 by omega, gid, gid, gidN, gidN, Int.pow_succ]
  push_cast
  generalize (2 : Int) ^ (60 - 2 * L) = z
  rw [e]
  grind
/-- how many steps there are ahead -/
theorem max_steps {L p : Nat} (hL : L ≤ 30) (hp : p ≤ 6 * 2 ^ (2 * L)) : (13835058055282163712 + ((2 ^ (60 - 2 * L) : Nat) : Int) - gid L p).fdiv (2 ^ (2 * (30 - (L : Int)) + 1).toNat) = ((6 * 2 ^ (2 * L) - p : Nat) : Int) := by
  have e : (13835058055282163712 + ((2 ^ (60 - 2 * L) : Nat) : Int) - gid L p) = (((6 * 2 ^ (2 * L) - p) * 2 ^ ((60 - 2 * L) + 1) : Nat) : Int) := by
    have e60 : (2 : Nat) ^ 60 = 2 ^ (2 * L) * 2 ^ (60 - 2 * L) := by
      rw [← Nat.pow_add, show 2 * L + (60 - 2 * L) = 60 by omega]
    rw [gid, gidN, Nat.pow_succ, show (13835058055282163712 : Int) = ((12 * 2 ^ 60 : Nat) : Int) from rfl, e60]
    generalize (2 : Nat) ^ (60 - 2 * L) = z
    generalize hy : (2 : Nat) ^ (2 * L) = y at *
    have : (6 * y - p) * (z * 2) = 12 * (y * z) - 2 * p * z := by
      rw [Nat.sub_mul]
      congr 1 <;> grind
    have hle : 2 * p * z ≤ 12 * (y * z) := by
      rw [← Nat.mul_assoc]; exact Nat.mul_le_mul_right _ (by omega)
    rw [this, Nat.add_mul, Nat.one_mul]
    omega
  rw [e, show (2 * (30 - (L : Int)) + 1).toNat = (60 - 2 * L) + 1 by omega]
  have : (((6 * 2 ^ (2 * L) - p) * 2 ^ ((60 - 2 * L) + 1) : Nat) : Int).fdiv (2 ^ ((60 - 2 * L) + 1)) = ((((6 * 2 ^ (2 * L) - p) * 2 ^ ((60 - 2 * L) + 1)) / 2 ^ ((60 - 2 * L) + 1) : Nat) : Int) := by
    rw [← fdiv_nat]; congr 1
  rw [this, Nat.mul_div_cancel _ (Nat.pow_pos (by decide))]
theorem begin_le {L l p : Nat} (h : L ≤ l) (hp : p ≤ 6 * 2 ^ (2 * L)) : p * 2 ^ (2 * (l - L)) ≤ 6 * 2 ^ (2 * l) := by
  have e : (2 : Nat) ^ (2 * l) = 2 ^ (2 * L) * 2 ^ (2 * (l - L)) := by rw [← Nat.pow_add]; congr 1; omega
  rw [e, ← Nat.mul_assoc]; exact Nat.mul_le_mul_right _ hp
theorem parent_lt {L l p : Nat} (h : l ≤ L) (hp : p < 6 * 2 ^ (2 * L)) : p / 2 ^ (2 * (L - l)) < 6 * 2 ^ (2 * l) := by
  have e : (2 : Nat) ^ (2 * L) = 2 ^ (2 * l) * 2 ^ (2 * (L - l)) := by rw [← Nat.pow_add]; congr 1; omega
  rw [Nat.div_lt_iff_lt_mul (Nat.pow_pos (by decide)), Nat.mul_assoc, ← e]; exact hp
/-- the leaf that from_face_pos_level makes first -/
theorem fpl_int {f P L : Nat} (hL : L ≤ 30) : (f : Int) * 2 ^ Int.toNat 61 + bitOr ((P * 2 ^ (61 - 2 * L) : Nat) : Int) 1 = gid 30 (f * 2 ^ 60 + P * 2 ^ (60 - 2 * L)) := by
  have e1 : bitOr ((P * 2 ^ (61 - 2 * L) : Nat) : Int) 1 = ((P * 2 ^ (61 - 2 * L) + 1 : Nat) : Int) := by
    rw [show (1 : Int) = ((1 : Nat) : Int) from rfl, or_nat, or_one, show 61 - 2 * L = (60 - 2 * L) + 1 by omega, Nat.pow_succ]
    generalize (2 : Nat) ^ (60 - 2 * L) = z
    congr 2
    rw [← Nat.mul_assoc, Nat.mul_div_cancel _ (by decide)]; grind
  rw [e1, gid, gidN, show 60 - 2 * 30 = 0 from rfl, show 61 - 2 * L = (60 - 2 * L) + 1 by omega, Nat.pow_succ]
  generalize (2 : Nat) ^ (60 - 2 * L) = z
  have : (f : Int) * 2 ^ Int.toNat 61 = ((2 * (f * 2 ^ 60) : Nat) : Int) := by
    rw [show (2 : Int) ^ Int.toNat 61 = 2305843009213693952 from rfl, show (2 : Nat) ^ 60 = 1152921504606846976 from rfl]; omega
  rw [this, show (2 : Nat) ^ 60 = 1152921504606846976 from rfl, show P * (z * 2) = 2 * (P * z) by grind]
  omega
theorem fpl_parent {f P L : Nat} (hL : L ≤ 30) : (f * 2 ^ 60 + P * 2 ^ (60 - 2 * L)) / 2 ^ (2 * (30 - L)) = f * 2 ^ (2 * L) + P := by
  rw [show 2 * (30 - L) = 60 - 2 * L by omega]
  have e : (2 : Nat) ^ 60 = 2 ^ (2 * L) * 2 ^ (60 - 2 * L) := by
    rw [← Nat.pow_add, show 2 * L + (60 - 2 * L) = 60 by omega]
  rw [e, ← Nat.mul_assoc, ← Nat.add_mul, Nat.mul_div_cancel _ (Nat.pow_pos (by decide))]
theorem fpl_lt {f P L : Nat} (hL : L ≤ 30) (hf : f < 6) (hP : P < 2 ^ (2 * L)) : f * 2 ^ 60 + P * 2 ^ (60 - 2 * L) < 6 * 2 ^ (2 * 30) := by
  have e : (2 : Nat) ^ 60 = 2 ^ (2 * L) * 2 ^ (60 - 2 * L) := by
    rw [← Nat.pow_add, show 2 * L + (60 - 2 * L) = 60 by omega]
  have : P * 2 ^ (60 - 2 * L) < 2 ^ (2 * L) * 2 ^ (60 - 2 * L) := Nat.mul_lt_mul_of_pos_right hP (Nat.pow_pos (by decide))
  rw [← e] at this
  show f * 2 ^ 60 + P * 2 ^ (60 - 2 * L) < 6 * 2 ^ 60
  omega
end Mine
end Part8
section Part9
set_option maxRecDepth 100000
set_option autoImplicit false
set_option linter.unusedVariables false
namespace Mine
def pij (o d : Nat) : Nat := (([[0, 1, 3, 2], [0, 2, 3, 1], [3, 2, 0, 1], [3, 1, 0, 2]] : List (List Nat)).getD o []).getD d 0
def po (d : Nat) : Nat := ([1, 0, 0, 3] : List Nat).getD d 0
def ho : Nat → Nat → Nat → Nat
  | 0, o, _ => o
  | n + 1, o, q => ho n o (q / 4) ^^^ po (q % 4)
def hx : Nat → Nat → Nat → Nat
  | 0, _, _ => 0
  | n + 1, o, q => 2 * hx n o (q / 4) + pij (ho n o (q / 4)) (q % 4) / 2
def hy : Nat → Nat → Nat → Nat
  | 0, _, _ => 0
  | n + 1, o, q => 2 * hy n o (q / 4) + pij (ho n o (q / 4)) (q % 4) % 2

theorem pij_lt : ∀ o < 4, ∀ d < 4, pij o d < 4 := by decide
theorem xor_lt4 : ∀ a < 4, ∀ b < 4, a ^^^ b < 4 := by decide
theorem po_lt : ∀ d < 4, po d < 4 := by decide
theorem m4 (q : Nat) : q % 4 < 4 := Nat.mod_lt _ (by decide)
theorem ho_lt {o : Nat} (h : o < 4) : ∀ (n q : Nat), ho n o q < 4
  | 0, _ => h
  | n + 1, q => xor_lt4 _ (ho_lt h n _) _ (po_lt _ (m4 q))
theorem hx_lt {o : Nat} (h : o < 4) : ∀ (n q : Nat), hx n o q < 2 ^ n
  | 0, _ => Nat.one_pos
  | n + 1, q => by
    have := hx_lt h n (q / 4)
    have := pij_lt _ (ho_lt h n (q / 4)) _ (m4 q)
    simp only [hx]; rw [Nat.pow_succ]; omega
theorem hy_lt {o : Nat} (h : o < 4) : ∀ (n q : Nat), hy n o q < 2 ^ n
  | 0, _ => Nat.one_pos
  | n + 1, q => by
    have := hy_lt h n (q / 4)
    have := pij_lt _ (ho_lt h n (q / 4)) _ (m4 q)
    simp only [hy]; rw [Nat.pow_succ]; omega

theorem div4 (q n : Nat) : q / 4 ^ (n + 1) = q / 4 / 4 ^ n := by rw [Nat.pow_succ, Nat.mul_comm, Nat.div_div_eq_div_mul]
theorem ho_add (o m : Nat) : ∀ (n q : Nat), ho (m + n) o q = ho n (ho m o (q / 4 ^ n)) q
  | 0, q => by simp [ho]
  | n + 1, q => by
    show ho (m + n) o (q / 4) ^^^ po (q % 4) = _
    rw [ho_add o m n (q / 4), div4]; rfl
theorem hx_add (o m : Nat) : ∀ (n q : Nat), hx (m + n) o q = hx m o (q / 4 ^ n) * 2 ^ n + hx n (ho m o (q / 4 ^ n)) q
  | 0, q => by simp [hx]
  | n + 1, q => by
    show 2 * hx (m + n) o (q / 4) + pij (ho (m + n) o (q / 4)) (q % 4) / 2 = _
    rw [hx_add o m n (q / 4), ho_add, div4, Nat.pow_succ, ← Nat.mul_assoc]
    show _ = _ + (2 * hx n _ (q / 4) + _)
    omega
theorem hy_add (o m : Nat) : ∀ (n q : Nat), hy (m + n) o q = hy m o (q / 4 ^ n) * 2 ^ n + hy n (ho m o (q / 4 ^ n)) q
  | 0, q => by simp [hy]
  | n + 1, q => by
    show 2 * hy (m + n) o (q / 4) + pij (ho (m + n) o (q / 4)) (q % 4) % 2 = _
    rw [hy_add o m n (q / 4), ho_add, div4, Nat.pow_succ, ← Nat.mul_assoc]
    show _ = _ + (2 * hy n _ (q / 4) + _)
    omega

theorem drop4 (r q n : Nat) : (r * 4 ^ (n + 1) + q) / 4 = r * 4 ^ n + q / 4 ∧ (r * 4 ^ (n + 1) + q) % 4 = q % 4 := by
  rw [Nat.pow_succ, ← Nat.mul_assoc]; omega
theorem ho_drop (o r : Nat) : ∀ (n q : Nat), ho n o (r * 4 ^ n + q) = ho n o q
  | 0, _ => rfl
  | n + 1, q => by simp only [ho]; rw [(drop4 r q n).1, (drop4 r q n).2, ho_drop o r n]
theorem hx_drop (o r : Nat) : ∀ (n q : Nat), hx n o (r * 4 ^ n + q) = hx n o q
  | 0, _ => rfl
  | n + 1, q => by simp only [hx]; rw [(drop4 r q n).1, (drop4 r q n).2, hx_drop o r n, ho_drop]
theorem hy_drop (o r : Nat) : ∀ (n q : Nat), hy n o (r * 4 ^ n + q) = hy n o q
  | 0, _ => rfl
  | n + 1, q => by simp only [hy]; rw [(drop4 r q n).1, (drop4 r q n).2, hy_drop o r n, ho_drop]
theorem ho_mod (o n q : Nat) : ho n o (q % 4 ^ n) = ho n o q := by
  conv => rhs; rw [← Nat.div_add_mod q (4 ^ n), Nat.mul_comm]
  rw [ho_drop]
theorem hx_mod (o n q : Nat) : hx n o (q % 4 ^ n) = hx n o q := by
  conv => rhs; rw [← Nat.div_add_mod q (4 ^ n), Nat.mul_comm]
  rw [hx_drop]
theorem hy_mod (o n q : Nat) : hy n o (q % 4 ^ n) = hy n o q := by
  conv => rhs; rw [← Nat.div_add_mod q (4 ^ n), Nat.mul_comm]
  rw [hy_drop]

/-! the digits 2, 0, 0, .. : the middle of a cell -/
theorem two_div (m : Nat) : 2 * 4 ^ (m + 1) / 4 = 2 * 4 ^ m ∧ 2 * 4 ^ (m + 1) % 4 = 0 := by rw [Nat.pow_succ, ← Nat.mul_assoc]; omega
theorem xor_xor (a b : Nat) : a ^^^ b ^^^ b = a := by rw [Nat.xor_assoc, Nat.xor_self, Nat.xor_zero]
theorem ho_tail (o : Nat) : ∀ m, ho (m + 1) o (2 * 4 ^ m) = if m % 2 = 0 then o else o ^^^ 1
  | 0 => by simp [ho, po]
  | m + 1 => by
    rw [ho, (two_div m).1, (two_div m).2, ho_tail o m]
    show _ ^^^ 1 = _
    rcases Nat.mod_two_eq_zero_or_one m with h | h
    · rw [if_pos h, if_neg (by omega)]
    · rw [if_neg (by omega), if_pos (by omega), xor_xor]
def mid (o m : Nat) : Nat := if m = 0 then 0 else if o < 2 then 2 ^ (m - 1) else 2 ^ (m - 1) - 1
theorem pij_two : ∀ o < 4, pij o 2 / 2 = (if o < 2 then 1 else 0) ∧ pij o 2 % 2 = (if o < 2 then 1 else 0) := by decide
theorem pij_zero : ∀ o < 4, (pij o 0 / 2 = (if o < 2 then 0 else 1) ∧ pij o 0 % 2 = (if o < 2 then 0 else 1)) ∧ (pij (o ^^^ 1) 0 / 2 = (if o < 2 then 0 else 1) ∧ pij (o ^^^ 1) 0 % 2 = (if o < 2 then 0 else 1)) := by decide
theorem pij_tail {o : Nat} (h : o < 4) (m : Nat) : pij (ho (m + 1) o (2 * 4 ^ m)) 0 / 2 = (if o < 2 then 0 else 1) ∧ pij (ho (m + 1) o (2 * 4 ^ m)) 0 % 2 = (if o < 2 then 0 else 1) := by
  rw [ho_tail]; split
  · exact (pij_zero o h).1
  · exact (pij_zero o h).2
theorem hx_tail {o : Nat} (h : o < 4) : ∀ m, hx (m + 1) o (2 * 4 ^ m) = mid o (m + 1)
  | 0 => by
    show 2 * 0 + pij o 2 / 2 = _
    rw [(pij_two o h).1]; simp [mid]
  | m + 1 => by
    rw [hx, (two_div m).1, (two_div m).2, hx_tail h m, (pij_tail h m).1]
    have : 0 < 2 ^ m := Nat.pow_pos (by decide)
    simp only [mid, Nat.add_sub_cancel, Nat.pow_succ]
    split <;> split <;> first | omega | (split <;> omega)
theorem hy_tail {o : Nat} (h : o < 4) : ∀ m, hy (m + 1) o (2 * 4 ^ m) = mid o (m + 1)
  | 0 => by
    show 2 * 0 + pij o 2 % 2 = _
    rw [(pij_two o h).2]; simp [mid]
  | m + 1 => by
    rw [hy, (two_div m).1, (two_div m).2, hy_tail h m, (pij_tail h m).2]
    have : 0 < 2 ^ m := Nat.pow_pos (by decide)
    simp only [mid, Nat.add_sub_cancel, Nat.pow_succ]
    split <;> split <;> first | omega | (split <;> omega)

/-! the leaf at the middle of a cell -/
def leafPos (L p : Nat) : Nat := gidN L p / 2
theorem leaf_eq {L p : Nat} (hL : L ≤ 30) : leafPos L p = p * 4 ^ (30 - L) + (if L = 30 then 0 else 2 * 4 ^ (29 - L)) := by
  unfold leafPos gidN
  by_cases h : L = 30
  · subst h; simp; omega
  · rw [if_neg h]
    obtain ⟨m, hm⟩ : ∃ m, L = 29 - m ∧ m ≤ 29 := ⟨29 - L, by omega, by omega⟩
    obtain ⟨rfl, hm⟩ := hm
    rw [show 60 - 2 * (29 - m) = 2 * m + 2 by omega, show 30 - (29 - m) = m + 1 by omega, show 29 - (29 - m) = m by omega, Nat.pow_succ 4 m, Nat.pow_add, Nat.pow_mul]
    rw [show (2 : Nat) ^ 2 = 4 from rfl, Nat.add_mul]
    have : 2 * p * (4 ^ m * 4) = p * (4 ^ m * 4) * 2 := by rw [Nat.mul_comm 2 p, Nat.mul_assoc, Nat.mul_comm 2, ← Nat.mul_assoc]
    rw [this]; omega

theorem leaf_div {L p : Nat} (hL : L ≤ 30) : leafPos L p / 4 ^ (30 - L) = p := by
  rw [leaf_eq hL]
  by_cases h : L = 30
  · subst h; simp
  · rw [if_neg h, show 30 - L = (29 - L) + 1 by omega, Nat.pow_succ]
    have : 0 < 4 ^ (29 - L) := Nat.pow_pos (by decide)
    rw [Nat.mul_comm p, Nat.mul_add_div (by omega), Nat.div_eq_of_lt (by omega)]; rfl
theorem leaf_x {L p o : Nat} (hL : L ≤ 30) (ho' : o < 4) : hx 30 o (leafPos L p) = hx L o p * 2 ^ (30 - L) + mid (ho L o p) (30 - L) := by
  have e : (30 : Nat) = L + (30 - L) := by omega
  conv => lhs; rw [e]
  rw [hx_add, leaf_div hL, leaf_eq hL, hx_drop]
  by_cases h : L = 30
  · subst h; simp [hx, mid]
  · rw [if_neg h, show 30 - L = (29 - L) + 1 by omega, hx_tail (ho_lt ho' _ _)]
theorem leaf_y {L p o : Nat} (hL : L ≤ 30) (ho' : o < 4) : hy 30 o (leafPos L p) = hy L o p * 2 ^ (30 - L) + mid (ho L o p) (30 - L) := by
  have e : (30 : Nat) = L + (30 - L) := by omega
  conv => lhs; rw [e]
  rw [hy_add, leaf_div hL, leaf_eq hL, hy_drop]
  by_cases h : L = 30
  · subst h; simp [hy, mid]
  · rw [if_neg h, show 30 - L = (29 - L) + 1 by omega, hy_tail (ho_lt ho' _ _)]
theorem leaf_o {L p o : Nat} (hL : L ≤ 30) : ho 30 o (leafPos L p) = if (30 - L) % 2 = 0 ∧ L ≠ 30 then ho L o p ^^^ 1 else ho L o p := by
  have e : (30 : Nat) = L + (30 - L) := by omega
  conv => lhs; rw [e]
  rw [ho_add, leaf_div hL, leaf_eq hL, ho_drop]
  by_cases h : L = 30
  · subst h; simp [ho]
  · rw [if_neg h, show 30 - L = (29 - L) + 1 by omega, ho_tail]
    by_cases g : (29 - L) % 2 = 0
    · rw [if_pos g, if_neg (by omega)]
    · rw [if_neg g, if_pos ⟨by omega, h⟩]

/-! the table of four digits -/
def tabN (n : Nat) : Nat := 64 * hx 4 (n % 4) (n / 4) + 4 * hy 4 (n % 4) (n / 4) + ho 4 (n % 4) (n / 4)
theorem tab_parts {o q : Nat} (h : o < 4) : tabN (4 * (q % 256) + o) / 64 = hx 4 o q ∧ tabN (4 * (q % 256) + o) / 4 % 16 = hy 4 o q ∧ tabN (4 * (q % 256) + o) % 4 = ho 4 o q := by
  unfold tabN
  rw [show (4 * (q % 256) + o) % 4 = o by omega, show (4 * (q % 256) + o) / 4 = q % 4 ^ 4 by omega, hx_mod, hy_mod, ho_mod]
  have := hx_lt h 4 q; have := hy_lt h 4 q; have := ho_lt h 4 q
  omega
theorem tab_lt {n : Nat} : tabN n < 1024 := by
  unfold tabN
  have := hx_lt (m4 n) 4 (n / 4); have := hy_lt (m4 n) 4 (n / 4); have := ho_lt (m4 n) 4 (n / 4)
  omega
/-- the first two digits, told by the table as four -/
theorem first_two {o q : Nat} (h : o < 2) : hx 4 o (q % 16) = hx 2 o q ∧ hy 4 o (q % 16) = hy 2 o q ∧ ho 4 o (q % 16) = ho 2 o q := by
  have hx2 : hx 2 o (q % 16) = hx 2 o q := hx_mod o 2 q
  have hy2 : hy 2 o (q % 16) = hy 2 o q := hy_mod o 2 q
  have ho2 : ho 2 o (q % 16) = ho 2 o q := ho_mod o 2 q
  have e1 : hx 4 o (q % 16) = _ := hx_add o 2 2 (q % 16)
  have e2 : hy 4 o (q % 16) = _ := hy_add o 2 2 (q % 16)
  have e3 : ho 4 o (q % 16) = _ := ho_add o 2 2 (q % 16)
  rw [show q % 16 / 4 ^ 2 = 0 by omega] at e1 e2 e3
  have z : ∀ o < 2, hx 2 o 0 = 0 ∧ hy 2 o 0 = 0 ∧ ho 2 o 0 = o := by decide
  obtain ⟨z1, z2, z3⟩ := z o h
  rw [z1, z3] at e1; rw [z2, z3] at e2; rw [z3] at e3
  exact ⟨by omega, by omega, by rw [e3, ho2]⟩
end Mine
end Part9
section Part10
open PySem PySem.W PySem.Calls
set_option maxRecDepth 100000
set_option autoImplicit false
set_option linter.unusedVariables false
namespace Mine
/-! tables of ints -/
def intsEq : List Value → List Int → Bool
  | [], [] => true
  | .int n _ :: vs, m :: ms => n == m && intsEq vs ms
  | _, _ => false
def intsIn (K : Frag) (v : Value) (xs : List Int) : Bool := match v with
  | .ref a => match K.lookup a with
    | some ⟨.type "list", _, .seq items _, _⟩ => intsEq items.toList xs
    | _ => false
  | _ => false
def rowsEq (K : Frag) : List Value → List (List Int) → Bool
  | [], [] => true
  | v :: vs, m :: ms => intsIn K v m && rowsEq K vs ms
  | _, _ => false
def rowsIn (K : Frag) (v : Value) (xs : List (List Int)) : Bool := match v with
  | .ref a => match K.lookup a with
    | some ⟨.type "list", _, .seq items _, _⟩ => rowsEq K items.toList xs
    | _ => false
  | _ => false
@[reducible] def pvInts (xs : List Int) : PV := .lst (xs.map .int)
def pvRows (xs : List (List Int)) : PV := .lst (xs.map pvInts)
theorem ints_rep {G : Gl} {H : Heap} : ∀ {vs : List Value} {xs : List Int}, intsEq vs xs = true → RepL G H vs (xs.map .int)
  | [], [], _ => .nil
  | .int n t :: vs, m :: ms, e => by
    simp only [intsEq, Bool.and_eq_true, beq_iff_eq] at e
    obtain ⟨rfl, e⟩ := e
    exact .cons (.int n t) (ints_rep e)
theorem rep_ints {G : Gl} {H : Heap} (X : G.K.In H) {v : Value} {xs : List Int} (e : intsIn G.K v xs = true) : Rep G H v (pvInts xs) := by
  unfold intsIn at e
  split at e
  · rename_i a
    split at e
    · rename_i od items n sl ho
      refine .lst (vs := items.toList) ⟨_, X _ _ ho, rfl, n, by simp⟩ (ints_rep e)
    · cases e
  · cases e
theorem rows_rep {G : Gl} {H : Heap} (X : G.K.In H) : ∀ {vs : List Value} {xs : List (List Int)}, rowsEq G.K vs xs = true → RepL G H vs (xs.map pvInts)
  | [], [], _ => .nil
  | v :: vs, m :: ms, e => by
    simp only [rowsEq, Bool.and_eq_true] at e
    exact .cons (rep_ints X e.1) (rows_rep X e.2)
theorem rep_rows {G : Gl} {H : Heap} (X : G.K.In H) {v : Value} {xs : List (List Int)} (e : rowsIn G.K v xs = true) : Rep G H v (pvRows xs) := by
  unfold rowsIn at e
  split at e
  · rename_i a
    split at e
    · rename_i od items n sl ho
      refine .lst (vs := items.toList) ⟨_, X _ _ ho, rfl, n, by simp⟩ (rows_rep X e)
    · cases e
  · cases e
def hrow (r : Nat) : List Int := (List.range 128).map fun i => ((tabN (128 * r + i) : Nat) : Int)
def htab : List (List Int) := (List.range 8).map hrow
theorem ex_sub {G : Gl} {c : Cx} {σ σ' : Sg} {ss : List Stmt} {Q : Fl → Sg → Prop} (e : ∀ z pv, σ'.lookup z = some pv → σ.lookup z = some pv) (h : Ex G c σ' ss Q) : Ex G c σ ss Q :=
  fun m ow al s ok S => h m ow al s ok (S.same e)
theorem sub_upd {σ σ' : Sg} {y : Str} {x : PV} (e : ∀ z pv, σ'.lookup z = some pv → σ.lookup z = some pv) : ∀ z pv, (upd σ' y x).lookup z = some pv → (upd σ y x).lookup z = some pv := by
  intro z pv h
  rw [lookup_upd] at h ⊢
  split at h
  · rename_i q; rw [if_pos q]; exact h
  · rename_i q; rw [if_neg q]; exact e _ _ h
theorem resBool_bool {b : Bool} : resBool (.bool b) := ⟨b, rfl⟩
def SubL : Sg → Sg → Prop
  | [], _ => True
  | (z, pv) :: r, σ => σ.lookup z = some pv ∧ SubL r σ
theorem SubL.get {σ : Sg} : ∀ {B : Sg}, SubL B σ → ∀ z pv, B.lookup z = some pv → σ.lookup z = some pv
  | [], _, z, pv, e => by cases e
  | (y, x) :: r, h, z, pv, e => by
    simp only [List.lookup] at e
    split at e
    · rename_i q
      cases e
      rw [beq_iff_eq.mp q]; exact h.1
    · exact h.2.get z pv e
section
variable {G : Gl} {c : Cx} {σ : Sg}
theorem asE_cons {y : Str} {p : Pos} {es : List Expr} {x : PV} {xs : List PV} {Q : Sg → Prop} (hk : c.env.kindOf y = some .local) (hl : c.env.locals = c.L)
    (h : AsAll G c ((assignEach es c.env).map (·.2)) xs Q (upd σ y x)) : AsAll G c ((assignEach (.Name y p :: es) c.env).map (·.2)) (x :: xs) Q σ := as_name hk hl h
theorem asE_nil {Q : Sg → Prop} (h : Q σ) : AsAll G c ((assignEach [] c.env).map (·.2)) [] Q σ := h
theorem ex_sig {ss : List Stmt} {σ' : Sg} {Q : Fl → Sg → Prop} (e : σ = σ') (h : Ex G c σ' ss Q) : Ex G c σ ss Q := e ▸ h
theorem forL_list {y : Str} {p : Pos} {body : List Stmt} {Q : Fl → Sg → Prop} (I : Nat → Sg → Prop) (hk : c.env.kindOf y = some .local) (hl : c.env.locals = c.L) (fin : Nat) (hQ : ∀ σ, I fin σ → Q .nxt σ) :
    ∀ (xs : List PV) (i : Nat) (σ : Sg), fin = i + xs.length → (∀ j x σ, xs[j]? = some x → I (i + j) σ → Ex G c (upd σ y x) body (forStep Q (I (i + j + 1)))) → I i σ → ForL G c (.Name y p) body Q xs σ
  | [], i, σ, e, _, h => hQ σ (by rw [e]; exact h)
  | x :: xs, i, σ, e, step, h => by
    refine forL_cons hk hl ?_
    have h1 := step 0 x σ rfl h
    intro m ow al s ok S
    refine wpAny_mono (h1 m ow al s ok S) (fun fl s1 hp => ?_) bot_elim
    obtain ⟨h', tk, m', ow', σ', f, rfl, k1, S1, r1, q1⟩ := hp
    refine ⟨h', tk, m', ow', σ', f, rfl, k1, S1, r1, ?_⟩
    have go : ∀ σ, I (i + 1) σ → ForL G c (.Name y p) body Q xs σ := fun σ hi =>
      forL_list I hk hl fin hQ xs (i + 1) σ (by rw [e, List.length_cons]; omega) (fun j x σ hx hI => by
        have := step (j + 1) x σ (by simpa using hx) (by rw [show i + (j + 1) = i + 1 + j by omega]; exact hI)
        rw [show i + (j + 1) + 1 = i + 1 + j + 1 by omega] at this
        exact this) hi
    cases f with
    | nxt => exact go _ q1
    | cont => exact go _ q1
    | brk => exact q1
    | ret v => exact q1
theorem op_htab {value slice : Expr} {k : Nat} {Q : PV → Prop} (hk : k < 8) (h : Q (pvInts (hrow k)))
    (hs : ∀ (l : Addr) (u : Tok), subscripted slice false (.ref l) (.int k u) = operate [.ref l, .int k u] (getItem (.ref l) (.int k u)) := by intros; with_unfolding_all rfl) :
    Op2 G c σ (PyProof.Rows.subscriptTail value slice) (pvRows htab) (.int k) Q :=
  op_item_lst (by omega) (by omega) (x := pvInts (hrow k)) (by simp [htab, hk]) h hs
theorem op_hrow {value slice : Expr} {r k : Nat} {Q : PV → Prop} (hk : k < 128) (h : Q (.int ((tabN (128 * r + k) : Nat) : Int)))
    (hs : ∀ (l : Addr) (u : Tok), subscripted slice false (.ref l) (.int k u) = operate [.ref l, .int k u] (getItem (.ref l) (.int k u)) := by intros; with_unfolding_all rfl) :
    Op2 G c σ (PyProof.Rows.subscriptTail value slice) (pvInts (hrow r)) (.int k) Q :=
  op_item_lst (by omega) (by omega) (x := .int ((tabN (128 * r + k) : Nat) : Int)) (by simp [hrow, hk]) h hs
end
end Mine
end Part10
section Part11
open PySem PySem.W PySem.Calls
set_option maxRecDepth 100000
set_option autoImplicit false
set_option linter.unusedVariables false
namespace Mine
open Builtin (bitAnd bitOr bitXor bitNot)
theorem and_mask (n j : Nat) : bitAnd (n : Int) ((2 ^ j - 1 : Nat) : Int) = ((n % 2 ^ j : Nat) : Int) := by rw [and_nat, land_mask]
theorem and_1 (n : Nat) : bitAnd (n : Int) 1 = ((n % 2 : Nat) : Int) := and_mask n 1
theorem and_2m (n : Nat) : bitAnd (n : Int) (bitOr 1 2) = ((n % 4 : Nat) : Int) := and_mask n 2
theorem and_127 (n : Nat) : bitAnd (n : Int) 127 = ((n % 128 : Nat) : Int) := and_mask n 7
theorem shr_int (n : Nat) (k : Int) : (n : Int).fdiv (2 ^ k.toNat) = ((n / 2 ^ k.toNat : Nat) : Int) := by
  have := fdiv_nat n (2 ^ k.toNat)
  rwa [Int.natCast_pow] at this
theorem shl_int (n : Nat) (k : Int) : (n : Int) * 2 ^ k.toNat = ((n * 2 ^ k.toNat : Nat) : Int) := by
  rw [Int.natCast_mul, Int.natCast_pow]; rfl
theorem chunk7 {L p : Nat} : bitAnd ((gid L p).fdiv (2 ^ Int.toNat (7 * 2 * 4 + 1))) (1 * 2 ^ Int.toNat (2 * (30 - 7 * 4)) - 1) = ((leafPos L p / 4 ^ 28 % 16 : Nat) : Int) := by
  unfold gid; rw [shr_int]
  rw [show (1 * 2 ^ Int.toNat (2 * (30 - 7 * 4)) - 1 : Int) = ((2 ^ 4 - 1 : Nat) : Int) by decide, and_mask]
  unfold leafPos; rw [Nat.div_div_eq_div_mul]; rfl
theorem chunk4 {L p : Nat} (k : Nat) : bitAnd ((gid L p).fdiv (2 ^ Int.toNat ((k : Int) * 2 * 4 + 1))) (1 * 2 ^ Int.toNat (2 * 4) - 1) = ((leafPos L p / 4 ^ (4 * k) % 256 : Nat) : Int) := by
  unfold gid; rw [shr_int]
  rw [show (1 * 2 ^ Int.toNat (2 * 4) - 1 : Int) = ((2 ^ 8 - 1 : Nat) : Int) by decide, and_mask]
  unfold leafPos; rw [Nat.div_div_eq_div_mul, show Int.toNat ((k : Int) * 2 * 4 + 1) = 8 * k + 1 by omega, Nat.pow_succ, Nat.mul_comm, show 8 * k = 2 * (4 * k) by omega, Nat.pow_mul]
theorem put_bits (b c : Nat) : (b : Int) + (c : Int) * 2 ^ Int.toNat 2 = ((4 * c + b : Nat) : Int) := by
  show (b : Int) + (c : Int) * 4 = _
  omega
theorem idx_hi (n : Nat) : (n : Int).fdiv (2 ^ Int.toNat 7) = ((n / 128 : Nat) : Int) := shr_int n 7
theorem t_hi (n : Nat) : (n : Int).fdiv (2 ^ Int.toNat (4 + 2)) = ((n / 64 : Nat) : Int) := shr_int n 6
theorem t_mid (n : Nat) : bitAnd ((n : Int).fdiv (2 ^ Int.toNat 2)) (1 * 2 ^ Int.toNat 4 - 1) = ((n / 4 % 16 : Nat) : Int) := by
  rw [shr_int]; exact and_mask (n / 2 ^ 2) 4
theorem nat_small {n : Nat} (h : n < 1024) : ((n : Int)).natAbs < 2 ^ 64 := by omega
theorem next_i (a b k : Nat) (hk : k ≤ 7) : ((a * 2 ^ (30 - 4 * (7 - k) - 2) : Nat) : Int) + ((b : Nat) : Int) * 2 ^ Int.toNat ((k : Int) * 4) = ((a * 2 ^ (4 * k) + b * 2 ^ (4 * k) : Nat) : Int) := by
  rw [shl_int, show 30 - 4 * (7 - k) - 2 = 4 * k by omega, show Int.toNat ((k : Int) * 4) = 4 * k by omega]; omega
theorem idx_split (n : Nat) : 128 * (n / 128) + n % 128 = n := Nat.div_add_mod n 128
/-! the loop of to_face_ij_orientation: 2 digits, then 4 at a time -/
def sI (o q i : Nat) : Nat := hx (2 + 4 * i) o (q / 4 ^ (28 - 4 * i)) * 2 ^ (28 - 4 * i)
def sJ (o q i : Nat) : Nat := hy (2 + 4 * i) o (q / 4 ^ (28 - 4 * i)) * 2 ^ (28 - 4 * i)
def sO (o q i : Nat) : Nat := ho (2 + 4 * i) o (q / 4 ^ (28 - 4 * i))
theorem first_tab {o Q : Nat} (h : o < 2) : tabN (4 * (Q % 16) + o) / 64 = hx 2 o Q ∧ tabN (4 * (Q % 16) + o) / 4 % 16 = hy 2 o Q ∧ tabN (4 * (Q % 16) + o) % 4 = ho 2 o Q := by
  have t := tab_parts (o := o) (q := Q % 16) (by omega)
  rw [show Q % 16 % 256 = Q % 16 by omega, (first_two h).1, (first_two h).2.1, (first_two h).2.2] at t
  exact t
theorem div_split (q i : Nat) (hi : i < 7) : q / 4 ^ (4 * (6 - i)) / 4 ^ 4 = q / 4 ^ (28 - 4 * i) := by
  rw [Nat.div_div_eq_div_mul, ← Nat.pow_add, show 4 * (6 - i) + 4 = 28 - 4 * i by omega]
theorem sI_next {o q i : Nat} (hi : i < 7) : sI o q i + hx 4 (sO o q i) (q / 4 ^ (4 * (6 - i))) * 2 ^ (4 * (6 - i)) = sI o q (i + 1) := by
  unfold sI sO
  have := hx_add o (2 + 4 * i) 4 (q / 4 ^ (4 * (6 - i)))
  rw [div_split q i hi] at this
  rw [show 28 - 4 * (i + 1) = 4 * (6 - i) by omega, show 2 + 4 * (i + 1) = 2 + 4 * i + 4 by omega, this, Nat.add_mul, Nat.mul_assoc, ← Nat.pow_add, show 4 + 4 * (6 - i) = 28 - 4 * i by omega]
theorem sJ_next {o q i : Nat} (hi : i < 7) : sJ o q i + hy 4 (sO o q i) (q / 4 ^ (4 * (6 - i))) * 2 ^ (4 * (6 - i)) = sJ o q (i + 1) := by
  unfold sJ sO
  have := hy_add o (2 + 4 * i) 4 (q / 4 ^ (4 * (6 - i)))
  rw [div_split q i hi] at this
  rw [show 28 - 4 * (i + 1) = 4 * (6 - i) by omega, show 2 + 4 * (i + 1) = 2 + 4 * i + 4 by omega, this, Nat.add_mul, Nat.mul_assoc, ← Nat.pow_add, show 4 + 4 * (6 - i) = 28 - 4 * i by omega]
theorem sO_next {o q i : Nat} (hi : i < 7) : ho 4 (sO o q i) (q / 4 ^ (4 * (6 - i))) = sO o q (i + 1) := by
  unfold sO
  have := ho_add o (2 + 4 * i) 4 (q / 4 ^ (4 * (6 - i)))
  rw [div_split q i hi] at this
  rw [show 28 - 4 * (i + 1) = 4 * (6 - i) by omega, show 2 + 4 * (i + 1) = 2 + 4 * i + 4 by omega, this]
theorem shl_k (n k : Nat) : (n : Int) * 2 ^ Int.toNat ((k : Int) * 4) = ((n * 2 ^ (4 * k) : Nat) : Int) := by
  rw [shl_int, show Int.toNat ((k : Int) * 4) = 4 * k by omega]
theorem shl_7 (n : Nat) : 0 + (n : Int) * 2 ^ Int.toNat (7 * 4) = ((n * 2 ^ 28 : Nat) : Int) := by
  rw [shl_int, Int.zero_add]; rfl
theorem addN (a b : Nat) : (a : Int) + (b : Int) = ((a + b : Nat) : Int) := rfl
/-- the mask of the levels whose last turn is undone -/
theorem lsb_mask : ∀ L ≤ 30, (bitAnd ((2 ^ (60 - 2 * L) : Nat) : Int) 1229782938247303440 != 0) = decide ((30 - L) % 2 = 0 ∧ L ≠ 30) := by decide +kernel
theorem sI_fin {L p o : Nat} (hL : L ≤ 30) (h : o < 4) : sI o (leafPos L p) 7 = hx L o p * 2 ^ (30 - L) + mid (ho L o p) (30 - L) := by
  rw [← leaf_x hL h]; simp [sI]
theorem sJ_fin {L p o : Nat} (hL : L ≤ 30) (h : o < 4) : sJ o (leafPos L p) 7 = hy L o p * 2 ^ (30 - L) + mid (ho L o p) (30 - L) := by
  rw [← leaf_y hL h]; simp [sJ]
theorem sO_fin1 {L p o : Nat} (hL : L ≤ 30) (g : (30 - L) % 2 = 0 ∧ L ≠ 30) : sO o (leafPos L p) 7 ^^^ 1 = ho L o p := by
  have := leaf_o (p := p) (o := o) hL
  rw [if_pos g] at this
  have e : sO o (leafPos L p) 7 = ho 30 o (leafPos L p) := by simp [sO]
  rw [e, this, xor_xor]
theorem sO_fin2 {L p o : Nat} (hL : L ≤ 30) (g : ¬((30 - L) % 2 = 0 ∧ L ≠ 30)) : sO o (leafPos L p) 7 = ho L o p := by
  have := leaf_o (p := p) (o := o) hL
  rw [if_neg g] at this
  have e : sO o (leafPos L p) 7 = ho 30 o (leafPos L p) := by simp [sO]
  rw [e, this]
theorem xor_1 (n : Nat) : bitXor (n : Int) 1 = ((n ^^^ 1 : Nat) : Int) := xor_nat n 1
end Mine
end Part11
section Part12
open PySem PySem.W PySem.Calls
set_option maxRecDepth 100000
set_option autoImplicit false
set_option linter.unusedVariables false
namespace Mine
open PyProof.Rows (Fr News Top IsTup Below envOf envOfC)
/-! lists that grow -/
section
variable {G : Gl} {c : Cx} {σ : Sg}
theorem vw_mem {mu mu' : Led} {h : Heap} (e : ∀ a, a ∈ mu'.map (·.1) → a ∈ mu.map (·.1)) : (Vw c mu h).StaysIn (Vw c mu' h) := by
  intro b o hb
  rw [mem_vw] at hb ⊢
  refine ⟨hb.1, fun hm => hb.2 ?_⟩
  rcases List.mem_append.mp hm with hm | hm
  · exact List.mem_append_left _ hm
  · rcases List.mem_cons.mp hm with hm | hm
    · exact List.mem_append_right _ (hm ▸ .head _)
    · exact List.mem_append_right _ (.tail _ (e _ hm))
theorem VarV.mono {m : Str → Option Value} {ow ow' : Led} {x : Str} {v : Value} (h : ∀ p ∈ ow, p ∈ ow') : VarV c m ow x v → VarV c m ow' x v
  | .loc a b d => .loc a b d
  | .locC a b d e => .locC a (h _ b) d e
  | .cel a b d e => .cel a b (h _ d) e
  | .free a b d e f => .free a b (h _ d) e f
theorem RepO.mono {H H' : Heap} {ow ow' : Led} {v : Value} {x : PV} (k : H.StaysIn H') (h : ∀ p ∈ ow, p ∈ ow') : RepO G H ow v x → RepO G H' ow' v x
  | .rep r => .rep (r.keeps k)
  | .mlst a b d r => .mlst (h _ a) b d (r.keeps k)

theorem St.move {m : Str → Option Value} {ow al : Led} {s : Shared} {I : Addr} {o : Obj} (S : St G c σ m ow ((I, o) :: al) s) : St G c σ m ((I, o) :: ow) al s := by
  have hp : (ow ++ (I, o) :: al).Perm ((I, o) :: ow ++ al) := List.perm_middle
  refine ⟨S.F, fun p h => S.N p (hp.mem_iff.mpr h), (hp.map _).nodup_iff.mp S.nd, fun x pv e => ?_⟩
  obtain ⟨v, a, r⟩ := S.vars x pv e
  exact ⟨v, a.mono fun _ h => .tail _ h, r.mono (vw_mem fun a ha => (hp.map _).mem_iff.mpr ha) fun _ h => .tail _ h⟩

/-- y = [] -/
theorem ex_assign_nil {y : Str} {p : Pos} {lpos : Pos} {pos : Pos} {Q : Fl → Sg → Prop} (hk : c.env.kindOf y = some .local) (hl : c.env.locals = c.L) (h : Q .nxt (upd σ y (.mlst [])))
    (hs : swapsWith (.List [] lpos) (some (.Name y p)) pos.line c.env = pure false := by rfl) : Ex1 G c σ (.Assign [.Name y p] (.List [] lpos) pos) Q := by
  intro m ow al s ok S
  refine wpAny_Assign_Name ?_ hs
  refine PyProof.Rows.List_ (PyProof.Rows.spliced_none ?_)
  refine wpAny_newObj_type ?_ (by show (0 : Nat) ≤ sizeLine; exact Nat.zero_le _)
  obtain ⟨S2, v2⟩ := S.add (o := { cls := .type "list", data := .seq #[] 0 }) ok rfl
  have S3 := S2.move
  have e0 : RepO G (Vw c ((s.heap.objs.size, { cls := .type "list", data := .seq #[] 0 }) :: ow ++ al) (s.heap.push { cls := .type "list", data := .seq #[] 0 })) ((s.heap.objs.size, { cls := .type "list", data := .seq #[] 0 }) :: ow) (.ref s.heap.objs.size) (.mlst []) :=
    .mlst (vs := []) (n := 0) (.head _) rfl ⟨rfl, rfl⟩ .nil
  refine wpAny_mono (store_local (Q := fun σ' => Q .nxt σ') hk hl ok S3 e0 h) (fun _ s2 h2 => ?_) bot_elim
  obtain ⟨h', tk, m', ow', σ', f, rfl, st, S', r, q⟩ := h2
  refine ⟨h', tk, m', ow', σ', .nxt, rfl, stays_trans v2 (stays_trans (vw_mem ?_) st), S', .nxt, q⟩
  intro a ha
  have hp : (ow ++ (s.heap.objs.size, ({ cls := .type "list", data := .seq #[] 0 } : Obj)) :: al).Perm ((s.heap.objs.size, { cls := .type "list", data := .seq #[] 0 }) :: ow ++ al) := List.perm_middle
  exact (hp.map _).mem_iff.mpr ha

def others (σ : Sg) (y : Str) : Bool := σ.all fun p => p.1 == y || p.2.plain
theorem others_plain {y z : Str} {pv : PV} (h : others σ y = true) (e : σ.lookup z = some pv) (hz : z ≠ y) : pv.plain = true := by
  unfold others at h
  rw [List.all_eq_true] at h
  induction σ with
  | nil => cases e
  | cons p r ih =>
    obtain ⟨a, b⟩ := p
    simp only [List.lookup] at e
    split at e
    · rename_i q
      cases e
      have := h (a, pv) (.head _)
      simp only [Bool.or_eq_true, beq_iff_eq] at this
      rcases this with t | t
      · exact absurd ((beq_iff_eq.mp q).trans t) hz
      · exact t
    · exact ih (fun q hq => h q (.tail _ hq)) e

theorem repL_snoc {H : Heap} {v : Value} {x : PV} : ∀ {vs : List Value} {xs : List PV}, RepL G H vs xs → Rep G H v x → RepL G H (vs ++ [v]) (xs ++ [x])
  | _, _, .nil, r => .cons r .nil
  | _, _, .cons a b, r => .cons a (repL_snoc b r)

theorem nd_fst {l : Led} (h : (l.map (·.1)).Nodup) {a : Addr} {o o' : Obj} (x : (a, o) ∈ l) (y : (a, o') ∈ l) : o = o' := by
  induction l with
  | nil => cases x
  | cons p r ih =>
    rw [List.map_cons, List.nodup_cons] at h
    rcases List.mem_cons.mp x with ex | ex <;> rcases List.mem_cons.mp y with ey | ey
    · rw [← ex] at ey; exact (Prod.mk.inj ey).2.symm
    · exact absurd (List.mem_map.mpr ⟨_, ey, by rw [← ex]⟩) h.1
    · exact absurd (List.mem_map.mpr ⟨_, ex, by rw [← ey]⟩) h.1
    · exact ih h.2 ex ey

/-- y.append(e) -/
theorem ex_append {y : Str} {py apos cpos pos : Pos} {e : Expr} {xs : List PV} {Q : Fl → Sg → Prop} (hx : σ.lookup y = some (.mlst xs)) (hot : others σ y = true) (hlen : xs.length ≤ 1000)
    (h : Ev G c σ e (fun v => Q .nxt (upd σ y (.mlst (xs ++ [v])))))
    (hbase : attributeBase (.Name y py) "append" c.env (eval (.Name y py) c.env) = eval (.Name y py) c.env := by rfl)
    (hfew : ((backTo cpos (starEach [e] c.env)).all (fun x => !x.1) && (backToKw cpos (keywordEach [] c.env)).all (fun x => x.1.isSome)
      && decide (([e] : List Expr).length + ([] : List Keyword).length + (if ([] : List Keyword).isEmpty then 0 else 1) < 30)) = true := by rfl)
    (hline : (apos.endLine == cpos.line) = true := by rfl)
    (htrees : backTo cpos (starEach [e] c.env) = [(false, eval e c.env)] := by rfl) (hd : (y == ("__debug__" : Str)) = false := by decide)
    (hsw : swapsWith (.Call (.Attribute (.Name y py) "append" apos) [e] [] cpos) none pos.line c.env = pure false := by rfl) :
    Ex1 G c σ (.Expr (.Call (.Attribute (.Name y py) "append" apos) [e] [] cpos) pos) Q := by
  intro m ow al s ok S
  obtain ⟨v, hv, r⟩ := S.vars y _ hx
  cases r with
  | rep r => cases r
  | mlst hao hcls hdd rl =>
  rename_i a o vs n
  refine wpAny_Expr (wpAny_Call_append hbase hfew hline htrees ?_) (by unfold interactive; rw [ok.ek]; rfl) hsw
  refine wpAny_Name (load_var ok S hv ?_) hd
  have hN := S.N (a, o) (List.mem_append_left _ hao)
  refine ⟨a, vs.toArray, rfl, ⟨o, n, hN.1, hcls, hdd.1, hdd.2⟩, ?_⟩
  refine wpAny_mono (h m ow al s ok S) (fun u s1 hp => ?_) bot_elim
  obtain ⟨h1, t1, rfl, k1, x, rx, q1⟩ := hp
  have S1 := S.grow (tk := t1) k1
  have hN1 := S1.N (a, o) (List.mem_append_left _ hao)
  refine list_append_plainL (its := vs.toArray) ⟨o, n, hN1.1, hcls, hdd.1, hdd.2⟩ (fun h' hpl hsb => ?_) (by rw [List.size_toArray, rl.length]; exact Nat.le_trans hlen (by decide))
  obtain ⟨o', n', ho', hc', hd1', hd2'⟩ := hpl
  dsimp only
  let ow' : Led := ow.map fun p => if p.1 = a then (a, o') else p
  have hmap : ow'.map (·.1) = ow.map (·.1) := by
    simp only [ow', List.map_map]
    refine List.map_congr_left fun p hp => ?_
    show (if p.1 = a then (a, o') else p).1 = p.1
    split
    · rename_i e; exact e.symm
    · rfl
  have hmap2 : (ow' ++ al).map (·.1) = (ow ++ al).map (·.1) := by rw [List.map_append, List.map_append, hmap]
  have mem' : ∀ p ∈ ow', p = (a, o') ∨ (p ∈ ow ∧ p.1 ≠ a) := fun p hp => by
    obtain ⟨q, hq, rfl⟩ := List.mem_map.mp hp
    by_cases e : q.1 = a
    · left; simp [e]
    · right; simp [e, hq]
  have inM : ∀ p ∈ ow, p.1 ≠ a → p ∈ ow' := fun p hp e => List.mem_map.mpr ⟨p, hp, by simp [e]⟩
  have hne : ∀ p ∈ al, p.1 ≠ a := fun p hp e => by
    have nd := S.nd
    rw [List.map_append, List.nodup_append] at nd
    exact nd.2.2 a (List.mem_map.mpr ⟨_, hao, rfl⟩) p.1 (List.mem_map_of_mem hp) e.symm
  have hview : (Vw c (ow ++ al) h1).StaysIn (Vw c (ow' ++ al) h') := vw_same (c := c) (mu := ow ++ al) (mu' := ow' ++ al) hsb (List.mem_append_right _ (.tail _ (List.mem_map.mpr ⟨_, List.mem_append_left _ hao, rfl⟩))) hmap2
  have hself : (a, o') ∈ ow' := List.mem_map.mpr ⟨_, hao, by simp⟩
  have other : ∀ b ob, (b, ob) ∈ ow → ob ≠ o → b ≠ a := fun b ob hb hne q => hne (nd_fst S.nd (List.mem_append_left _ (q ▸ hb)) (List.mem_append_left _ hao))
  have varS : ∀ z u, VarV c m ow z u → VarV c m ow' z u := fun z u hu => by
    cases hu with
    | loc a1 b1 d1 => exact .loc a1 b1 d1
    | locC a1 b1 d1 e1 =>
      refine .locC a1 (inM _ b1 (other _ _ b1 fun q => ?_)) d1 e1
      obtain ⟨es, ep, de, _⟩ := d1
      rw [q, hdd.2] at de; cases de
    | cel a1 b1 d1 e1 =>
      refine .cel a1 b1 (inM _ d1 (other _ _ d1 fun q => ?_)) e1
      rw [q, hdd.2] at e1; cases e1
    | free a1 b1 d1 e1 f1 =>
      refine .free a1 b1 (inM _ d1 (other _ _ d1 fun q => ?_)) e1 f1
      rw [q, hdd.2] at e1; cases e1
  refine ⟨h', t1, m, ow', upd σ y (.mlst (xs ++ [x])), .nxt, rfl, stays_trans (vw_mono k1) hview, ?_, .nxt, q1⟩
  refine ⟨⟨S1.F.ns.sameBut hsb (Ne.symm hN1.2.1), fun b ob e => (hsb.2 b (fun q => ?_)).trans (S1.F.keep b ob e), S1.F.above⟩, fun p hp => ?_, by rw [hmap2]; exact S.nd, fun z pv e => ?_⟩
  · have h3 := hN1.2.2
    rw [← show b = a from q, e] at h3; cases h3
  · rcases List.mem_append.mp hp with hp | hp
    · rcases mem' p hp with rfl | ⟨hp, hpa⟩
      · exact ⟨ho', hN1.2⟩
      · have := S1.N p (List.mem_append_left _ hp)
        exact ⟨(hsb.2 _ hpa).trans this.1, this.2⟩
    · have := S1.N p (List.mem_append_right _ hp)
      exact ⟨(hsb.2 _ (hne p hp)).trans this.1, this.2⟩
  · rw [lookup_upd] at e
    split at e
    · rename_i hz
      obtain rfl := beq_iff_eq.mp hz
      cases e
      refine ⟨.ref a, varS _ _ hv, .mlst (vs := vs ++ [u]) (n := n') hself hc' ⟨hd1', by rw [hd2']; simp⟩ ?_⟩
      exact repL_snoc ((rl.keeps (vw_mono k1)).keeps hview) (rx.keeps hview)
    · rename_i hz
      obtain ⟨u', hu, ru⟩ := S1.vars z pv e
      have hne' : z ≠ y := fun q => hz (by rw [q]; simp)
      exact ⟨u', varS _ _ hu, .rep ((ru.plain (others_plain hot e hne')).keeps hview)⟩

/-- a list that grows no more -/
theorem ex_freeze {y : Str} {xs : List PV} {ss : List Stmt} {Q : Fl → Sg → Prop} (hx : σ.lookup y = some (.mlst xs)) (hot : others σ y = true) (h : Ex G c (upd σ y (.lst xs)) ss Q) : Ex G c σ ss Q := by
  intro m ow al s ok S
  obtain ⟨v, hv, r⟩ := S.vars y _ hx
  cases r with
  | rep r => cases r
  | mlst hao hcls hdd rl =>
  rename_i a o vs n
  let ow' : Led := ow.filter fun p => p.1 != a
  have inM : ∀ p ∈ ow, p.1 ≠ a → p ∈ ow' := fun p hp e => List.mem_filter.mpr ⟨hp, by simp [e]⟩
  have sub : ow'.Sublist ow := List.filter_sublist
  have hview : (Vw c (ow ++ al) s.heap).StaysIn (Vw c (ow' ++ al) s.heap) := vw_mem fun b hb => by
    rw [List.map_append] at hb ⊢
    rcases List.mem_append.mp hb with hb | hb
    · exact List.mem_append_left _ ((sub.map _).subset hb)
    · exact List.mem_append_right _ hb
  have hne : ∀ p ∈ al, p.1 ≠ a := fun p hp e => by
    have nd := S.nd
    rw [List.map_append, List.nodup_append] at nd
    exact nd.2.2 a (List.mem_map.mpr ⟨_, hao, rfl⟩) p.1 (List.mem_map_of_mem hp) e.symm
  have other : ∀ b ob, (b, ob) ∈ ow → ob ≠ o → b ≠ a := fun b ob hb hne q => hne (nd_fst S.nd (List.mem_append_left _ (q ▸ hb)) (List.mem_append_left _ hao))
  have varS : ∀ z u, VarV c m ow z u → VarV c m ow' z u := fun z u hu => by
    cases hu with
    | loc a1 b1 d1 => exact .loc a1 b1 d1
    | locC a1 b1 d1 e1 =>
      refine .locC a1 (inM _ b1 (other _ _ b1 fun q => ?_)) d1 e1
      obtain ⟨es, ep, de, _⟩ := d1
      rw [q, hdd.2] at de; cases de
    | cel a1 b1 d1 e1 =>
      refine .cel a1 b1 (inM _ d1 (other _ _ d1 fun q => ?_)) e1
      rw [q, hdd.2] at e1; cases e1
    | free a1 b1 d1 e1 f1 =>
      refine .free a1 b1 (inM _ d1 (other _ _ d1 fun q => ?_)) e1 f1
      rw [q, hdd.2] at e1; cases e1
  have hN := S.N (a, o) (List.mem_append_left _ hao)
  have hvis : (Vw c (ow' ++ al) s.heap).get? a = some o := by
    rw [mem_vw]
    refine ⟨hN.1, fun hm => ?_⟩
    rcases List.mem_append.mp hm with hm | hm
    · obtain ⟨o1, e1⟩ := ok.hsome a hm
      have := hN.2.2
      rw [e1] at this; cases this
    · rcases List.mem_cons.mp hm with hm | hm
      · exact hN.2.1 hm
      · rw [List.map_append] at hm
        rcases List.mem_append.mp hm with hm | hm
        · obtain ⟨p, hp, e⟩ := List.mem_map.mp hm
          have := (List.mem_filter.mp hp).2
          simp [e] at this
        · obtain ⟨p, hp, e⟩ := List.mem_map.mp hm
          exact hne p hp e
  have S' : St G c (upd σ y (.lst xs)) m ow' al s := by
    refine ⟨S.F, fun p hp => S.N p ?_, S.nd.sublist ?_, fun z pv e => ?_⟩
    · rcases List.mem_append.mp hp with hp | hp
      · exact List.mem_append_left _ (sub.subset hp)
      · exact List.mem_append_right _ hp
    · rw [List.map_append, List.map_append]
      exact List.Sublist.append (sub.map _) (List.Sublist.refl _)
    · rw [lookup_upd] at e
      split at e
      · rename_i hz
        obtain rfl := beq_iff_eq.mp hz
        cases e
        exact ⟨.ref a, varS _ _ hv, .rep (.lst ⟨o, hvis, hcls, n, hdd.2⟩ (rl.keeps hview))⟩
      · rename_i hz
        obtain ⟨u', hu, ru⟩ := S.vars z pv e
        have hne' : z ≠ y := fun q => hz (by rw [q]; simp)
        exact ⟨u', varS _ _ hu, .rep ((ru.plain (others_plain hot e hne')).keeps hview)⟩
  exact wpAny_mono (h m ow' al s ok S') (fun fl s2 h2 => ExPost.mono (h1 := s.heap) (t1 := s.toks) hview h2 fun _ _ q => q) bot_elim
end
end Mine
end Part12
section Part13
open PySem PySem.W PySem.Calls
set_option maxRecDepth 100000
set_option autoImplicit false
set_option linter.unusedVariables false
namespace Mine
open PyProof.Rows (Fr News Top IsTup Below envOf envOfC)
/-- if test: return False, where the test is false -/
theorem ex_if_no {G : Gl} {c : Cx} {σ : Sg} {test : Expr} {k : Nat} {p1 p2 pos : Pos} {Q : Fl → Sg → Prop} (h : EvT G c σ test (fun b => b = false)) (q : Q .nxt σ) :
    Ex1 G c σ (.If test [.Return (some (.Constant (.bool false) k p1)) p2] [] pos) Q := by
  refine ex_if ?_
  intro m ow al s ok S
  refine wpAny_mono (h m ow al s ok S) (fun b s1 hp => ?_) bot_elim
  obtain ⟨h1, t1, rfl, k1, rfl⟩ := hp
  exact ⟨h1, t1, rfl, k1, (ite_f (A := Ex G c σ [.Return (some (.Constant (.bool false) k p1)) p2] Q) rfl (ex_nil q) :)⟩
theorem not_beq_self {a : Int} : (!(a == a)) = false := by simp
theorem op_ne_same {G : Gl} {c : Cx} {σ : Sg} {x y : PV} {dx : PyData} {Q : PV → Prop} (e : x = y) (hr : c.Room 20) (ex : x.data? = some dx) (sx : SeqAt.shaped dx = true) (h : Q (.bool false)) : Op2 G c σ (compareOp .NotEq) x y Q := by
  subst e
  exact op_ne_data hr ex ex sx sx (by rw [SeqAt.eqv_refl dx (SeqAt.canLay_of_shaped sx)]; exact h)
theorem op_eq_same {G : Gl} {c : Cx} {σ : Sg} {x y : PV} {dx : PyData} {Q : PV → Prop} (e : x = y) (hr : c.Room 20) (ex : x.data? = some dx) (sx : SeqAt.shaped dx = true) (h : Q (.bool true)) : Op2 G c σ (compareOp .Eq) x y Q := by
  subst e
  exact op_eq_data hr ex ex sx sx (by rw [SeqAt.eqv_refl dx (SeqAt.canLay_of_shaped sx)]; exact h)
/-- an if whose ways meet: one name set -/
theorem ex_if_set {G : Gl} {c : Cx} {σ : Sg} {st : Stmt} {Q : Fl → Sg → Prop} (y : Str) (v : PV) (h : Ex1 G c σ st (fun f σ' => f = .nxt ∧ ∀ z pv, (upd σ y v).lookup z = some pv → σ'.lookup z = some pv))
    (q : Q .nxt (upd σ y v)) : Ex1 G c σ st Q := by
  intro m ow al s ok S
  refine wpAny_mono (h m ow al s ok S) (fun fl s1 hp => ?_) bot_elim
  obtain ⟨h', tk, m', ow', σ', f, rfl, k1, S1, r1, rfl, hs⟩ := hp
  exact ⟨h', tk, m', ow', _, .nxt, rfl, k1, S1.same hs, r1, q⟩
theorem ex_if_set2 {G : Gl} {c : Cx} {σ : Sg} {st : Stmt} {Q : Fl → Sg → Prop} (y : Str) (v : PV) (z : Str) (u : PV) (h : Ex1 G c σ st (fun f σ' => f = .nxt ∧ ∀ t pv, (upd (upd σ y v) z u).lookup t = some pv → σ'.lookup t = some pv))
    (q : Q .nxt (upd (upd σ y v) z u)) : Ex1 G c σ st Q := by
  intro m ow al s ok S
  refine wpAny_mono (h m ow al s ok S) (fun fl s1 hp => ?_) bot_elim
  obtain ⟨h', tk, m', ow', σ', f, rfl, k1, S1, r1, rfl, hs⟩ := hp
  exact ⟨h', tk, m', ow', _, .nxt, rfl, k1, S1.same hs, r1, q⟩
theorem upd_here {σ : Sg} {y : Str} {v : PV} (e : σ.lookup y = some v) : ∀ z pv, (upd σ y v).lookup z = some pv → σ.lookup z = some pv := by
  intro z pv h
  rw [lookup_upd] at h
  split at h
  · rename_i q; rw [beq_iff_eq.mp q, e]; exact h
  · exact h
theorem upd_eq {σ : Sg} {y : Str} {v u : PV} (e : v = u) : ∀ z pv, (upd σ y v).lookup z = some pv → (upd σ y u).lookup z = some pv := by
  subst e; exact fun _ _ h => h
theorem ints_repL {G : Gl} {H : Heap} : ∀ {vs : List Value} {ns : List Int}, PyProof.Rows.IntsAre vs ns → RepL G H vs (ns.map .int)
  | _, _, .nil => .nil
  | _, _, .cons n t h => .cons (.int n t) (ints_repL h)
theorem law_enter {G : Gl} {A : Around} {env : Env} {body : List Stmt} {s₁ : Shared} {h₁ : Heap} {tk₁ : Nat} {m : Str → Option Value} {o : Obj} {lst : Addr} {vs : List Value} {ns : List Int} {Qk : Flow → Shared → Prop} {Ek : Value → Shared → Prop}
    (hA : A.handled = none) (KX : G.K.In s₁.heap) (T : Top G.p G.loose G.mean G.mg G.mb s₁.heap) (F : Fr s₁.heap s₁.heap.objs.size h₁ m) (N : News s₁.heap s₁.heap.objs.size h₁ [(s₁.heap.objs.size + 1, o)])
    (ho : o.data = .cell (some (.ref lst))) (hL : s₁.heap.IsList lst vs.toArray) (hI : PyProof.Rows.IntsAre vs ns)
    (hk : env.kindOf ("script" : Str) = some .cell) (hc : env.cells.lookup ("script" : Str) = some (s₁.heap.objs.size + 1)) (ek : env.scope.kind = .function) (eg : env.globals = mainGlobals) (eb : env.builtins = builtinsNs)
    (hrm : Cx.Room ⟨A, env, s₁.heap, s₁.heap.objs.size, []⟩ 40)
    (h : Cx.Room ⟨A, env, s₁.heap, s₁.heap.objs.size, []⟩ 40 → Ex G ⟨A, env, s₁.heap, s₁.heap.objs.size, []⟩ [("script", .lst (ns.map .int))] body (fun f _ => f = .ret (.bool true)))
    (q : ∀ h' tk' m', Fr s₁.heap s₁.heap.objs.size h' m' → Qk (.ret (.bool true)) { s₁ with heap := h', toks := tk' }) :
    wpAny G.M A (execs body env) Qk Ek ⟨h₁, s₁.gens, s₁.drawn, tk₁, s₁.os⟩ := by
  have ok : Cx.Ok G ⟨A, env, s₁.heap, s₁.heap.objs.size, []⟩ := ⟨hA, KX, T, ek, eg, eb, fun _ h => by simp at h, fun a o e => hideAll_get _ (KX a o e) (by simp)⟩
  have S : St G ⟨A, env, s₁.heap, s₁.heap.objs.size, []⟩ [("script", .lst (ns.map .int))] m [(s₁.heap.objs.size + 1, o)] [] { s₁ with heap := h₁, toks := tk₁ } := by
    refine ⟨F, by simpa using N, by simp, fun x pv e => ?_⟩
    simp only [List.lookup] at e
    split at e
    · rename_i hx
      obtain rfl := beq_iff_eq.mp hx
      cases e
      refine ⟨.ref lst, .cel hk hc (.head _) ho, .rep (.lst ?_ (ints_repL hI))⟩
      obtain ⟨ob, hob, r⟩ := hL
      refine ⟨ob, ?_, r⟩
      rw [mem_vw]
      refine ⟨F.keep _ _ hob, fun hm => ?_⟩
      have hlt := Heap.lt_size hob
      simp only [List.nil_append, List.append_nil, List.map_cons, List.map_nil, List.mem_cons, List.not_mem_nil, or_false] at hm
      rcases hm with hm | hm
      · rw [hm] at hlt; exact absurd hlt (Nat.lt_irrefl _)
      · rw [hm] at hlt; exact absurd (Nat.lt_of_succ_lt hlt) (Nat.lt_irrefl _)
    · cases e
  refine wpAny_mono (h hrm m _ [] _ ok S) (fun fl s2 hp => ?_) bot_elim
  obtain ⟨h', tk, m', ow', σ', f, rfl, k1, S1, r1, rfl⟩ := hp
  cases r1 with
  | ret r => cases r with | bool => exact q h' tk _ S1.F
end Mine
end Part13
section Part14
set_option maxRecDepth 100000
set_option autoImplicit false
set_option linter.unusedVariables false
namespace Mine
theorem whole_int {L : Nat} : (1 : Int) * 2 ^ (2 * (L : Int)).toNat = ((2 ^ (2 * L) : Nat) : Int) := by
  rw [Int.one_mul, show (2 * (L : Int)).toNat = 2 * L by omega, Int.natCast_pow]; rfl
theorem whole_ne {L : Nat} : ((2 ^ (2 * L) : Nat) : Int) ≠ 0 := by
  have : 0 < 2 ^ (2 * L) := Nat.pow_pos (by decide)
  omega
theorem pow_int {m : Nat} : (1 : Int) * 2 ^ (m : Int).toNat = ((2 ^ m : Nat) : Int) := by
  rw [Int.one_mul, Int.toNat_natCast, Int.natCast_pow]; rfl
theorem pow_ne {m : Nat} : ((2 ^ m : Nat) : Int) ≠ 0 := by
  have : 0 < 2 ^ m := Nat.pow_pos (by decide)
  omega
theorem fmod_whole (x : Int) (L : Nat) : ∃ P : Nat, P < 2 ^ (2 * L) ∧ x.fmod ((2 ^ (2 * L) : Nat) : Int) = (P : Int) := by
  have h : (0 : Int) < ((2 ^ (2 * L) : Nat) : Int) := by
    have : 0 < 2 ^ (2 * L) := Nat.pow_pos (by decide)
    omega
  have h1 := Int.fmod_nonneg_of_pos x h
  have h2 := Int.fmod_lt_of_pos x h
  exact ⟨(x.fmod ((2 ^ (2 * L) : Nat) : Int)).toNat, by omega, by omega⟩
theorem place_small {L P : Nat} (hL : L ≤ 30) (hP : P < 2 ^ (2 * L)) : ((P : Int)).natAbs < 2 ^ 100 := by
  have : 2 ^ (2 * L) ≤ 2 ^ 60 := Nat.pow_le_pow_right (by decide) (by omega)
  omega
theorem place_int {P L : Nat} : (P : Int) * 2 ^ (61 - 2 * (L : Int)).toNat = ((P * 2 ^ (61 - 2 * L) : Nat) : Int) := by
  rw [Int.natCast_mul, Int.natCast_pow, show (61 - 2 * (L : Int)).toNat = 61 - 2 * L by omega]; rfl
theorem mid_lt {o m : Nat} : mid o m < 2 ^ m := by
  unfold mid
  have : 0 < 2 ^ m := Nat.pow_pos (by decide)
  by_cases h : m = 0
  · rw [if_pos h]; exact this
  · rw [if_neg h]
    obtain ⟨k, rfl⟩ : ∃ k, m = k + 1 := ⟨m - 1, by omega⟩
    rw [Nat.add_sub_cancel, Nat.pow_succ] at *
    split <;> omega
theorem mid_mod {A o m : Nat} : ((A * 2 ^ m + mid o m : Nat) : Int).fmod ((2 ^ m : Nat) : Int) = (mid o m : Int) := by
  rw [fmod_nat, Nat.mul_comm, Nat.mul_add_mod, Nat.mod_eq_of_lt mid_lt]
theorem fmod_fit (x : Int) (n : Nat) (h : 0 < n) : ∃ r : Nat, r < n ∧ x.fmod (n : Int) = (r : Int) := by
  have h' : (0 : Int) < (n : Int) := by omega
  have h1 := Int.fmod_nonneg_of_pos x h'
  have h2 := Int.fmod_lt_of_pos x h'
  exact ⟨(x.fmod (n : Int)).toNat, by omega, by omega⟩
theorem log2_small {x : Int} (h : x.natAbs < 2 ^ 64) : x.natAbs.log2 < 9000 := by
  by_cases h0 : x.natAbs = 0
  · rw [h0]; decide
  · have := (Nat.log2_lt h0).mpr h
    omega
theorem mid_abs {o m : Nat} (h0 : ¬m = 0) : ((((2 * ((mid o m : Nat) : Int) + 1 - ((2 ^ m : Nat) : Int)).natAbs : Nat) : Int) == 1) = true := by
  unfold mid
  rw [if_neg h0]
  obtain ⟨k, rfl⟩ : ∃ k, m = k + 1 := ⟨m - 1, by omega⟩
  have : 0 < 2 ^ k := Nat.pow_pos (by decide)
  rw [Nat.add_sub_cancel, Nat.pow_succ]
  rw [beq_iff_eq]
  split <;> omega
end Mine
end Part14
section Part15
set_option maxRecDepth 100000
set_option autoImplicit false
set_option linter.unusedVariables false
namespace Mine
/-! the curve of another orientation -/
def Sim (t n x y x2 y2 : Nat) : Prop :=
  if t % 2 = 0 then (if t / 2 = 0 then x2 = x ∧ y2 = y else x2 + x + 1 = 2 ^ n ∧ y2 + y + 1 = 2 ^ n)
  else (if t / 2 = 0 then x2 = y ∧ y2 = x else x2 + y + 1 = 2 ^ n ∧ y2 + x + 1 = 2 ^ n)
theorem sim_one : ∀ t < 4, ∀ o < 4, ∀ d < 4, Sim t 1 (pij o d / 2) (pij o d % 2) (pij (o ^^^ t) d / 2) (pij (o ^^^ t) d % 2) := by unfold Sim; decide
theorem xor_right : ∀ t < 4, ∀ o < 4, ∀ d < 4, (o ^^^ t) ^^^ po d = (o ^^^ po d) ^^^ t := by decide
theorem ho_sim {t o : Nat} (ht : t < 4) (h : o < 4) : ∀ n q, ho n (o ^^^ t) q = ho n o q ^^^ t
  | 0, _ => rfl
  | n + 1, q => by
    simp only [ho]
    rw [ho_sim ht h n (q / 4)]
    exact xor_right t ht _ (ho_lt h n _) _ (m4 q)
theorem sim {t o : Nat} (ht : t < 4) (h : o < 4) : ∀ n q, Sim t n (hx n o q) (hy n o q) (hx n (o ^^^ t) q) (hy n (o ^^^ t) q)
  | 0, _ => by
    unfold Sim; simp [hx, hy]
  | n + 1, q => by
    have ih := sim ht h n (q / 4)
    have s1 := sim_one t ht _ (ho_lt h n (q / 4)) _ (m4 q)
    simp only [hx, hy]
    rw [ho_sim ht h n (q / 4)]
    unfold Sim at *
    rw [Nat.pow_succ]
    split <;> split <;> simp_all <;> omega

/-! the curve run backwards -/
def mo (O o : Nat) : Nat := o ^^^ (2 * ((o ^^^ O) % 2))
def Mir (O n x y x2 y2 : Nat) : Prop := if O % 2 = 0 then x2 + x + 1 = 2 ^ n ∧ y2 = y else x2 = x ∧ y2 + y + 1 = 2 ^ n
theorem mir_one : ∀ O < 4, ∀ o < 4, ∀ d < 4, Mir O 1 (pij o d / 2) (pij o d % 2) (pij (mo O o) (3 - d) / 2) (pij (mo O o) (3 - d) % 2) ∧ mo O o ^^^ po (3 - d) = mo O (o ^^^ po d) := by unfold Mir; decide
theorem mo_self (O : Nat) : mo O O = O := by unfold mo; rw [Nat.xor_self]; simp
theorem back_div {n q : Nat} (h : q < 4 ^ (n + 1)) : (4 ^ (n + 1) - 1 - q) / 4 = 4 ^ n - 1 - q / 4 ∧ (4 ^ (n + 1) - 1 - q) % 4 = 3 - q % 4 ∧ q / 4 < 4 ^ n := by
  rw [Nat.pow_succ] at *; omega
theorem ho_mir {O : Nat} (h : O < 4) : ∀ n q, q < 4 ^ n → ho n O (4 ^ n - 1 - q) = mo O (ho n O q)
  | 0, _, _ => (mo_self O).symm
  | n + 1, q, hq => by
    obtain ⟨e1, e2, e3⟩ := back_div hq
    simp only [ho]
    rw [e1, e2, ho_mir h n _ e3]
    exact (mir_one O h _ (ho_lt h n _) _ (m4 q)).2
theorem mir {O : Nat} (h : O < 4) : ∀ n q, q < 4 ^ n → Mir O n (hx n O q) (hy n O q) (hx n O (4 ^ n - 1 - q)) (hy n O (4 ^ n - 1 - q))
  | 0, _, _ => by unfold Mir; simp [hx, hy]
  | n + 1, q, hq => by
    obtain ⟨e1, e2, e3⟩ := back_div hq
    have ih := mir h n _ e3
    have s1 := (mir_one O h _ (ho_lt h n (q / 4)) _ (m4 q)).1
    simp only [hx, hy]
    rw [e1, e2, ho_mir h n _ e3]
    unfold Mir at *
    rw [Nat.pow_succ]
    split <;> simp_all <;> omega

/-! the way in and out of a cell: corners -/
def inX (o : Nat) : Nat := if o < 2 then 0 else 1
def outX (o : Nat) : Nat := if o = 0 ∨ o = 3 then 1 else 0
def outY (o : Nat) : Nat := if o = 0 ∨ o = 3 then 0 else 1
theorem con_one : ∀ o < 4, (∀ d < 3, pij o d / 2 + outX (o ^^^ po d) = pij o (d + 1) / 2 + inX (o ^^^ po (d + 1)) ∧ pij o d % 2 + outY (o ^^^ po d) = pij o (d + 1) % 2 + inX (o ^^^ po (d + 1))) ∧
    (pij o 3 / 2 + outX (o ^^^ po 3) = 2 * outX o ∧ pij o 3 % 2 + outY (o ^^^ po 3) = 2 * outY o) ∧ (pij o 0 / 2 + inX (o ^^^ po 0) = 2 * inX o ∧ pij o 0 % 2 + inX (o ^^^ po 0) = 2 * inX o) := by decide
theorem con {O : Nat} (h : O < 4) : ∀ n q, q + 1 < 4 ^ n → hx n O q + outX (ho n O q) = hx n O (q + 1) + inX (ho n O (q + 1)) ∧ hy n O q + outY (ho n O q) = hy n O (q + 1) + inX (ho n O (q + 1))
  | 0, q, hq => by simp at hq
  | n + 1, q, hq => by
    simp only [hx, hy, ho]
    by_cases d3 : q % 4 = 3
    · have e1 : (q + 1) / 4 = q / 4 + 1 := by omega
      have e2 : (q + 1) % 4 = 0 := by omega
      have ih := con h n (q / 4) (by rw [Nat.pow_succ] at hq; omega)
      rw [e1, e2, d3]
      have s1 := (con_one _ (ho_lt h n (q / 4))).2.1
      have s2 := (con_one _ (ho_lt h n (q / 4 + 1))).2.2
      omega
    · have e1 : (q + 1) / 4 = q / 4 := by omega
      have e2 : (q + 1) % 4 = q % 4 + 1 := by omega
      rw [e1, e2]
      have s1 := (con_one _ (ho_lt h n (q / 4))).1 (q % 4) (by omega)
      omega
theorem side {O n q : Nat} (h : O < 4) (hq : q + 1 < 4 ^ n) : ((hx n O q : Int) - (hx n O (q + 1) : Int)).natAbs + ((hy n O q : Int) - (hy n O (q + 1) : Int)).natAbs = 1 := by
  have := con h n q hq
  have : (outX (ho n O q) = 1 ∧ outY (ho n O q) = 0) ∨ (outX (ho n O q) = 0 ∧ outY (ho n O q) = 1) := by unfold outX outY; split <;> simp
  have : inX (ho n O (q + 1)) = 0 ∨ inX (ho n O (q + 1)) = 1 := by unfold inX; split <;> simp
  omega

/-! squares within squares -/
theorem cell_x {T d p o b : Nat} (hd : b < 4 ^ d) : hx (T + d) o (p * 4 ^ d + b) = hx T o p * 2 ^ d + hx d (ho T o p) b := by
  rw [hx_add, hx_drop]
  rw [Nat.mul_comm p, Nat.mul_add_div (Nat.pow_pos (by decide)), Nat.div_eq_of_lt hd]; rfl
theorem cell_y {T d p o b : Nat} (hd : b < 4 ^ d) : hy (T + d) o (p * 4 ^ d + b) = hy T o p * 2 ^ d + hy d (ho T o p) b := by
  rw [hy_add, hy_drop]
  rw [Nat.mul_comm p, Nat.mul_add_div (Nat.pow_pos (by decide)), Nat.div_eq_of_lt hd]; rfl
theorem cell_o {T d p o b : Nat} (hd : b < 4 ^ d) : ho (T + d) o (p * 4 ^ d + b) = ho d (ho T o p) b := by
  rw [ho_add, ho_drop]
  rw [Nat.mul_comm p, Nat.mul_add_div (Nat.pow_pos (by decide)), Nat.div_eq_of_lt hd]; rfl
theorem pow4 (n : Nat) : 2 ^ (2 * n) = 4 ^ n := by rw [Nat.pow_mul]
theorem cell_f {T d p b f P : Nat} (hp : p = f * 4 ^ T + P) (hP : P < 4 ^ T) (hd : b < 4 ^ d) : (p * 4 ^ d + b) / 2 ^ (2 * (T + d)) = f := by
  have : b / 4 ^ d = 0 := Nat.div_eq_of_lt hd
  rw [pow4, Nat.add_comm T d, Nat.pow_add, ← Nat.div_div_eq_div_mul, Nat.mul_comm p, Nat.mul_add_div (Nat.pow_pos (by decide)), this, hp, Nat.add_zero, Nat.mul_comm f, Nat.mul_add_div (Nat.pow_pos (by decide)), Nat.div_eq_of_lt hP]; rfl
theorem shr_sq {A B m : Nat} {k : Int} (hk : k = (m : Int)) (hB : B < 2 ^ m) : ((A * 2 ^ m + B : Nat) : Int).fdiv (2 ^ k.toNat) = (A : Int) := by
  subst hk
  rw [shr_int, Int.toNat_natCast, Nat.mul_comm, Nat.mul_add_div (Nat.pow_pos (by decide)), Nat.div_eq_of_lt hB]; rfl
theorem one_f {T f P : Nat} (hP : P < 2 ^ (2 * T)) : (f * 2 ^ (2 * T) + P) / 2 ^ (2 * T) = f := by
  rw [Nat.mul_comm, Nat.mul_add_div (Nat.pow_pos (by decide)), Nat.div_eq_of_lt hP]; rfl
theorem one_lt {T f P : Nat} (hf : f < 6) (hP : P < 2 ^ (2 * T)) : f * 2 ^ (2 * T) + P < 6 * 2 ^ (2 * T) := by
  have : f * 2 ^ (2 * T) ≤ 5 * 2 ^ (2 * T) := Nat.mul_le_mul_right _ (by omega)
  omega
theorem shl_nat {a n : Nat} : (a : Int) * 2 ^ (n : Int).toNat = ((a * 2 ^ n : Nat) : Int) := by
  rw [shl_int, Int.toNat_natCast]
theorem fmod_nat' (a n : Nat) : (a : Int).fmod (n : Int) = ((a % n : Nat) : Int) := fmod_nat a n
theorem whole_lt {T d p : Nat} (hp : p < 6 * 2 ^ (2 * T)) : p * 4 ^ d + 4 ^ d ≤ 6 * 2 ^ (2 * (T + d)) ∧ (p + 1) * 4 ^ d = p * 4 ^ d + 4 ^ d := by
  have h1 : (p + 1) * 4 ^ d ≤ 6 * 2 ^ (2 * T) * 4 ^ d := Nat.mul_le_mul_right _ (by omega)
  have e : (p + 1) * 4 ^ d = p * 4 ^ d + 4 ^ d := by rw [Nat.add_mul, Nat.one_mul]
  rw [pow4] at h1
  rw [pow4, Nat.pow_add, ← Nat.mul_assoc]
  exact ⟨by omega, e⟩
theorem many_small {d : Nat} (hd : d ≤ 4) : (((2 ^ (2 * d) : Nat) : Int)).natAbs < 2 ^ 100 := by
  have : 2 ^ (2 * d) ≤ 2 ^ 8 := Nat.pow_le_pow_right (by decide) (by omega)
  rw [Int.natAbs_natCast]
  exact Nat.lt_of_le_of_lt this (by decide)
theorem many_pos {d : Nat} (h : 1 ≤ d) : 4 ≤ 4 ^ d := by
  have := Nat.pow_le_pow_right (n := 4) (by decide) h
  simpa using this
theorem many_ne {d : Nat} (h : 1 ≤ d) : ((4 ^ d : Nat) : Int) - 1 ≠ 0 := by
  have := many_pos h
  omega
theorem many_sub {d : Nat} (h : 1 ≤ d) : ((4 ^ d : Nat) : Int) - 1 = ((4 ^ d - 1 : Nat) : Int) := by
  have := many_pos h
  omega
theorem digit_int {n d k : Nat} (hk : k < d) : PySem.Builtin.bitAnd ((n : Int).fdiv (2 ^ (2 * ((d : Int) - 1 - (k : Int))).toNat)) 3 = ((n / 4 ^ (d - 1 - k) % 4 : Nat) : Int) := by
  rw [shr_int, show (2 * ((d : Int) - 1 - (k : Int))).toNat = 2 * (d - 1 - k) by omega, pow4]
  exact and_mask _ 2
theorem part_lt {n d k : Nat} (hn : n < 4 ^ d) (hk : k ≤ d) : n / 4 ^ (d - k) < 4 ^ k := by
  rw [Nat.div_lt_iff_lt_mul (Nat.pow_pos (by decide)), ← Nat.pow_add, show k + (d - k) = d by omega]; exact hn
theorem twin_lt {U k q m : Nat} (hq : q < 6 * 2 ^ (2 * U)) (hm : m < 4 ^ k) : q * 4 ^ k + m < 6 * 2 ^ (2 * (U + k)) := by
  have := (whole_lt (d := k) hq).1
  omega
theorem twin_next {n d k q : Nat} (hk : k < d) : 4 * (q * 4 ^ k + n / 4 ^ (d - k)) + n / 4 ^ (d - 1 - k) % 4 = q * 4 ^ (k + 1) + n / 4 ^ (d - (k + 1)) := by
  rw [show d - k = (d - 1 - k) + 1 by omega, show d - (k + 1) = d - 1 - k by omega, Nat.pow_succ 4 (d - 1 - k), ← Nat.div_div_eq_div_mul, Nat.pow_succ, ← Nat.mul_assoc]
  omega
theorem rng_d : ∀ d : Nat, 1 ≤ d ∧ d ≤ 4 → PySem.Builtin.Range.small 0 (d : Int) 1 = true ∧ PySem.Builtin.Range.rangeSize 0 (d : Int) 1 = (d : Int)
  | 1, _ => by decide
  | 2, _ => by decide
  | 3, _ => by decide
  | 4, _ => by decide
  | 0, h => absurd h.1 (by decide)
  | n + 5, h => absurd h.2 (by omega)
theorem sub_sq (A B : Nat) : ((A + B : Nat) : Int) - (A : Int) = (B : Int) := by omega
theorem mo_int (O o : Nat) : ((mo O o : Nat) : Int) = PySem.Builtin.bitXor (o : Int) (2 * (PySem.Builtin.bitXor (o : Int) (O : Int)).fmod 2) := by
  rw [xor_nat, show ((o ^^^ O : Nat) : Int).fmod 2 = (((o ^^^ O) % 2 : Nat) : Int) from fmod_nat _ 2, show (2 : Int) * (((o ^^^ O) % 2 : Nat) : Int) = ((2 * ((o ^^^ O) % 2) : Nat) : Int) from rfl, xor_nat]; rfl
theorem and_two_bit : ∀ t < 4, (PySem.Builtin.bitAnd ((t : Nat) : Int) 2 != 0) = decide (t / 2 ≠ 0) := by decide
theorem and_one_bit : ∀ t < 4, (PySem.Builtin.bitAnd ((t : Nat) : Int) 1 != 0) = decide (t % 2 ≠ 0) := by decide
theorem sim_even {t n x y x2 y2 : Nat} (h : Sim t n x y x2 y2) (he : t % 2 = 0) : (if t / 2 = 0 then x else 2 ^ n - 1 - x) = x2 ∧ (if t / 2 = 0 then y else 2 ^ n - 1 - y) = y2 := by
  unfold Sim at h
  rw [if_pos he] at h
  by_cases g : t / 2 = 0
  · rw [if_pos g] at h ⊢; rw [if_pos g]; omega
  · rw [if_neg g] at h ⊢; rw [if_neg g]; omega
theorem sim_odd {t n x y x2 y2 : Nat} (h : Sim t n x y x2 y2) (he : ¬t % 2 = 0) : (if t / 2 = 0 then y else 2 ^ n - 1 - y) = x2 ∧ (if t / 2 = 0 then x else 2 ^ n - 1 - x) = y2 := by
  unfold Sim at h
  rw [if_neg he] at h
  by_cases g : t / 2 = 0
  · rw [if_pos g] at h ⊢; rw [if_pos g]; omega
  · rw [if_neg g] at h ⊢; rw [if_neg g]; omega
theorem road_int (a b : Nat) : ((a : Int) + (b : Int)) = ((a + b : Nat) : Int) := rfl
theorem fmod_two (a : Nat) : (a : Int).fmod 2 = ((a % 2 : Nat) : Int) := fmod_nat a 2
end Mine
end Part15
section Part16
open PySem PySem.W PyProof.Rows
set_option Elab.async false
set_option maxRecDepth 100000
set_option maxHeartbeats 8000000
namespace Mine
open_top hd for PySem.Challenge.rw_eg5039_02
end Mine
end Part16
section Part17
open PySem PySem.W PySem.Calls
set_option maxRecDepth 100000
set_option autoImplicit false
set_option linter.unusedVariables false
namespace Mine
@[reducible] noncomputable def gl (w : World) (mean : ExcName → Option Value) (mg mb : Str → Option Value) : Gl :=
  { prog := PySem.Challenge.pw_eg5039_02, w := w, K := Mine.hd.heap_39 w.params, p := Mine.hd.view_39, loose := looseW Mine.hd.view_39 [Str.ofString "POS_TO_ORIENTATION", Str.ofString "LOOKUP_IJ", Str.ofString "CellId"],
    mean := mean, mg := mg, mb := mb, C := 435, CP := 0 }
section
variable {w : World} {mean : ExcName → Option Value} {mg mb : Str → Option Value}
theorem own_id : OwnAttr (gl w mean mg mb) (gl w mean mg mb).C "_CellId__id" := ⟨by kernel_rfl, by kernel_rfl, by kernel_rfl⟩
theorem cls_attr : ClassAttr (gl w mean mg mb) (gl w mean mg mb).C := ⟨by kernel_rfl, by kernel_rfl, by kernel_rfl, by kernel_rfl, by kernel_rfl, by kernel_rfl, by kernel_rfl⟩
theorem keep_C : keepIn (gl w mean mg mb).K (.ref (gl w mean mg mb).C) = true := by kernel_rfl
theorem isin_C : isIn (gl w mean mg mb).K (.ref (gl w mean mg mb).C) (gl w mean mg mb).C = true := by kernel_rfl
theorem new_C : NewAt (gl w mean mg mb) (gl w mean mg mb).C 46 "_CellId__id" := ⟨by kernel_rfl, by kernel_rfl, by kernel_rfl, by kernel_rfl, by kernel_rfl, by kernel_rfl, by kernel_rfl, by kernel_rfl⟩
theorem cmp_Eq : CmpAt (gl w mean mg mb) (gl w mean mg mb).C .Eq 67 := ⟨by kernel_rfl, by kernel_rfl, by kernel_rfl⟩
theorem cmp_NotEq : CmpAt (gl w mean mg mb) (gl w mean mg mb).C .NotEq 74 := ⟨by kernel_rfl, by kernel_rfl, by kernel_rfl⟩
theorem cmp_Lt : CmpAt (gl w mean mg mb) (gl w mean mg mb).C .Lt 81 := ⟨by kernel_rfl, by kernel_rfl, by kernel_rfl⟩
@[reducible] def f_init : Addr := 46
@[reducible] def f_eq : Addr := 67
theorem m_eq : MethOf (gl w mean mg mb) (gl w mean mg mb).C "__eq__" 67 := ⟨by kernel_rfl, by kernel_rfl, by kernel_rfl, by kernel_rfl, by decide⟩
@[reducible] def f_ne : Addr := 74
@[reducible] def f_lt : Addr := 81
@[reducible] def f_from_face_pos_level : Addr := 109
theorem cm_from_face_pos_level : CmOf (gl w mean mg mb) (gl w mean mg mb).C "from_face_pos_level" 111 109 [Value.bool false] := ⟨by kernel_rfl, by kernel_rfl, by kernel_rfl, by kernel_rfl, by kernel_rfl, by kernel_rfl⟩
@[reducible] def f_from_face_ij : Addr := 119
theorem cm_from_face_ij : CmOf (gl w mean mg mb) (gl w mean mg mb).C "from_face_ij" 121 119 [Value.bool false] := ⟨by kernel_rfl, by kernel_rfl, by kernel_rfl, by kernel_rfl, by kernel_rfl, by kernel_rfl⟩
@[reducible] def f_lsb_for_level : Addr := 159
theorem cm_lsb_for_level : CmOf (gl w mean mg mb) (gl w mean mg mb).C "lsb_for_level" 161 159 [Value.bool false] := ⟨by kernel_rfl, by kernel_rfl, by kernel_rfl, by kernel_rfl, by kernel_rfl, by kernel_rfl⟩
@[reducible] def f_parent : Addr := 169
theorem m_parent : MethOf (gl w mean mg mb) (gl w mean mg mb).C "parent" 169 := ⟨by kernel_rfl, by kernel_rfl, by kernel_rfl, by kernel_rfl, by decide⟩
@[reducible] def f_child : Addr := 176
theorem m_child : MethOf (gl w mean mg mb) (gl w mean mg mb).C "child" 176 := ⟨by kernel_rfl, by kernel_rfl, by kernel_rfl, by kernel_rfl, by decide⟩
@[reducible] def f_is_face : Addr := 197
theorem m_is_face : MethOf (gl w mean mg mb) (gl w mean mg mb).C "is_face" 197 := ⟨by kernel_rfl, by kernel_rfl, by kernel_rfl, by kernel_rfl, by decide⟩
@[reducible] def f_id : Addr := 204
theorem m_id : MethOf (gl w mean mg mb) (gl w mean mg mb).C "id" 204 := ⟨by kernel_rfl, by kernel_rfl, by kernel_rfl, by kernel_rfl, by decide⟩
@[reducible] def f_is_valid : Addr := 211
theorem m_is_valid : MethOf (gl w mean mg mb) (gl w mean mg mb).C "is_valid" 211 := ⟨by kernel_rfl, by kernel_rfl, by kernel_rfl, by kernel_rfl, by decide⟩
@[reducible] def f_lsb : Addr := 218
theorem m_lsb : MethOf (gl w mean mg mb) (gl w mean mg mb).C "lsb" 218 := ⟨by kernel_rfl, by kernel_rfl, by kernel_rfl, by kernel_rfl, by decide⟩
@[reducible] def f_face : Addr := 225
theorem m_face : MethOf (gl w mean mg mb) (gl w mean mg mb).C "face" 225 := ⟨by kernel_rfl, by kernel_rfl, by kernel_rfl, by kernel_rfl, by decide⟩
@[reducible] def f_pos : Addr := 232
theorem m_pos : MethOf (gl w mean mg mb) (gl w mean mg mb).C "pos" 232 := ⟨by kernel_rfl, by kernel_rfl, by kernel_rfl, by kernel_rfl, by decide⟩
@[reducible] def f_is_leaf : Addr := 239
theorem m_is_leaf : MethOf (gl w mean mg mb) (gl w mean mg mb).C "is_leaf" 239 := ⟨by kernel_rfl, by kernel_rfl, by kernel_rfl, by kernel_rfl, by decide⟩
@[reducible] def f_level : Addr := 246
theorem m_level : MethOf (gl w mean mg mb) (gl w mean mg mb).C "level" 246 := ⟨by kernel_rfl, by kernel_rfl, by kernel_rfl, by kernel_rfl, by decide⟩
@[reducible] def f_child_begin : Addr := 253
theorem m_child_begin : MethOf (gl w mean mg mb) (gl w mean mg mb).C "child_begin" 253 := ⟨by kernel_rfl, by kernel_rfl, by kernel_rfl, by kernel_rfl, by decide⟩
@[reducible] def f_child_end : Addr := 260
theorem m_child_end : MethOf (gl w mean mg mb) (gl w mean mg mb).C "child_end" 260 := ⟨by kernel_rfl, by kernel_rfl, by kernel_rfl, by kernel_rfl, by decide⟩
@[reducible] def f_prev : Addr := 267
theorem m_prev : MethOf (gl w mean mg mb) (gl w mean mg mb).C "prev" 267 := ⟨by kernel_rfl, by kernel_rfl, by kernel_rfl, by kernel_rfl, by decide⟩
@[reducible] def f_next : Addr := 274
theorem m_next : MethOf (gl w mean mg mb) (gl w mean mg mb).C "next" 274 := ⟨by kernel_rfl, by kernel_rfl, by kernel_rfl, by kernel_rfl, by decide⟩
@[reducible] def f_begin : Addr := 302
theorem cm_begin : CmOf (gl w mean mg mb) (gl w mean mg mb).C "begin" 304 302 [Value.bool false] := ⟨by kernel_rfl, by kernel_rfl, by kernel_rfl, by kernel_rfl, by kernel_rfl, by kernel_rfl⟩
@[reducible] def f_end : Addr := 312
theorem cm_end : CmOf (gl w mean mg mb) (gl w mean mg mb).C "end" 314 312 [Value.bool false] := ⟨by kernel_rfl, by kernel_rfl, by kernel_rfl, by kernel_rfl, by kernel_rfl, by kernel_rfl⟩
@[reducible] def f_prev_wrap : Addr := 352
theorem m_prev_wrap : MethOf (gl w mean mg mb) (gl w mean mg mb).C "prev_wrap" 352 := ⟨by kernel_rfl, by kernel_rfl, by kernel_rfl, by kernel_rfl, by decide⟩
@[reducible] def f_next_wrap : Addr := 359
theorem m_next_wrap : MethOf (gl w mean mg mb) (gl w mean mg mb).C "next_wrap" 359 := ⟨by kernel_rfl, by kernel_rfl, by kernel_rfl, by kernel_rfl, by decide⟩
@[reducible] def f_advance_wrap : Addr := 366
theorem m_advance_wrap : MethOf (gl w mean mg mb) (gl w mean mg mb).C "advance_wrap" 366 := ⟨by kernel_rfl, by kernel_rfl, by kernel_rfl, by kernel_rfl, by decide⟩
@[reducible] def f_advance : Addr := 373
theorem m_advance : MethOf (gl w mean mg mb) (gl w mean mg mb).C "advance" 373 := ⟨by kernel_rfl, by kernel_rfl, by kernel_rfl, by kernel_rfl, by decide⟩
@[reducible] def f_to_face_ij_orientation : Addr := 387
theorem m_to_face_ij_orientation : MethOf (gl w mean mg mb) (gl w mean mg mb).C "to_face_ij_orientation" 387 := ⟨by kernel_rfl, by kernel_rfl, by kernel_rfl, by kernel_rfl, by decide⟩
@[reducible] def f_get_edge_neighbors : Addr := 394
theorem m_get_edge_neighbors : MethOf (gl w mean mg mb) (gl w mean mg mb).C "get_edge_neighbors" 394 := ⟨by kernel_rfl, by kernel_rfl, by kernel_rfl, by kernel_rfl, by decide⟩
@[reducible] def f_get_vertex_neighbors : Addr := 401
theorem m_get_vertex_neighbors : MethOf (gl w mean mg mb) (gl w mean mg mb).C "get_vertex_neighbors" 401 := ⟨by kernel_rfl, by kernel_rfl, by kernel_rfl, by kernel_rfl, by decide⟩
@[reducible] def f_get_size_ij : Addr := 415
theorem m_get_size_ij : MethOf (gl w mean mg mb) (gl w mean mg mb).C "get_size_ij" 415 := ⟨by kernel_rfl, by kernel_rfl, by kernel_rfl, by kernel_rfl, by decide⟩
theorem cv_MAX_LEVEL : ClsVal (gl w mean mg mb) (gl w mean mg mb).C "MAX_LEVEL" (.int 30 1255) := ⟨by kernel_rfl, by kernel_rfl, by kernel_rfl⟩
theorem cv_POS_BITS : ClsVal (gl w mean mg mb) (gl w mean mg mb).C "POS_BITS" (.int 61 1260) := ⟨by kernel_rfl, by kernel_rfl, by kernel_rfl⟩
theorem cv_MAX_SIZE : ClsVal (gl w mean mg mb) (gl w mean mg mb).C "MAX_SIZE" (.int 1073741824 1263) := ⟨by kernel_rfl, by kernel_rfl, by kernel_rfl⟩
theorem cv_WRAP_OFFSET : ClsVal (gl w mean mg mb) (gl w mean mg mb).C "WRAP_OFFSET" (.int 13835058055282163712 1265) := ⟨by kernel_rfl, by kernel_rfl, by kernel_rfl⟩
theorem cv_NUM_FACES : ClsVal (gl w mean mg mb) (gl w mean mg mb).C "NUM_FACES" (.int 6 1253) := ⟨by kernel_rfl, by kernel_rfl, by kernel_rfl⟩
theorem cv_FACE_BITS : ClsVal (gl w mean mg mb) (gl w mean mg mb).C "FACE_BITS" (.int 3 1251) := ⟨by kernel_rfl, by kernel_rfl, by kernel_rfl⟩
theorem g_LOOKUP_BITS : nsIn (gl w mean mg mb).K mainGlobals "LOOKUP_BITS" = some (some (.int 4 196)) := by kernel_rfl
theorem g_SWAP_MASK : nsIn (gl w mean mg mb).K mainGlobals "SWAP_MASK" = some (some (.int 1 198)) := by kernel_rfl
theorem g_INVERT_MASK : nsIn (gl w mean mg mb).K mainGlobals "INVERT_MASK" = some (some (.int 2 200)) := by kernel_rfl
theorem g_POS_TO_ORIENTATION : nsIn (gl w mean mg mb).K mainGlobals "POS_TO_ORIENTATION" = some (some (.ref 22)) := by kernel_rfl
theorem g_LOOKUP_IJ : nsIn (gl w mean mg mb).K mainGlobals "LOOKUP_IJ" = some (some (.ref 31)) := by kernel_rfl
theorem g_CellId : nsIn (gl w mean mg mb).K mainGlobals "CellId" = some (some (.ref (gl w mean mg mb).C)) := by kernel_rfl
theorem g_law_cell : nsIn (gl w mean mg mb).K mainGlobals "_law_cell" = some (some (.ref 446)) := by kernel_rfl
@[reducible] def d_law_cell : Addr := 446
theorem kp_law_cell : keepIn (gl w mean mg mb).K (.ref 446) = true := by kernel_rfl
theorem g_law_plain : nsIn (gl w mean mg mb).K mainGlobals "_law_plain" = some (some (.ref 453)) := by kernel_rfl
@[reducible] def d_law_plain : Addr := 453
theorem kp_law_plain : keepIn (gl w mean mg mb).K (.ref 453) = true := by kernel_rfl
theorem g_law_middle : nsIn (gl w mean mg mb).K mainGlobals "_law_middle" = some (some (.ref 460)) := by kernel_rfl
@[reducible] def d_law_middle : Addr := 460
theorem kp_law_middle : keepIn (gl w mean mg mb).K (.ref 460) = true := by kernel_rfl
theorem g_law : nsIn (gl w mean mg mb).K mainGlobals "law" = some (some (.ref 465)) := by kernel_rfl
@[reducible] def d_law : Addr := 465
theorem kp_law : keepIn (gl w mean mg mb).K (.ref 465) = true := by kernel_rfl
theorem n_len : nsIn (gl w mean mg mb).K mainGlobals "len" = some none := by kernel_rfl
theorem bb_len : bootBuiltins "len" = some (.builtin "len") := by boot_fast
theorem n_range : nsIn (gl w mean mg mb).K mainGlobals "range" = some none := by kernel_rfl
theorem bb_range : bootBuiltins "range" = some (.type "range") := by boot_fast
theorem n_isinstance : nsIn (gl w mean mg mb).K mainGlobals "isinstance" = some none := by kernel_rfl
theorem bb_isinstance : bootBuiltins "isinstance" = some (.builtin "isinstance") := by boot_fast
theorem n_abs : nsIn (gl w mean mg mb).K mainGlobals "abs" = some none := by kernel_rfl
theorem bb_abs : bootBuiltins "abs" = some (.builtin "abs") := by boot_fast
theorem n_max : nsIn (gl w mean mg mb).K mainGlobals "max" = some none := by kernel_rfl
theorem bb_max : bootBuiltins "max" = some (.builtin "max") := by boot_fast
theorem n_min : nsIn (gl w mean mg mb).K mainGlobals "min" = some none := by kernel_rfl
theorem bb_min : bootBuiltins "min" = some (.builtin "min") := by boot_fast
theorem n_int : nsIn (gl w mean mg mb).K mainGlobals "int" = some none := by kernel_rfl
theorem bb_int : bootBuiltins "int" = some (.type "int") := by boot_fast
theorem n_bool : nsIn (gl w mean mg mb).K mainGlobals "bool" = some none := by kernel_rfl
theorem bb_bool : bootBuiltins "bool" = some (.type "bool") := by boot_fast
theorem n_list : nsIn (gl w mean mg mb).K mainGlobals "list" = some none := by kernel_rfl
theorem bb_list : bootBuiltins "list" = some (.type "list") := by boot_fast
theorem n_set : nsIn (gl w mean mg mb).K mainGlobals "set" = some none := by kernel_rfl
theorem bb_set : bootBuiltins "set" = some (.type "set") := by boot_fast
end
end Mine
end Part17
section Part18
open PySem PySem.W PySem.Calls
set_option maxRecDepth 100000
set_option autoImplicit false
set_option linter.unusedVariables false
namespace Mine


section
variable {w : World} {mean : ExcName → Option Value} {mg mb : Str → Option Value} {c : Cx} {σ : Sg}

theorem cl_id {n : Int} {Q : PV → Prop} (hr : c.Room 1) (h : Q (.int n)) : Cl (gl w mean mg mb) c σ (.ref f_id) [.cell n] Q := by
  refine cl_def (k := 0) (ns := ["self"]) (by rfl) (by kernel_rfl) hr (by (intro vs s hl; match vs, hl with | [_], _ => exact BindsTo.of_eq rfl)) (by decide) (by decide) (by decide) (fun A g0 fL hid hr' => ?_)
  with_reducible refine ex_cons ?_
  with_reducible refine' ex_return ?_
  (with_reducible refine' ev_Attr ?_ ?h_6); (case h_6 => with_unfolding_all rfl)
  (with_reducible refine' ev_name ?x_7 ?p_7 ?_ ?d_7); (case x_7 => rfl); (case p_7 => rfl); (case d_7 => decide)
  with_reducible refine' at_cell_id own_id ?_
  with_reducible refine seq_ret ?_
  with_reducible refine body_ret ?_
  exact h

theorem cl_lsb {L p : Nat} {Q : PV → Prop} (hr : c.Room 2) (h : Q (.int ((2 ^ (60 - 2 * L) : Nat) : Int))) : Cl (gl w mean mg mb) c σ (.ref f_lsb) [.cell (gid L p)] Q := by
  refine cl_def (k := 1) (ns := ["self"]) (by rfl) (by kernel_rfl) hr (by (intro vs s hl; match vs, hl with | [_], _ => exact BindsTo.of_eq rfl)) (by decide) (by decide) (by decide) (fun A g0 fL hid hr' => ?_)
  with_reducible refine ex_cons ?_
  with_reducible refine' ex_return ?_
  with_reducible refine' ev_BinOp ?_
  (with_reducible refine' ev_Method (pl := _) ?_ ?h_3); (case h_3 => with_unfolding_all rfl)
  (with_reducible refine' ev_name ?x_13 ?p_13 ?_ ?d_13); (case x_13 => rfl); (case p_13 => rfl); (case d_13 => decide)
  with_reducible refine' mth_cell0 m_id ?_
  (with_reducible refine' cl_id ?r_280 ?_); (case r_280 => (refine Cx.Room.le (by assumption) ?_; decide))
  with_reducible refine' ev_UnaryOp ?_
  (with_reducible refine' ev_Method (pl := _) ?_ ?h_290); (case h_290 => with_unfolding_all rfl)
  (with_reducible refine' ev_name ?x_310 ?p_310 ?_ ?d_310); (case x_310 => rfl); (case p_310 => rfl); (case d_310 => decide)
  with_reducible refine' mth_cell0 m_id ?_
  (with_reducible refine' cl_id ?r_668 ?_); (case r_668 => (refine Cx.Room.le (by assumption) ?_; decide))
  with_reducible refine' op_neg ?_
  with_reducible refine' op_and ?_
  with_reducible refine seq_ret ?_
  with_reducible refine body_ret ?_
  exact q_int (gid_lsb _ _) h

theorem cl_face {L p : Nat} {Q : PV → Prop} (hr : c.Room 2) (hL : L ≤ 30) (h : Q (.int ((p / 2 ^ (2 * L) : Nat) : Int))) : Cl (gl w mean mg mb) c σ (.ref f_face) [.cell (gid L p)] Q := by
  refine cl_def (k := 1) (ns := ["self"]) (by rfl) (by kernel_rfl) hr (by (intro vs s hl; match vs, hl with | [_], _ => exact BindsTo.of_eq rfl)) (by decide) (by decide) (by decide) (fun A g0 fL hid hr' => ?_)
  with_reducible refine ex_cons ?_
  with_reducible refine' ex_return ?_
  with_reducible refine' ev_BinOp ?_
  (with_reducible refine' ev_Method (pl := _) ?_ ?h_22); (case h_22 => with_unfolding_all rfl)
  (with_reducible refine' ev_name ?x_25 ?p_25 ?_ ?d_25); (case x_25 => rfl); (case p_25 => rfl); (case d_25 => decide)
  with_reducible refine' mth_cell0 m_id ?_
  (with_reducible refine' cl_id ?r_367 ?_); (case r_367 => (refine Cx.Room.le (by assumption) ?_; decide))
  (with_reducible refine' ev_Attr ?_ ?h_368); (case h_368 => with_unfolding_all rfl)
  (with_reducible refine' ev_Attr ?_ ?h_375); (case h_375 => with_unfolding_all rfl)
  (with_reducible refine' ev_name ?x_381 ?p_381 ?_ ?d_381); (case x_381 => rfl); (case p_381 => rfl); (case d_381 => decide)
  with_reducible refine' at_class cls_attr ?_
  with_reducible refine' at_cls_int cv_POS_BITS ?_
  (with_reducible refine' op_shr ?n_518 ?_); (case n_518 => decide)
  with_reducible refine seq_ret ?_
  with_reducible refine body_ret ?_
  exact q_int (face_int hL) h

theorem cl_is_leaf {L p : Nat} {Q : PV → Prop} (hr : c.Room 2) (hL : L ≤ 30) (h : Q (.bool (decide (L = 30)))) : Cl (gl w mean mg mb) c σ (.ref f_is_leaf) [.cell (gid L p)] Q := by
  refine cl_def (k := 1) (ns := ["self"]) (by rfl) (by kernel_rfl) hr (by (intro vs s hl; match vs, hl with | [_], _ => exact BindsTo.of_eq rfl)) (by decide) (by decide) (by decide) (fun A g0 fL hid hr' => ?_)
  with_reducible refine ex_cons ?_
  with_reducible refine' ex_return ?_
  (with_reducible refine' ev_Compare ?_ ?m_10); (case m_10 => with_unfolding_all rfl)
  with_reducible refine' ev_BinOp ?_
  (with_reducible refine' ev_Method (pl := _) ?_ ?h_12); (case h_12 => with_unfolding_all rfl)
  (with_reducible refine' ev_name ?x_24 ?p_24 ?_ ?d_24); (case x_24 => rfl); (case p_24 => rfl); (case d_24 => decide)
  with_reducible refine' mth_cell0 m_id ?_
  (with_reducible refine' cl_id ?r_326 ?_); (case r_326 => (refine Cx.Room.le (by assumption) ?_; decide))
  with_reducible refine' ev_int ?_
  with_reducible refine' op_and ?_
  with_reducible refine' ev_int ?_
  with_reducible refine' op_ne ?_
  with_reducible refine seq_ret ?_
  with_reducible refine body_ret ?_
  exact q_bool (leaf_bool hL) h

theorem cl_is_valid {L p : Nat} {Q : PV → Prop} (hr : c.Room 3) (hL : L ≤ 30) (hp : p < 6 * 2 ^ (2 * L)) (h : Q (.bool true)) : Cl (gl w mean mg mb) c σ (.ref f_is_valid) [.cell (gid L p)] Q := by
  refine cl_def (k := 2) (ns := ["self"]) (by rfl) (by kernel_rfl) hr (by (intro vs s hl; match vs, hl with | [_], _ => exact BindsTo.of_eq rfl)) (by decide) (by decide) (by decide) (fun A g0 fL hid hr' => ?_)
  with_reducible refine ex_cons ?_
  with_reducible refine' ex_return ?_
  with_reducible refine' ev_and ?_
  (with_reducible refine' ev_Compare ?_ ?m_21); (case m_21 => with_unfolding_all rfl)
  (with_reducible refine' ev_Method (pl := _) ?_ ?h_23); (case h_23 => with_unfolding_all rfl)
  (with_reducible refine' ev_name ?x_26 ?p_26 ?_ ?d_26); (case x_26 => rfl); (case p_26 => rfl); (case d_26 => decide)
  with_reducible refine' mth_cell0 m_face ?_
  (with_reducible refine' cl_face ?r_300 ?l_300 ?_); (case r_300 => (refine Cx.Room.le (by assumption) ?_; decide)); (case l_300 => (first | assumption | omega))
  (with_reducible refine' ev_Attr ?_ ?h_301); (case h_301 => with_unfolding_all rfl)
  (with_reducible refine' ev_Attr ?_ ?h_316); (case h_316 => with_unfolding_all rfl)
  (with_reducible refine' ev_name ?x_323 ?p_323 ?_ ?d_323); (case x_323 => rfl); (case p_323 => rfl); (case d_323 => decide)
  with_reducible refine' at_class cls_attr ?_
  with_reducible refine' at_cls_int cv_NUM_FACES ?_
  with_reducible refine' op_lt ?_
  with_reducible refine' opt_bool ?_
  refine ite_t (decide_eq_true (face_lt hp)) ?_
  with_reducible refine' ev_one ?_
  (with_reducible refine' ev_Compare ?_ ?m_449); (case m_449 => with_unfolding_all rfl)
  with_reducible refine' ev_BinOp ?_
  (with_reducible refine' ev_Method (pl := _) ?_ ?h_452); (case h_452 => with_unfolding_all rfl)
  (with_reducible refine' ev_name ?x_465 ?p_465 ?_ ?d_465); (case x_465 => rfl); (case p_465 => rfl); (case d_465 => decide)
  with_reducible refine' mth_cell0 m_lsb ?_
  (with_reducible refine' cl_lsb ?r_793 ?_); (case r_793 => (refine Cx.Room.le (by assumption) ?_; decide))
  with_reducible refine' ev_int ?_
  with_reducible refine' op_and ?_
  with_reducible refine' ev_int ?_
  with_reducible refine' op_ne ?_
  with_reducible refine seq_ret ?_
  with_reducible refine body_ret ?_
  exact q_bool (bne_iff_ne.mpr (valid_mask hL)) h

theorem cl_lsb_for_level {l : Nat} {C : Addr} {Q : PV → Prop} (hr : c.Room 1) (hC : C = (gl w mean mg mb).C) (hl : l ≤ 30) (h : Q (.int ((2 ^ (60 - 2 * l) : Nat) : Int))) : Cl (gl w mean mg mb) c σ (.ref f_lsb_for_level) [.raw (.ref C), .int (l : Int)] Q := by
  subst hC
  refine cl_def (k := 0) (ns := ["cls", "level"]) (by rfl) (by kernel_rfl) hr (by (intro vs s hl; match vs, hl with | [_, _], _ => exact BindsTo.of_eq rfl)) (by decide) (by decide) (by decide) (fun A g0 fL hid hr' => ?_)
  with_reducible refine ex_cons ?_
  with_reducible refine' ex_return ?_
  with_reducible refine' ev_BinOp ?_
  with_reducible refine' ev_int ?_
  with_reducible refine' ev_BinOp ?_
  with_reducible refine' ev_int ?_
  with_reducible refine' ev_BinOp ?_
  (with_reducible refine' ev_Attr ?_ ?h_53); (case h_53 => with_unfolding_all rfl)
  (with_reducible refine' ev_name ?x_55 ?p_55 ?_ ?d_55); (case x_55 => rfl); (case p_55 => rfl); (case d_55 => decide)
  with_reducible refine' at_cls_int cv_MAX_LEVEL ?_
  (with_reducible refine' ev_name ?x_165 ?p_165 ?_ ?d_165); (case x_165 => rfl); (case p_165 => rfl); (case d_165 => decide)
  with_reducible refine' op_sub ?_
  refine op_mul (mul_ok_l (by decide)) ?_
  refine op_shl (by omega) (shl_fits (by decide) (by omega) (by omega)) ?_
  with_reducible refine seq_ret ?_
  with_reducible refine body_ret ?_
  exact q_int (lsbl_int hl) h

theorem cl_new {n : Int} {C : Addr} {Q : PV → Prop} (hr : c.Room 2) (hC : C = (gl w mean mg mb).C) (h : Q (.cell (n.fmod 18446744073709551615))) : Cl (gl w mean mg mb) c σ (.ref C) [.int n] Q := by
  subst hC
  refine Mine.cl_new0 new_C (k := 0) (n0 := "self") (ns := ["id_"]) (R := fun x => x = .int (n.fmod 18446744073709551615)) (by rfl) (by kernel_rfl) hr ?_ (by decide) (by decide) (by decide) (by decide) (fun A g0 fL hid x hr' => ?_) ?_ (fun L => rfl)
  · intro v0 vs s X hl; match vs, hl with | [_], _ => exact binds_K X rfl (by rfl) rfl rfl rfl
  · with_reducible refine' ev_BinOp ?_
    (with_reducible refine' ev_name ?x_391 ?p_391 ?_ ?d_391); (case x_391 => rfl); (case p_391 => rfl); (case d_391 => decide)
    with_reducible refine' ev_int ?_
    (with_reducible refine' op_mod ?n_446 ?_); (case n_446 => decide)
    rfl
  · intro pv e H a d v hs sz tk h1 h2 rv
    subst e
    cases rv
    exact ⟨_, .cell h1 h2, h⟩

theorem cl_level {L p : Nat} {Q : PV → Prop} (hr : c.Room 3) (hL : L ≤ 30) (h : Q (.int (L : Int))) : Cl (gl w mean mg mb) c σ (.ref f_level) [.cell (gid L p)] Q := by
  refine cl_def (k := 2) (ns := ["self"]) (by rfl) (by kernel_rfl) hr (by (intro vs s hl; match vs, hl with | [_], _ => exact BindsTo.of_eq rfl)) (by decide) (by decide) (by decide) (fun A g0 fL hid hr' => ?_)
  with_reducible refine ex_cons ?_
  with_reducible refine' ex_if ?_
  (with_reducible refine' evt_of ?_ ?h_121); (case h_121 => with_unfolding_all rfl)
  (with_reducible refine' ev_Method (pl := _) ?_ ?h_125); (case h_125 => with_unfolding_all rfl)
  (with_reducible refine' ev_name ?x_137 ?p_137 ?_ ?d_137); (case x_137 => rfl); (case p_137 => rfl); (case d_137 => decide)
  with_reducible refine' mth_cell0 m_is_leaf ?_
  (with_reducible refine' cl_is_leaf ?r_491 ?l_491 ?_); (case r_491 => (refine Cx.Room.le (by assumption) ?_; decide)); (case l_491 => (first | assumption | omega))
  with_reducible refine' opt_bool ?_
  by_cases h30 : L = 30
  · refine ite_t (decide_eq_true h30) ?_
    with_reducible refine ex_cons ?_
    with_reducible refine' ex_return ?_
    (with_reducible refine' ev_Attr ?_ ?h_528); (case h_528 => with_unfolding_all rfl)
    (with_reducible refine' ev_Attr ?_ ?h_532); (case h_532 => with_unfolding_all rfl)
    (with_reducible refine' ev_name ?x_541 ?p_541 ?_ ?d_541); (case x_541 => rfl); (case p_541 => rfl); (case d_541 => decide)
    with_reducible refine' at_class cls_attr ?_
    with_reducible refine' at_cls_int cv_MAX_LEVEL ?_
    with_reducible refine seq_ret ?_
    with_reducible refine seq_ret ?_
    with_reducible refine body_ret ?_
    subst h30; exact h
  · refine ite_f (decide_eq_false h30) ?_
    with_reducible refine ex_nil ?_
    with_reducible refine seq_nxt ?_
    with_reducible refine ex_cons ?_
    (with_reducible refine' ex_assign ?_ ?k_730 ?l_730 ?s_730); (case k_730 => rfl); (case l_730 => rfl); (case s_730 => rfl)
    with_reducible refine' ev_BinOp ?_
    (with_reducible refine' ev_Method (pl := _) ?_ ?h_743); (case h_743 => with_unfolding_all rfl)
    (with_reducible refine' ev_name ?x_758 ?p_758 ?_ ?d_758); (case x_758 => rfl); (case p_758 => rfl); (case d_758 => decide)
    with_reducible refine' mth_cell0 m_id ?_
    (with_reducible refine' cl_id ?r_1191 ?_); (case r_1191 => (refine Cx.Room.le (by assumption) ?_; decide))
    with_reducible refine' ev_int ?_
    with_reducible refine' op_and ?_
    with_reducible refine seq_nxt ?_
    with_reducible refine ex_cons ?_
    (with_reducible refine' ex_assign ?_ ?k_1223 ?l_1223 ?s_1223); (case k_1223 => rfl); (case l_1223 => rfl); (case s_1223 => rfl)
    with_reducible refine' ev_UnaryOp ?_
    with_reducible refine' ev_int ?_
    with_reducible refine' op_neg ?_
    with_reducible refine seq_nxt ?_
    with_reducible refine ex_cons ?_
    with_reducible refine' ex_if ?_
    (with_reducible refine' evt_Compare ?_ ?m_1284); (case m_1284 => with_unfolding_all rfl)
    (with_reducible refine' ev_name ?x_1286 ?p_1286 ?_ ?d_1286); (case x_1286 => rfl); (case p_1286 => rfl); (case d_1286 => decide)
    with_reducible refine' ev_int ?_
    with_reducible refine' op_ne ?_
    with_reducible refine' opt_bool ?_
    by_cases h15 : 15 ≤ L
    · refine ite_t (bne_iff_ne.mpr (low_ne h15 hL).1) ?_
      with_reducible refine ex_cons ?_
      (with_reducible refine' ex_aug ?x_1398 ?p_1398 ?_ ?k_1398 ?l_1398); (case x_1398 => rfl); (case p_1398 => rfl); (case k_1398 => rfl); (case l_1398 => rfl)
      with_reducible refine' ev_int ?_
      with_reducible refine' iop_add ?_
      with_reducible refine seq_nxt ?_
      with_reducible refine ex_nil ?_
      with_reducible refine seq_nxt ?_
      with_reducible refine ex_cons ?_
      (with_reducible refine' ex_aug ?x_1494 ?p_1494 ?_ ?k_1494 ?l_1494); (case x_1494 => rfl); (case p_1494 => rfl); (case k_1494 => rfl); (case l_1494 => rfl)
      with_reducible refine' ev_UnaryOp ?_
      (with_reducible refine' ev_name ?x_1528 ?p_1528 ?_ ?d_1528); (case x_1528 => rfl); (case p_1528 => rfl); (case d_1528 => decide)
      with_reducible refine' op_neg ?_
      with_reducible refine' iop_and ?_
      with_reducible refine seq_nxt ?_
      with_reducible refine ex_cons ?_
      (with_reducible refine' ex_if_add ?x_1604 ?k_1604 ?l_1604 ?_); (case x_1604 => rfl); (case k_1604 => rfl); (case l_1604 => rfl)
      (with_reducible refine' evt_of ?_ ?h_1659); (case h_1659 => with_unfolding_all rfl)
      with_reducible refine' ev_BinOp ?_
      (with_reducible refine' ev_name ?x_1661 ?p_1661 ?_ ?d_1661); (case x_1661 => rfl); (case p_1661 => rfl); (case d_1661 => decide)
      with_reducible refine' ev_int ?_
      with_reducible refine' op_and ?_
      with_reducible refine' opt_int ?_
      with_reducible refine seq_nxt ?_
      with_reducible refine ex_cons ?_
      (with_reducible refine' ex_if_add ?x_1708 ?k_1708 ?l_1708 ?_); (case x_1708 => rfl); (case k_1708 => rfl); (case l_1708 => rfl)
      (with_reducible refine' evt_of ?_ ?h_1811); (case h_1811 => with_unfolding_all rfl)
      with_reducible refine' ev_BinOp ?_
      (with_reducible refine' ev_name ?x_1814 ?p_1814 ?_ ?d_1814); (case x_1814 => rfl); (case p_1814 => rfl); (case d_1814 => decide)
      with_reducible refine' ev_int ?_
      with_reducible refine' op_and ?_
      with_reducible refine' opt_int ?_
      with_reducible refine seq_nxt ?_
      with_reducible refine ex_cons ?_
      (with_reducible refine' ex_if_add ?x_1884 ?k_1884 ?l_1884 ?_); (case x_1884 => rfl); (case k_1884 => rfl); (case l_1884 => rfl)
      (with_reducible refine' evt_of ?_ ?h_1938); (case h_1938 => with_unfolding_all rfl)
      with_reducible refine' ev_BinOp ?_
      (with_reducible refine' ev_name ?x_1941 ?p_1941 ?_ ?d_1941); (case x_1941 => rfl); (case p_1941 => rfl); (case d_1941 => decide)
      with_reducible refine' ev_int ?_
      with_reducible refine' op_and ?_
      with_reducible refine' opt_int ?_
      with_reducible refine seq_nxt ?_
      with_reducible refine ex_cons ?_
      (with_reducible refine' ex_if_add ?x_2065 ?k_2065 ?l_2065 ?_); (case x_2065 => rfl); (case k_2065 => rfl); (case l_2065 => rfl)
      (with_reducible refine' evt_of ?_ ?h_2221); (case h_2221 => with_unfolding_all rfl)
      with_reducible refine' ev_BinOp ?_
      (with_reducible refine' ev_name ?x_2227 ?p_2227 ?_ ?d_2227); (case x_2227 => rfl); (case p_2227 => rfl); (case d_2227 => decide)
      with_reducible refine' ev_int ?_
      with_reducible refine' op_and ?_
      with_reducible refine' opt_int ?_
      with_reducible refine seq_nxt ?_
      with_reducible refine ex_cons ?_
      with_reducible refine' ex_assert ?_
      (with_reducible refine' evt_Compare ?_ ?m_2371); (case m_2371 => with_unfolding_all rfl)
      (with_reducible refine' ev_name ?x_2373 ?p_2373 ?_ ?d_2373); (case x_2373 => rfl); (case p_2373 => rfl); (case d_2373 => decide)
      with_reducible refine' ev_int ?_
      with_reducible refine' op_ge ?_
      with_reducible refine' opt_bool ?_
      have e : levSum (Builtin.bitAnd (Builtin.bitAnd (gid L p) 4294967295) (-(Builtin.bitAnd (gid L p) 4294967295))) (-1 + 16) = (L : Int) := by
        rw [(low_ne (p := p) h15 hL).2]; exact lev_low h15 (by omega)
      unfold levSum at e
      rw [e]
      refine ⟨decide_eq_true (by omega), ?_⟩
      with_reducible refine seq_nxt ?_
      with_reducible refine ex_cons ?_
      with_reducible refine' ex_assert ?_
      (with_reducible refine' evt_Compare ?_ ?m_2570); (case m_2570 => with_unfolding_all rfl)
      (with_reducible refine' ev_name ?x_2572 ?p_2572 ?_ ?d_2572); (case x_2572 => rfl); (case p_2572 => rfl); (case d_2572 => decide)
      (with_reducible refine' ev_Attr ?_ ?h_2704); (case h_2704 => with_unfolding_all rfl)
      (with_reducible refine' ev_Attr ?_ ?h_2707); (case h_2707 => with_unfolding_all rfl)
      (with_reducible refine' ev_name ?x_2708 ?p_2708 ?_ ?d_2708); (case x_2708 => rfl); (case p_2708 => rfl); (case d_2708 => decide)
      with_reducible refine' at_class cls_attr ?_
      with_reducible refine' at_cls_int cv_MAX_LEVEL ?_
      with_reducible refine' op_le ?_
      with_reducible refine' opt_bool ?_
      refine ⟨decide_eq_true (by omega), ?_⟩
      with_reducible refine seq_nxt ?_
      with_reducible refine ex_cons ?_
      with_reducible refine' ex_return ?_
      (with_reducible refine' ev_name ?x_3038 ?p_3038 ?_ ?d_3038); (case x_3038 => rfl); (case p_3038 => rfl); (case d_3038 => decide)
      with_reducible refine seq_ret ?_
      with_reducible refine body_ret ?_
      exact h
    · refine ite_f (by rw [low_zero (by omega)]; rfl) ?_
      with_reducible refine ex_cons ?_
      (with_reducible refine' ex_assign ?_ ?k_3116 ?l_3116 ?s_3116); (case k_3116 => rfl); (case l_3116 => rfl); (case s_3116 => rfl)
      with_reducible refine' ev_BinOp ?_
      with_reducible refine' ev_BinOp ?_
      (with_reducible refine' ev_Method (pl := _) ?_ ?h_3124); (case h_3124 => with_unfolding_all rfl)
      (with_reducible refine' ev_name ?x_3132 ?p_3132 ?_ ?d_3132); (case x_3132 => rfl); (case p_3132 => rfl); (case d_3132 => decide)
      with_reducible refine' mth_cell0 m_id ?_
      (with_reducible refine' cl_id ?r_3371 ?_); (case r_3371 => (refine Cx.Room.le (by assumption) ?_; decide))
      with_reducible refine' ev_int ?_
      (with_reducible refine' op_shr ?n_3413 ?_); (case n_3413 => decide)
      with_reducible refine' ev_int ?_
      with_reducible refine' op_and ?_
      with_reducible refine seq_nxt ?_
      with_reducible refine ex_nil ?_
      with_reducible refine seq_nxt ?_
      with_reducible refine ex_cons ?_
      (with_reducible refine' ex_aug ?x_3458 ?p_3458 ?_ ?k_3458 ?l_3458); (case x_3458 => rfl); (case p_3458 => rfl); (case k_3458 => rfl); (case l_3458 => rfl)
      with_reducible refine' ev_UnaryOp ?_
      (with_reducible refine' ev_name ?x_3496 ?p_3496 ?_ ?d_3496); (case x_3496 => rfl); (case p_3496 => rfl); (case d_3496 => decide)
      with_reducible refine' op_neg ?_
      with_reducible refine' iop_and ?_
      with_reducible refine seq_nxt ?_
      with_reducible refine ex_cons ?_
      (with_reducible refine' ex_if_add ?x_3576 ?k_3576 ?l_3576 ?_); (case x_3576 => rfl); (case k_3576 => rfl); (case l_3576 => rfl)
      (with_reducible refine' evt_of ?_ ?h_3607); (case h_3607 => with_unfolding_all rfl)
      with_reducible refine' ev_BinOp ?_
      (with_reducible refine' ev_name ?x_3610 ?p_3610 ?_ ?d_3610); (case x_3610 => rfl); (case p_3610 => rfl); (case d_3610 => decide)
      with_reducible refine' ev_int ?_
      with_reducible refine' op_and ?_
      with_reducible refine' opt_int ?_
      with_reducible refine seq_nxt ?_
      with_reducible refine ex_cons ?_
      (with_reducible refine' ex_if_add ?x_3631 ?k_3631 ?l_3631 ?_); (case x_3631 => rfl); (case k_3631 => rfl); (case l_3631 => rfl)
      (with_reducible refine' evt_of ?_ ?h_3641); (case h_3641 => with_unfolding_all rfl)
      with_reducible refine' ev_BinOp ?_
      (with_reducible refine' ev_name ?x_3643 ?p_3643 ?_ ?d_3643); (case x_3643 => rfl); (case p_3643 => rfl); (case d_3643 => decide)
      with_reducible refine' ev_int ?_
      with_reducible refine' op_and ?_
      with_reducible refine' opt_int ?_
      with_reducible refine seq_nxt ?_
      with_reducible refine ex_cons ?_
      (with_reducible refine' ex_if_add ?x_3656 ?k_3656 ?l_3656 ?_); (case x_3656 => rfl); (case k_3656 => rfl); (case l_3656 => rfl)
      (with_reducible refine' evt_of ?_ ?h_3671); (case h_3671 => with_unfolding_all rfl)
      with_reducible refine' ev_BinOp ?_
      (with_reducible refine' ev_name ?x_3673 ?p_3673 ?_ ?d_3673); (case x_3673 => rfl); (case p_3673 => rfl); (case d_3673 => decide)
      with_reducible refine' ev_int ?_
      with_reducible refine' op_and ?_
      with_reducible refine' opt_int ?_
      with_reducible refine seq_nxt ?_
      with_reducible refine ex_cons ?_
      (with_reducible refine' ex_if_add ?x_3691 ?k_3691 ?l_3691 ?_); (case x_3691 => rfl); (case k_3691 => rfl); (case l_3691 => rfl)
      (with_reducible refine' evt_of ?_ ?h_3714); (case h_3714 => with_unfolding_all rfl)
      with_reducible refine' ev_BinOp ?_
      (with_reducible refine' ev_name ?x_3716 ?p_3716 ?_ ?d_3716); (case x_3716 => rfl); (case p_3716 => rfl); (case d_3716 => decide)
      with_reducible refine' ev_int ?_
      with_reducible refine' op_and ?_
      with_reducible refine' opt_int ?_
      with_reducible refine seq_nxt ?_
      with_reducible refine ex_cons ?_
      with_reducible refine' ex_assert ?_
      (with_reducible refine' evt_Compare ?_ ?m_3760); (case m_3760 => with_unfolding_all rfl)
      (with_reducible refine' ev_name ?x_3761 ?p_3761 ?_ ?d_3761); (case x_3761 => rfl); (case p_3761 => rfl); (case d_3761 => decide)
      with_reducible refine' ev_int ?_
      with_reducible refine' op_ge ?_
      with_reducible refine' opt_bool ?_
      have e : levSum (Builtin.bitAnd (Builtin.bitAnd ((gid L p).fdiv (2 ^ Int.toNat 32)) 4294967295) (-(Builtin.bitAnd ((gid L p).fdiv (2 ^ Int.toNat 32)) 4294967295))) (-1) = (L : Int) := by
        rw [high_lsb (p := p) (by omega)]; exact lev_high (by omega)
      unfold levSum at e
      rw [e]
      refine ⟨decide_eq_true (by omega), ?_⟩
      with_reducible refine seq_nxt ?_
      with_reducible refine ex_cons ?_
      with_reducible refine' ex_assert ?_
      (with_reducible refine' evt_Compare ?_ ?m_3813); (case m_3813 => with_unfolding_all rfl)
      (with_reducible refine' ev_name ?x_3814 ?p_3814 ?_ ?d_3814); (case x_3814 => rfl); (case p_3814 => rfl); (case d_3814 => decide)
      (with_reducible refine' ev_Attr ?_ ?h_3845); (case h_3845 => with_unfolding_all rfl)
      (with_reducible refine' ev_Attr ?_ ?h_3851); (case h_3851 => with_unfolding_all rfl)
      (with_reducible refine' ev_name ?x_3852 ?p_3852 ?_ ?d_3852); (case x_3852 => rfl); (case p_3852 => rfl); (case d_3852 => decide)
      with_reducible refine' at_class cls_attr ?_
      with_reducible refine' at_cls_int cv_MAX_LEVEL ?_
      with_reducible refine' op_le ?_
      with_reducible refine' opt_bool ?_
      refine ⟨decide_eq_true (by omega), ?_⟩
      with_reducible refine seq_nxt ?_
      with_reducible refine ex_cons ?_
      with_reducible refine' ex_return ?_
      (with_reducible refine' ev_name ?x_3942 ?p_3942 ?_ ?d_3942); (case x_3942 => rfl); (case p_3942 => rfl); (case d_3942 => decide)
      with_reducible refine seq_ret ?_
      with_reducible refine body_ret ?_
      exact h

theorem cl_parent {L l p : Nat} {Q : PV → Prop} (hr : c.Room 4) (hL : L ≤ 30) (hl : l ≤ L) (hp : p < 6 * 2 ^ (2 * L)) (h : Q (.cell (gid l (p / 2 ^ (2 * (L - l)))))) : Cl (gl w mean mg mb) c σ (.ref f_parent) [.cell (gid L p), .int (l : Int)] Q := by
  refine cl_rest (k := 3) (n0 := "self") (n1 := "args") (xs := [.int (l : Int)]) (by rfl) (by kernel_rfl) hr (by simp) (by (intro v0 vs hl; match vs, hl with | [_], _ => exact ⟨_, rfl, fun _ => rfl⟩)) (by decide) (by decide) (by decide) (fun A g0 fL hid hr' => ?_)
  with_reducible refine ex_cons ?_
  with_reducible refine' ex_assert ?_
  (with_reducible refine' evt_of ?_ ?h_177); (case h_177 => with_unfolding_all rfl)
  (with_reducible refine' ev_Method (pl := _) ?_ ?h_178); (case h_178 => with_unfolding_all rfl)
  (with_reducible refine' ev_name ?x_189 ?p_189 ?_ ?d_189); (case x_189 => rfl); (case p_189 => rfl); (case d_189 => decide)
  with_reducible refine' mth_cell0 m_is_valid ?_
  (with_reducible refine' cl_is_valid ?r_619 ?l_619 ?p_619 ?_); (case r_619 => (refine Cx.Room.le (by assumption) ?_; decide)); (case l_619 => (first | assumption | omega)); (case p_619 => (first | assumption | omega))
  with_reducible refine' opt_bool ?_
  with_reducible refine' and_tt ?_
  with_reducible refine seq_nxt ?_
  with_reducible refine ex_cons ?_
  with_reducible refine' ex_if ?_
  (with_reducible refine' evt_Compare ?_ ?m_640); (case m_640 => with_unfolding_all rfl)
  (with_reducible refine' ev_Call ?_ ?h_647); (case h_647 => with_unfolding_all rfl)
  (with_reducible refine' ev_builtin n_len bb_len ?k_736 ?_ ?n_736 ?d_736); (case k_736 => rfl); (case n_736 => decide); (case d_736 => decide)
  (with_reducible refine' cw_builtin ?_ ?h_785 ?p_785); (case h_785 => with_unfolding_all rfl); (case p_785 => with_unfolding_all rfl)
  (with_reducible refine' evl_cons ?_ ?h_797); (case h_797 => with_unfolding_all rfl)
  (with_reducible refine' ev_name ?x_801 ?p_801 ?_ ?d_801); (case x_801 => rfl); (case p_801 => rfl); (case d_801 => decide)
  with_reducible refine' evl_nil ?_
  (with_reducible refine' b_len_tup ?l_839 ?_); (case l_839 => first | decide | (simp; done))
  with_reducible refine' ev_int ?_
  with_reducible refine' op_eq ?_
  with_reducible refine' opt_bool ?_
  (refine' ite_f ?h ?_; (case h => first | rfl | decide | (simp; done)))
  with_reducible refine ex_cons ?_
  with_reducible refine' ex_if ?_
  (with_reducible refine' evt_Compare ?_ ?m_870); (case m_870 => with_unfolding_all rfl)
  (with_reducible refine' ev_Call ?_ ?h_876); (case h_876 => with_unfolding_all rfl)
  (with_reducible refine' ev_builtin n_len bb_len ?k_939 ?_ ?n_939 ?d_939); (case k_939 => rfl); (case n_939 => decide); (case d_939 => decide)
  (with_reducible refine' cw_builtin ?_ ?h_1017 ?p_1017); (case h_1017 => with_unfolding_all rfl); (case p_1017 => with_unfolding_all rfl)
  (with_reducible refine' evl_cons ?_ ?h_1025); (case h_1025 => with_unfolding_all rfl)
  (with_reducible refine' ev_name ?x_1027 ?p_1027 ?_ ?d_1027); (case x_1027 => rfl); (case p_1027 => rfl); (case d_1027 => decide)
  with_reducible refine' evl_nil ?_
  (with_reducible refine' b_len_tup ?l_1060 ?_); (case l_1060 => first | decide | (simp; done))
  with_reducible refine' ev_int ?_
  with_reducible refine' op_eq ?_
  with_reducible refine' opt_bool ?_
  (refine' ite_t ?h ?_; (case h => first | rfl | decide | (simp; done) | (simp; omega)))
  with_reducible refine ex_cons ?_
  (with_reducible refine' ex_assign ?_ ?k_1096 ?l_1096 ?s_1096); (case k_1096 => rfl); (case l_1096 => rfl); (case s_1096 => rfl)
  with_reducible refine' ev_Subscript ?_
  (with_reducible refine' ev_name ?x_1131 ?p_1131 ?_ ?d_1131); (case x_1131 => rfl); (case p_1131 => rfl); (case d_1131 => decide)
  with_reducible refine' ev_int ?_
  (with_reducible refine' op_item_tup ?a_1212 ?b_1212 ?j_1212 ?x_1212 ?_ ?s_1212); (case a_1212 => decide); (case b_1212 => decide); (case j_1212 => rfl); (case x_1212 => rfl); (case s_1212 => intros; with_unfolding_all rfl)
  with_reducible refine seq_nxt ?_
  with_reducible refine ex_cons ?_
  with_reducible refine' ex_assert ?_
  (with_reducible refine' evt_Compare ?_ ?m_1254); (case m_1254 => with_unfolding_all rfl)
  (with_reducible refine' ev_name ?x_1256 ?p_1256 ?_ ?d_1256); (case x_1256 => rfl); (case p_1256 => rfl); (case d_1256 => decide)
  with_reducible refine' ev_int ?_
  with_reducible refine' op_ge ?_
  with_reducible refine' opt_bool ?_
  refine ⟨decide_eq_true (by omega), ?_⟩
  with_reducible refine seq_nxt ?_
  with_reducible refine ex_cons ?_
  with_reducible refine' ex_assert ?_
  (with_reducible refine' evt_Compare ?_ ?m_1385); (case m_1385 => with_unfolding_all rfl)
  (with_reducible refine' ev_name ?x_1387 ?p_1387 ?_ ?d_1387); (case x_1387 => rfl); (case p_1387 => rfl); (case d_1387 => decide)
  (with_reducible refine' ev_Method (pl := _) ?_ ?h_1449); (case h_1449 => with_unfolding_all rfl)
  (with_reducible refine' ev_name ?x_1504 ?p_1504 ?_ ?d_1504); (case x_1504 => rfl); (case p_1504 => rfl); (case d_1504 => decide)
  with_reducible refine' mth_cell0 m_level ?_
  (with_reducible refine' cl_level ?r_1854 ?l_1854 ?_); (case r_1854 => (refine Cx.Room.le (by assumption) ?_; decide)); (case l_1854 => (first | assumption | omega))
  with_reducible refine' op_le ?_
  with_reducible refine' opt_bool ?_
  refine ⟨decide_eq_true (by omega), ?_⟩
  with_reducible refine seq_nxt ?_
  with_reducible refine ex_cons ?_
  (with_reducible refine' ex_assign ?_ ?k_1903 ?l_1903 ?s_1903); (case k_1903 => rfl); (case l_1903 => rfl); (case s_1903 => rfl)
  (with_reducible refine' ev_Method (pl := _) ?_ ?h_1920); (case h_1920 => with_unfolding_all rfl)
  (with_reducible refine' ev_Attr ?_ ?h_1940); (case h_1940 => with_unfolding_all rfl)
  (with_reducible refine' ev_name ?x_1944 ?p_1944 ?_ ?d_1944); (case x_1944 => rfl); (case p_1944 => rfl); (case d_1944 => decide)
  with_reducible refine' at_class cls_attr ?_
  (with_reducible refine' mth_cls cm_lsb_for_level ?_ ?h_2173 ?p_2173); (case h_2173 => with_unfolding_all rfl); (case p_2173 => with_unfolding_all rfl)
  (with_reducible refine' evl_cons ?_ ?h_2178); (case h_2178 => with_unfolding_all rfl)
  (with_reducible refine' ev_name ?x_2181 ?p_2181 ?_ ?d_2181); (case x_2181 => rfl); (case p_2181 => rfl); (case d_2181 => decide)
  with_reducible refine' evl_nil ?_
  (with_reducible refine' cl_lsb_for_level ?r_2240 ?c_2240 ?l_2240 ?_); (case r_2240 => (refine Cx.Room.le (by assumption) ?_; decide)); (case c_2240 => rfl); (case l_2240 => (first | assumption | omega))
  with_reducible refine seq_nxt ?_
  with_reducible refine ex_cons ?_
  with_reducible refine' ex_return ?_
  (with_reducible refine' ev_Method (pl := _) ?_ ?h_2254); (case h_2254 => with_unfolding_all rfl)
  (with_reducible refine' ev_name ?x_2287 ?p_2287 ?_ ?d_2287); (case x_2287 => rfl); (case p_2287 => rfl); (case d_2287 => decide)
  with_reducible refine' mth_class cls_attr ?_
  (with_reducible refine' cw_def keep_C ?_ ?h_2327 ?p_2327); (case h_2327 => with_unfolding_all rfl); (case p_2327 => with_unfolding_all rfl)
  (with_reducible refine' evl_cons ?_ ?h_2342); (case h_2342 => with_unfolding_all rfl)
  with_reducible refine' ev_BinOp ?_
  with_reducible refine' ev_BinOp ?_
  (with_reducible refine' ev_Method (pl := _) ?_ ?h_2357); (case h_2357 => with_unfolding_all rfl)
  (with_reducible refine' ev_name ?x_2376 ?p_2376 ?_ ?d_2376); (case x_2376 => rfl); (case p_2376 => rfl); (case d_2376 => decide)
  with_reducible refine' mth_cell0 m_id ?_
  (with_reducible refine' cl_id ?r_2732 ?_); (case r_2732 => (refine Cx.Room.le (by assumption) ?_; decide))
  with_reducible refine' ev_UnaryOp ?_
  (with_reducible refine' ev_name ?x_2743 ?p_2743 ?_ ?d_2743); (case x_2743 => rfl); (case p_2743 => rfl); (case d_2743 => decide)
  with_reducible refine' op_neg ?_
  with_reducible refine' op_and ?_
  (with_reducible refine' ev_name ?x_2831 ?p_2831 ?_ ?d_2831); (case x_2831 => rfl); (case p_2831 => rfl); (case d_2831 => decide)
  with_reducible refine' op_or ?_
  with_reducible refine' evl_nil ?_
  (with_reducible refine' cl_new ?r_2923 ?c_2923 ?_); (case r_2923 => (refine Cx.Room.le (by assumption) ?_; decide)); (case c_2923 => rfl)
  with_reducible refine seq_ret ?_
  with_reducible refine seq_ret ?_
  with_reducible refine seq_ret ?_
  with_reducible refine body_ret ?_
  rw [parent_int hl hL, gid_mod (by omega) (parent_lt hl hp)]
  exact h

theorem cl_child {L p r : Nat} {Q : PV → Prop} (hr : c.Room 4) (hL : L < 30) (hp : p < 6 * 2 ^ (2 * L)) (hq : 4 * p + r < 6 * 2 ^ (2 * (L + 1))) (h : Q (.cell (gid (L + 1) (4 * p + r)))) : Cl (gl w mean mg mb) c σ (.ref f_child) [.cell (gid L p), .int (r : Int)] Q := by
  refine cl_def (k := 3) (ns := ["self", "pos"]) (by rfl) (by kernel_rfl) hr (by (intro vs s hl; match vs, hl with | [_, _], _ => exact BindsTo.of_eq rfl)) (by decide) (by decide) (by decide) (fun A g0 fL hid hr' => ?_)
  with_reducible refine ex_cons ?_
  with_reducible refine' ex_assert ?_
  (with_reducible refine' evt_of ?_ ?h_546); (case h_546 => with_unfolding_all rfl)
  (with_reducible refine' ev_Method (pl := _) ?_ ?h_547); (case h_547 => with_unfolding_all rfl)
  (with_reducible refine' ev_name ?x_554 ?p_554 ?_ ?d_554); (case x_554 => rfl); (case p_554 => rfl); (case d_554 => decide)
  with_reducible refine' mth_cell0 m_is_valid ?_
  (with_reducible refine' cl_is_valid ?r_943 ?l_943 ?p_943 ?_); (case r_943 => (refine Cx.Room.le (by assumption) ?_; decide)); (case l_943 => (first | assumption | omega)); (case p_943 => (first | assumption | omega))
  with_reducible refine' opt_bool ?_
  with_reducible refine' and_tt ?_
  with_reducible refine seq_nxt ?_
  with_reducible refine ex_cons ?_
  with_reducible refine' ex_assert ?_
  with_reducible refine' evt_not ?_
  (with_reducible refine' evt_of ?_ ?h_977); (case h_977 => with_unfolding_all rfl)
  (with_reducible refine' ev_Method (pl := _) ?_ ?h_980); (case h_980 => with_unfolding_all rfl)
  (with_reducible refine' ev_name ?x_998 ?p_998 ?_ ?d_998); (case x_998 => rfl); (case p_998 => rfl); (case d_998 => decide)
  with_reducible refine' mth_cell0 m_is_leaf ?_
  (with_reducible refine' cl_is_leaf ?r_1538 ?l_1538 ?_); (case r_1538 => (refine Cx.Room.le (by assumption) ?_; decide)); (case l_1538 => (first | assumption | omega))
  with_reducible refine' opt_bool ?_
  refine ⟨by simp; omega, ?_⟩
  with_reducible refine seq_nxt ?_
  with_reducible refine ex_cons ?_
  (with_reducible refine' ex_assign ?_ ?k_1599 ?l_1599 ?s_1599); (case k_1599 => rfl); (case l_1599 => rfl); (case s_1599 => rfl)
  with_reducible refine' ev_BinOp ?_
  (with_reducible refine' ev_Method (pl := _) ?_ ?h_1612); (case h_1612 => with_unfolding_all rfl)
  (with_reducible refine' ev_name ?x_1645 ?p_1645 ?_ ?d_1645); (case x_1645 => rfl); (case p_1645 => rfl); (case d_1645 => decide)
  with_reducible refine' mth_cell0 m_lsb ?_
  (with_reducible refine' cl_lsb ?r_2072 ?_); (case r_2072 => (refine Cx.Room.le (by assumption) ?_; decide))
  with_reducible refine' ev_int ?_
  (with_reducible refine' op_shr ?n_2131 ?_); (case n_2131 => decide)
  with_reducible refine seq_nxt ?_
  with_reducible refine ex_cons ?_
  with_reducible refine' ex_return ?_
  (with_reducible refine' ev_Method (pl := _) ?_ ?h_2139); (case h_2139 => with_unfolding_all rfl)
  (with_reducible refine' ev_name ?x_2174 ?p_2174 ?_ ?d_2174); (case x_2174 => rfl); (case p_2174 => rfl); (case d_2174 => decide)
  with_reducible refine' mth_class cls_attr ?_
  (with_reducible refine' cw_def keep_C ?_ ?h_2224 ?p_2224); (case h_2224 => with_unfolding_all rfl); (case p_2224 => with_unfolding_all rfl)
  (with_reducible refine' evl_cons ?_ ?h_2237); (case h_2237 => with_unfolding_all rfl)
  with_reducible refine' ev_BinOp ?_
  (with_reducible refine' ev_Method (pl := _) ?_ ?h_2243); (case h_2243 => with_unfolding_all rfl)
  (with_reducible refine' ev_name ?x_2263 ?p_2263 ?_ ?d_2263); (case x_2263 => rfl); (case p_2263 => rfl); (case d_2263 => decide)
  with_reducible refine' mth_cell0 m_id ?_
  (with_reducible refine' cl_id ?r_2679 ?_); (case r_2679 => (refine Cx.Room.le (by assumption) ?_; decide))
  with_reducible refine' ev_BinOp ?_
  with_reducible refine' ev_BinOp ?_
  with_reducible refine' ev_BinOp ?_
  with_reducible refine' ev_BinOp ?_
  with_reducible refine' ev_int ?_
  (with_reducible refine' ev_name ?x_2695 ?p_2695 ?_ ?d_2695); (case x_2695 => rfl); (case p_2695 => rfl); (case d_2695 => decide)
  refine op_mul (mul_ok_l ?_) ?_
  · decide
  with_reducible refine' ev_int ?_
  with_reducible refine' op_add ?_
  with_reducible refine' ev_int ?_
  with_reducible refine' op_sub ?_
  (with_reducible refine' ev_name ?x_2795 ?p_2795 ?_ ?d_2795); (case x_2795 => rfl); (case p_2795 => rfl); (case d_2795 => decide)
  refine op_mul (mul_ok_r ?_) ?_
  · exact lsb_small
  with_reducible refine' op_add ?_
  with_reducible refine' evl_nil ?_
  (with_reducible refine' cl_new ?r_2895 ?c_2895 ?_); (case r_2895 => (refine Cx.Room.le (by assumption) ?_; decide)); (case c_2895 => rfl)
  with_reducible refine seq_ret ?_
  with_reducible refine body_ret ?_
  rw [child_int hL, gid_mod (by omega) hq]
  exact h

theorem cl_child_begin {L l p : Nat} {Q : PV → Prop} (hr : c.Room 4) (hL : L ≤ l) (hl : l ≤ 30) (hp : p < 6 * 2 ^ (2 * L)) (h : Q (.cell (gid l (p * 2 ^ (2 * (l - L)))))) : Cl (gl w mean mg mb) c σ (.ref f_child_begin) [.cell (gid L p), .int (l : Int)] Q := by
  refine cl_rest (k := 3) (n0 := "self") (n1 := "args") (xs := [.int (l : Int)]) (by rfl) (by kernel_rfl) hr (by simp) (by (intro v0 vs hl; match vs, hl with | [_], _ => exact ⟨_, rfl, fun _ => rfl⟩)) (by decide) (by decide) (by decide) (fun A g0 fL hid hr' => ?_)
  with_reducible refine ex_cons ?_
  with_reducible refine' ex_assert ?_
  (with_reducible refine' evt_of ?_ ?h_583); (case h_583 => with_unfolding_all rfl)
  (with_reducible refine' ev_Method (pl := _) ?_ ?h_585); (case h_585 => with_unfolding_all rfl)
  (with_reducible refine' ev_name ?x_596 ?p_596 ?_ ?d_596); (case x_596 => rfl); (case p_596 => rfl); (case d_596 => decide)
  with_reducible refine' mth_cell0 m_is_valid ?_
  (with_reducible refine' cl_is_valid ?r_1013 ?l_1013 ?p_1013 ?_); (case r_1013 => (refine Cx.Room.le (by assumption) ?_; decide)); (case l_1013 => (first | assumption | omega)); (case p_1013 => (first | assumption | omega))
  with_reducible refine' opt_bool ?_
  with_reducible refine' and_tt ?_
  with_reducible refine seq_nxt ?_
  with_reducible refine ex_cons ?_
  with_reducible refine' ex_if ?_
  (with_reducible refine' evt_Compare ?_ ?m_1046); (case m_1046 => with_unfolding_all rfl)
  (with_reducible refine' ev_Call ?_ ?h_1050); (case h_1050 => with_unfolding_all rfl)
  (with_reducible refine' ev_builtin n_len bb_len ?k_1144 ?_ ?n_1144 ?d_1144); (case k_1144 => rfl); (case n_1144 => decide); (case d_1144 => decide)
  (with_reducible refine' cw_builtin ?_ ?h_1248 ?p_1248); (case h_1248 => with_unfolding_all rfl); (case p_1248 => with_unfolding_all rfl)
  (with_reducible refine' evl_cons ?_ ?h_1259); (case h_1259 => with_unfolding_all rfl)
  (with_reducible refine' ev_name ?x_1265 ?p_1265 ?_ ?d_1265); (case x_1265 => rfl); (case p_1265 => rfl); (case d_1265 => decide)
  with_reducible refine' evl_nil ?_
  (with_reducible refine' b_len_tup ?l_1300 ?_); (case l_1300 => first | decide | (simp; done))
  with_reducible refine' ev_int ?_
  with_reducible refine' op_eq ?_
  with_reducible refine' opt_bool ?_
  (refine' ite_f ?h ?_; (case h => first | rfl | decide | (simp; done)))
  with_reducible refine ex_cons ?_
  with_reducible refine' ex_if ?_
  (with_reducible refine' evt_Compare ?_ ?m_1358); (case m_1358 => with_unfolding_all rfl)
  (with_reducible refine' ev_Call ?_ ?h_1371); (case h_1371 => with_unfolding_all rfl)
  (with_reducible refine' ev_builtin n_len bb_len ?k_1503 ?_ ?n_1503 ?d_1503); (case k_1503 => rfl); (case n_1503 => decide); (case d_1503 => decide)
  (with_reducible refine' cw_builtin ?_ ?h_1560 ?p_1560); (case h_1560 => with_unfolding_all rfl); (case p_1560 => with_unfolding_all rfl)
  (with_reducible refine' evl_cons ?_ ?h_1573); (case h_1573 => with_unfolding_all rfl)
  (with_reducible refine' ev_name ?x_1576 ?p_1576 ?_ ?d_1576); (case x_1576 => rfl); (case p_1576 => rfl); (case d_1576 => decide)
  with_reducible refine' evl_nil ?_
  (with_reducible refine' b_len_tup ?l_1610 ?_); (case l_1610 => first | decide | (simp; done))
  with_reducible refine' ev_int ?_
  with_reducible refine' op_eq ?_
  with_reducible refine' opt_bool ?_
  (refine' ite_t ?h ?_; (case h => first | rfl | decide | (simp; done) | (simp; omega)))
  with_reducible refine ex_cons ?_
  (with_reducible refine' ex_assign ?_ ?k_1646 ?l_1646 ?s_1646); (case k_1646 => rfl); (case l_1646 => rfl); (case s_1646 => rfl)
  with_reducible refine' ev_Subscript ?_
  (with_reducible refine' ev_name ?x_1672 ?p_1672 ?_ ?d_1672); (case x_1672 => rfl); (case p_1672 => rfl); (case d_1672 => decide)
  with_reducible refine' ev_int ?_
  (with_reducible refine' op_item_tup ?a_1745 ?b_1745 ?j_1745 ?x_1745 ?_ ?s_1745); (case a_1745 => decide); (case b_1745 => decide); (case j_1745 => rfl); (case x_1745 => rfl); (case s_1745 => intros; with_unfolding_all rfl)
  with_reducible refine seq_nxt ?_
  with_reducible refine ex_cons ?_
  with_reducible refine' ex_assert ?_
  (with_reducible refine' evt_Compare ?_ ?m_1766); (case m_1766 => with_unfolding_all rfl)
  (with_reducible refine' ev_name ?x_1768 ?p_1768 ?_ ?d_1768); (case x_1768 => rfl); (case p_1768 => rfl); (case d_1768 => decide)
  (with_reducible refine' ev_Method (pl := _) ?_ ?h_1840); (case h_1840 => with_unfolding_all rfl)
  (with_reducible refine' ev_name ?x_1865 ?p_1865 ?_ ?d_1865); (case x_1865 => rfl); (case p_1865 => rfl); (case d_1865 => decide)
  with_reducible refine' mth_cell0 m_level ?_
  (with_reducible refine' cl_level ?r_2257 ?l_2257 ?_); (case r_2257 => (refine Cx.Room.le (by assumption) ?_; decide)); (case l_2257 => (first | assumption | omega))
  with_reducible refine' op_ge ?_
  with_reducible refine' opt_bool ?_
  refine ⟨decide_eq_true (by omega), ?_⟩
  with_reducible refine seq_nxt ?_
  with_reducible refine ex_cons ?_
  with_reducible refine' ex_assert ?_
  (with_reducible refine' evt_Compare ?_ ?m_2308); (case m_2308 => with_unfolding_all rfl)
  (with_reducible refine' ev_name ?x_2313 ?p_2313 ?_ ?d_2313); (case x_2313 => rfl); (case p_2313 => rfl); (case d_2313 => decide)
  (with_reducible refine' ev_Attr ?_ ?h_2366); (case h_2366 => with_unfolding_all rfl)
  (with_reducible refine' ev_Attr ?_ ?h_2372); (case h_2372 => with_unfolding_all rfl)
  (with_reducible refine' ev_name ?x_2375 ?p_2375 ?_ ?d_2375); (case x_2375 => rfl); (case p_2375 => rfl); (case d_2375 => decide)
  with_reducible refine' at_class cls_attr ?_
  with_reducible refine' at_cls_int cv_MAX_LEVEL ?_
  with_reducible refine' op_le ?_
  with_reducible refine' opt_bool ?_
  refine ⟨decide_eq_true (by omega), ?_⟩
  with_reducible refine seq_nxt ?_
  with_reducible refine ex_cons ?_
  with_reducible refine' ex_return ?_
  (with_reducible refine' ev_Method (pl := _) ?_ ?h_2587); (case h_2587 => with_unfolding_all rfl)
  (with_reducible refine' ev_name ?x_2618 ?p_2618 ?_ ?d_2618); (case x_2618 => rfl); (case p_2618 => rfl); (case d_2618 => decide)
  with_reducible refine' mth_class cls_attr ?_
  (with_reducible refine' cw_def keep_C ?_ ?h_2681 ?p_2681); (case h_2681 => with_unfolding_all rfl); (case p_2681 => with_unfolding_all rfl)
  (with_reducible refine' evl_cons ?_ ?h_2691); (case h_2691 => with_unfolding_all rfl)
  with_reducible refine' ev_BinOp ?_
  with_reducible refine' ev_BinOp ?_
  (with_reducible refine' ev_Method (pl := _) ?_ ?h_2699); (case h_2699 => with_unfolding_all rfl)
  (with_reducible refine' ev_name ?x_2709 ?p_2709 ?_ ?d_2709); (case x_2709 => rfl); (case p_2709 => rfl); (case d_2709 => decide)
  with_reducible refine' mth_cell0 m_id ?_
  (with_reducible refine' cl_id ?r_3084 ?_); (case r_3084 => (refine Cx.Room.le (by assumption) ?_; decide))
  (with_reducible refine' ev_Method (pl := _) ?_ ?h_3086); (case h_3086 => with_unfolding_all rfl)
  (with_reducible refine' ev_name ?x_3087 ?p_3087 ?_ ?d_3087); (case x_3087 => rfl); (case p_3087 => rfl); (case d_3087 => decide)
  with_reducible refine' mth_cell0 m_lsb ?_
  (with_reducible refine' cl_lsb ?r_3284 ?_); (case r_3284 => (refine Cx.Room.le (by assumption) ?_; decide))
  with_reducible refine' op_sub ?_
  (with_reducible refine' ev_Method (pl := _) ?_ ?h_3289); (case h_3289 => with_unfolding_all rfl)
  (with_reducible refine' ev_Attr ?_ ?h_3296); (case h_3296 => with_unfolding_all rfl)
  (with_reducible refine' ev_name ?x_3297 ?p_3297 ?_ ?d_3297); (case x_3297 => rfl); (case p_3297 => rfl); (case d_3297 => decide)
  with_reducible refine' at_class cls_attr ?_
  (with_reducible refine' mth_cls cm_lsb_for_level ?_ ?h_3490 ?p_3490); (case h_3490 => with_unfolding_all rfl); (case p_3490 => with_unfolding_all rfl)
  (with_reducible refine' evl_cons ?_ ?h_3492); (case h_3492 => with_unfolding_all rfl)
  (with_reducible refine' ev_name ?x_3493 ?p_3493 ?_ ?d_3493); (case x_3493 => rfl); (case p_3493 => rfl); (case d_3493 => decide)
  with_reducible refine' evl_nil ?_
  (with_reducible refine' cl_lsb_for_level ?r_3573 ?c_3573 ?l_3573 ?_); (case r_3573 => (refine Cx.Room.le (by assumption) ?_; decide)); (case c_3573 => rfl); (case l_3573 => (first | assumption | omega))
  with_reducible refine' op_add ?_
  with_reducible refine' evl_nil ?_
  (with_reducible refine' cl_new ?r_3588 ?c_3588 ?_); (case r_3588 => (refine Cx.Room.le (by assumption) ?_; decide)); (case c_3588 => rfl)
  with_reducible refine seq_ret ?_
  with_reducible refine seq_ret ?_
  with_reducible refine seq_ret ?_
  with_reducible refine body_ret ?_
  rw [begin_int hL hl, gid_mod' hl (begin_le hL (by omega))]
  exact h

theorem cl_child_end {L l p : Nat} {Q : PV → Prop} (hr : c.Room 4) (hL : L ≤ l) (hl : l ≤ 30) (hp : p < 6 * 2 ^ (2 * L)) (h : Q (.cell (gid l ((p + 1) * 2 ^ (2 * (l - L)))))) : Cl (gl w mean mg mb) c σ (.ref f_child_end) [.cell (gid L p), .int (l : Int)] Q := by
  refine cl_rest (k := 3) (n0 := "self") (n1 := "args") (xs := [.int (l : Int)]) (by rfl) (by kernel_rfl) hr (by simp) (by (intro v0 vs hl; match vs, hl with | [_], _ => exact ⟨_, rfl, fun _ => rfl⟩)) (by decide) (by decide) (by decide) (fun A g0 fL hid hr' => ?_)
  with_reducible refine ex_cons ?_
  with_reducible refine' ex_assert ?_
  (with_reducible refine' evt_of ?_ ?h_677); (case h_677 => with_unfolding_all rfl)
  (with_reducible refine' ev_Method (pl := _) ?_ ?h_679); (case h_679 => with_unfolding_all rfl)
  (with_reducible refine' ev_name ?x_693 ?p_693 ?_ ?d_693); (case x_693 => rfl); (case p_693 => rfl); (case d_693 => decide)
  with_reducible refine' mth_cell0 m_is_valid ?_
  (with_reducible refine' cl_is_valid ?r_1091 ?l_1091 ?p_1091 ?_); (case r_1091 => (refine Cx.Room.le (by assumption) ?_; decide)); (case l_1091 => (first | assumption | omega)); (case p_1091 => (first | assumption | omega))
  with_reducible refine' opt_bool ?_
  with_reducible refine' and_tt ?_
  with_reducible refine seq_nxt ?_
  with_reducible refine ex_cons ?_
  with_reducible refine' ex_if ?_
  (with_reducible refine' evt_Compare ?_ ?m_1127); (case m_1127 => with_unfolding_all rfl)
  (with_reducible refine' ev_Call ?_ ?h_1129); (case h_1129 => with_unfolding_all rfl)
  (with_reducible refine' ev_builtin n_len bb_len ?k_1263 ?_ ?n_1263 ?d_1263); (case k_1263 => rfl); (case n_1263 => decide); (case d_1263 => decide)
  (with_reducible refine' cw_builtin ?_ ?h_1349 ?p_1349); (case h_1349 => with_unfolding_all rfl); (case p_1349 => with_unfolding_all rfl)
  (with_reducible refine' evl_cons ?_ ?h_1381); (case h_1381 => with_unfolding_all rfl)
  (with_reducible refine' ev_name ?x_1386 ?p_1386 ?_ ?d_1386); (case x_1386 => rfl); (case p_1386 => rfl); (case d_1386 => decide)
  with_reducible refine' evl_nil ?_
  (with_reducible refine' b_len_tup ?l_1411 ?_); (case l_1411 => first | decide | (simp; done))
  with_reducible refine' ev_int ?_
  with_reducible refine' op_eq ?_
  with_reducible refine' opt_bool ?_
  (refine' ite_f ?h ?_; (case h => first | rfl | decide | (simp; done)))
  with_reducible refine ex_cons ?_
  with_reducible refine' ex_if ?_
  (with_reducible refine' evt_Compare ?_ ?m_1448); (case m_1448 => with_unfolding_all rfl)
  (with_reducible refine' ev_Call ?_ ?h_1452); (case h_1452 => with_unfolding_all rfl)
  (with_reducible refine' ev_builtin n_len bb_len ?k_1553 ?_ ?n_1553 ?d_1553); (case k_1553 => rfl); (case n_1553 => decide); (case d_1553 => decide)
  (with_reducible refine' cw_builtin ?_ ?h_1618 ?p_1618); (case h_1618 => with_unfolding_all rfl); (case p_1618 => with_unfolding_all rfl)
  (with_reducible refine' evl_cons ?_ ?h_1632); (case h_1632 => with_unfolding_all rfl)
  (with_reducible refine' ev_name ?x_1633 ?p_1633 ?_ ?d_1633); (case x_1633 => rfl); (case p_1633 => rfl); (case d_1633 => decide)
  with_reducible refine' evl_nil ?_
  (with_reducible refine' b_len_tup ?l_1669 ?_); (case l_1669 => first | decide | (simp; done))
  with_reducible refine' ev_int ?_
  with_reducible refine' op_eq ?_
  with_reducible refine' opt_bool ?_
  (refine' ite_t ?h ?_; (case h => first | rfl | decide | (simp; done) | (simp; omega)))
  with_reducible refine ex_cons ?_
  (with_reducible refine' ex_assign ?_ ?k_1692 ?l_1692 ?s_1692); (case k_1692 => rfl); (case l_1692 => rfl); (case s_1692 => rfl)
  with_reducible refine' ev_Subscript ?_
  (with_reducible refine' ev_name ?x_1741 ?p_1741 ?_ ?d_1741); (case x_1741 => rfl); (case p_1741 => rfl); (case d_1741 => decide)
  with_reducible refine' ev_int ?_
  (with_reducible refine' op_item_tup ?a_1810 ?b_1810 ?j_1810 ?x_1810 ?_ ?s_1810); (case a_1810 => decide); (case b_1810 => decide); (case j_1810 => rfl); (case x_1810 => rfl); (case s_1810 => intros; with_unfolding_all rfl)
  with_reducible refine seq_nxt ?_
  with_reducible refine ex_cons ?_
  with_reducible refine' ex_assert ?_
  (with_reducible refine' evt_Compare ?_ ?m_1834); (case m_1834 => with_unfolding_all rfl)
  (with_reducible refine' ev_name ?x_1837 ?p_1837 ?_ ?d_1837); (case x_1837 => rfl); (case p_1837 => rfl); (case d_1837 => decide)
  (with_reducible refine' ev_Method (pl := _) ?_ ?h_1889); (case h_1889 => with_unfolding_all rfl)
  (with_reducible refine' ev_name ?x_1908 ?p_1908 ?_ ?d_1908); (case x_1908 => rfl); (case p_1908 => rfl); (case d_1908 => decide)
  with_reducible refine' mth_cell0 m_level ?_
  (with_reducible refine' cl_level ?r_2293 ?l_2293 ?_); (case r_2293 => (refine Cx.Room.le (by assumption) ?_; decide)); (case l_2293 => (first | assumption | omega))
  with_reducible refine' op_ge ?_
  with_reducible refine' opt_bool ?_
  refine ⟨decide_eq_true (by omega), ?_⟩
  with_reducible refine seq_nxt ?_
  with_reducible refine ex_cons ?_
  with_reducible refine' ex_assert ?_
  (with_reducible refine' evt_Compare ?_ ?m_2360); (case m_2360 => with_unfolding_all rfl)
  (with_reducible refine' ev_name ?x_2364 ?p_2364 ?_ ?d_2364); (case x_2364 => rfl); (case p_2364 => rfl); (case d_2364 => decide)
  (with_reducible refine' ev_Attr ?_ ?h_2388); (case h_2388 => with_unfolding_all rfl)
  (with_reducible refine' ev_Attr ?_ ?h_2401); (case h_2401 => with_unfolding_all rfl)
  (with_reducible refine' ev_name ?x_2409 ?p_2409 ?_ ?d_2409); (case x_2409 => rfl); (case p_2409 => rfl); (case d_2409 => decide)
  with_reducible refine' at_class cls_attr ?_
  with_reducible refine' at_cls_int cv_MAX_LEVEL ?_
  with_reducible refine' op_le ?_
  with_reducible refine' opt_bool ?_
  refine ⟨decide_eq_true (by omega), ?_⟩
  with_reducible refine seq_nxt ?_
  with_reducible refine ex_cons ?_
  with_reducible refine' ex_return ?_
  (with_reducible refine' ev_Method (pl := _) ?_ ?h_2608); (case h_2608 => with_unfolding_all rfl)
  (with_reducible refine' ev_name ?x_2621 ?p_2621 ?_ ?d_2621); (case x_2621 => rfl); (case p_2621 => rfl); (case d_2621 => decide)
  with_reducible refine' mth_class cls_attr ?_
  (with_reducible refine' cw_def keep_C ?_ ?h_2658 ?p_2658); (case h_2658 => with_unfolding_all rfl); (case p_2658 => with_unfolding_all rfl)
  (with_reducible refine' evl_cons ?_ ?h_2669); (case h_2669 => with_unfolding_all rfl)
  with_reducible refine' ev_BinOp ?_
  with_reducible refine' ev_BinOp ?_
  (with_reducible refine' ev_Method (pl := _) ?_ ?h_2674); (case h_2674 => with_unfolding_all rfl)
  (with_reducible refine' ev_name ?x_2696 ?p_2696 ?_ ?d_2696); (case x_2696 => rfl); (case p_2696 => rfl); (case d_2696 => decide)
  with_reducible refine' mth_cell0 m_id ?_
  (with_reducible refine' cl_id ?r_3060 ?_); (case r_3060 => (refine Cx.Room.le (by assumption) ?_; decide))
  (with_reducible refine' ev_Method (pl := _) ?_ ?h_3064); (case h_3064 => with_unfolding_all rfl)
  (with_reducible refine' ev_name ?x_3085 ?p_3085 ?_ ?d_3085); (case x_3085 => rfl); (case p_3085 => rfl); (case d_3085 => decide)
  with_reducible refine' mth_cell0 m_lsb ?_
  (with_reducible refine' cl_lsb ?r_3240 ?_); (case r_3240 => (refine Cx.Room.le (by assumption) ?_; decide))
  with_reducible refine' op_add ?_
  (with_reducible refine' ev_Method (pl := _) ?_ ?h_3250); (case h_3250 => with_unfolding_all rfl)
  (with_reducible refine' ev_Attr ?_ ?h_3290); (case h_3290 => with_unfolding_all rfl)
  (with_reducible refine' ev_name ?x_3292 ?p_3292 ?_ ?d_3292); (case x_3292 => rfl); (case p_3292 => rfl); (case d_3292 => decide)
  with_reducible refine' at_class cls_attr ?_
  (with_reducible refine' mth_cls cm_lsb_for_level ?_ ?h_3424 ?p_3424); (case h_3424 => with_unfolding_all rfl); (case p_3424 => with_unfolding_all rfl)
  (with_reducible refine' evl_cons ?_ ?h_3460); (case h_3460 => with_unfolding_all rfl)
  (with_reducible refine' ev_name ?x_3468 ?p_3468 ?_ ?d_3468); (case x_3468 => rfl); (case p_3468 => rfl); (case d_3468 => decide)
  with_reducible refine' evl_nil ?_
  (with_reducible refine' cl_lsb_for_level ?r_3517 ?c_3517 ?l_3517 ?_); (case r_3517 => (refine Cx.Room.le (by assumption) ?_; decide)); (case c_3517 => rfl); (case l_3517 => (first | assumption | omega))
  with_reducible refine' op_add ?_
  with_reducible refine' evl_nil ?_
  (with_reducible refine' cl_new ?r_3544 ?c_3544 ?_); (case r_3544 => (refine Cx.Room.le (by assumption) ?_; decide)); (case c_3544 => rfl)
  with_reducible refine seq_ret ?_
  with_reducible refine seq_ret ?_
  with_reducible refine seq_ret ?_
  with_reducible refine body_ret ?_
  rw [end_int hL hl, gid_mod' hl (begin_le hL (by omega))]
  exact h

theorem cl_eq {a b : Int} {Q : PV → Prop} (hr : c.Room 2) (h : Q (.bool (a == b))) : Cl (gl w mean mg mb) c σ (.ref f_eq) [.cell a, .cell b] Q := by
  refine cl_def (k := 1) (ns := ["self", "other"]) (by rfl) (by kernel_rfl) hr (by (intro vs s hl; match vs, hl with | [_, _], _ => exact BindsTo.of_eq rfl)) (by decide) (by decide) (by decide) (fun A g0 fL hid hr' => ?_)
  with_reducible refine ex_cons ?_
  with_reducible refine' ex_return ?_
  with_reducible refine' ev_and ?_
  (with_reducible refine' ev_Call ?_ ?h_749); (case h_749 => with_unfolding_all rfl)
  (with_reducible refine' ev_builtin n_isinstance bb_isinstance ?k_843 ?_ ?n_843 ?d_843); (case k_843 => rfl); (case n_843 => decide); (case d_843 => decide)
  (with_reducible refine' cw_builtin ?_ ?h_895 ?p_895); (case h_895 => with_unfolding_all rfl); (case p_895 => with_unfolding_all rfl)
  (with_reducible refine' evl_cons ?_ ?h_908); (case h_908 => with_unfolding_all rfl)
  (with_reducible refine' ev_name ?x_910 ?p_910 ?_ ?d_910); (case x_910 => rfl); (case p_910 => rfl); (case d_910 => decide)
  (with_reducible refine' evl_cons ?_ ?h_945); (case h_945 => with_unfolding_all rfl)
  (with_reducible refine' ev_Attr ?_ ?h_948); (case h_948 => with_unfolding_all rfl)
  (with_reducible refine' ev_name ?x_955 ?p_955 ?_ ?d_955); (case x_955 => rfl); (case p_955 => rfl); (case d_955 => decide)
  with_reducible refine' at_class cls_attr ?_
  with_reducible refine' evl_nil ?_
  with_reducible refine' b_isi_cell isin_C ?_
  with_reducible refine' opt_bool ?_
  (refine' ite_t ?h ?_; (case h => first | rfl | decide | (simp; done) | (simp; omega)))
  with_reducible refine' ev_one ?_
  (with_reducible refine' ev_Compare ?_ ?m_1019); (case m_1019 => with_unfolding_all rfl)
  (with_reducible refine' ev_Method (pl := _) ?_ ?h_1023); (case h_1023 => with_unfolding_all rfl)
  (with_reducible refine' ev_name ?x_1051 ?p_1051 ?_ ?d_1051); (case x_1051 => rfl); (case p_1051 => rfl); (case d_1051 => decide)
  with_reducible refine' mth_cell0 m_id ?_
  (with_reducible refine' cl_id ?r_1569 ?_); (case r_1569 => (refine Cx.Room.le (by assumption) ?_; decide))
  (with_reducible refine' ev_Method (pl := _) ?_ ?h_1572); (case h_1572 => with_unfolding_all rfl)
  (with_reducible refine' ev_name ?x_1607 ?p_1607 ?_ ?d_1607); (case x_1607 => rfl); (case p_1607 => rfl); (case d_1607 => decide)
  with_reducible refine' mth_cell0 m_id ?_
  (with_reducible refine' cl_id ?r_2059 ?_); (case r_2059 => (refine Cx.Room.le (by assumption) ?_; decide))
  with_reducible refine' op_eq ?_
  with_reducible refine seq_ret ?_
  with_reducible refine body_ret ?_
  exact h
theorem cl_ne {a b : Int} {Q : PV → Prop} (hr : c.Room 3) (h : Q (.bool (!(a == b)))) : Cl (gl w mean mg mb) c σ (.ref f_ne) [.cell a, .cell b] Q := by
  refine cl_def (k := 2) (ns := ["self", "other"]) (by rfl) (by kernel_rfl) hr (by (intro vs s hl; match vs, hl with | [_, _], _ => exact BindsTo.of_eq rfl)) (by decide) (by decide) (by decide) (fun A g0 fL hid hr' => ?_)
  with_reducible refine ex_cons ?_
  with_reducible refine' ex_return ?_
  with_reducible refine' ev_UnaryOp ?_
  (with_reducible refine' ev_Method (pl := _) ?_ ?h_906); (case h_906 => with_unfolding_all rfl)
  (with_reducible refine' ev_name ?x_922 ?p_922 ?_ ?d_922); (case x_922 => rfl); (case p_922 => rfl); (case d_922 => decide)
  (with_reducible refine' mth_cell m_eq ?_ ?h_1568 ?p_1568); (case h_1568 => with_unfolding_all rfl); (case p_1568 => with_unfolding_all rfl)
  (with_reducible refine' evl_cons ?_ ?h_1600); (case h_1600 => with_unfolding_all rfl)
  (with_reducible refine' ev_name ?x_1605 ?p_1605 ?_ ?d_1605); (case x_1605 => rfl); (case p_1605 => rfl); (case d_1605 => decide)
  with_reducible refine' evl_nil ?_
  (with_reducible refine' cl_eq ?r_1631 ?_); (case r_1631 => (refine Cx.Room.le (by assumption) ?_; decide))
  with_reducible refine' op_not ?_
  with_reducible refine' opt_bool ?_
  with_reducible refine seq_ret ?_
  with_reducible refine body_ret ?_
  exact h

theorem cl_advance {L p q : Nat} {n : Int} {Q : PV → Prop} (hr : c.Room 4) (hL : L ≤ 30) (hp : p ≤ 6 * 2 ^ (2 * L)) (hq : q ≤ 6 * 2 ^ (2 * L)) (e : (q : Int) = p + n) (hn : n.natAbs < 2 ^ 100) (h : Q (.cell (gid L q))) : Cl (gl w mean mg mb) c σ (.ref f_advance) [.cell (gid L p), .int n] Q := by
  refine cl_def (k := 3) (ns := ["self", "steps"]) (by rfl) (by kernel_rfl) hr (by (intro vs s hl; match vs, hl with | [_, _], _ => exact BindsTo.of_eq rfl)) (by decide) (by decide) (by decide) (fun A g0 fL hid hr' => ?_)
  with_reducible refine ex_cons ?_
  with_reducible refine' ex_if ?_
  (with_reducible refine' evt_Compare ?_ ?m_1151); (case m_1151 => with_unfolding_all rfl)
  (with_reducible refine' ev_name ?x_1153 ?p_1153 ?_ ?d_1153); (case x_1153 => rfl); (case p_1153 => rfl); (case d_1153 => decide)
  with_reducible refine' ev_int ?_
  with_reducible refine' op_eq ?_
  with_reducible refine' opt_bool ?_
  by_cases h0 : n = 0
  · subst h0
    (refine' ite_t ?h ?_; (case h => first | rfl | decide | (simp; done) | (simp; omega)))
    with_reducible refine ex_cons ?_
    with_reducible refine' ex_return ?_
    (with_reducible refine' ev_name ?x_1262 ?p_1262 ?_ ?d_1262); (case x_1262 => rfl); (case p_1262 => rfl); (case d_1262 => decide)
    with_reducible refine seq_ret ?_
    with_reducible refine seq_ret ?_
    with_reducible refine body_ret ?_
    rw [show p = q by omega]
    exact h
  · refine ite_f (by simpa using h0) ?_
    with_reducible refine ex_nil ?_
    with_reducible refine seq_nxt ?_
    with_reducible refine ex_cons ?_
    (with_reducible refine' ex_assign ?_ ?k_1363 ?l_1363 ?s_1363); (case k_1363 => rfl); (case l_1363 => rfl); (case s_1363 => rfl)
    with_reducible refine' ev_BinOp ?_
    with_reducible refine' ev_BinOp ?_
    with_reducible refine' ev_int ?_
    with_reducible refine' ev_BinOp ?_
    (with_reducible refine' ev_Attr ?_ ?h_1416); (case h_1416 => with_unfolding_all rfl)
    (with_reducible refine' ev_Attr ?_ ?h_1422); (case h_1422 => with_unfolding_all rfl)
    (with_reducible refine' ev_name ?x_1431 ?p_1431 ?_ ?d_1431); (case x_1431 => rfl); (case p_1431 => rfl); (case d_1431 => decide)
    with_reducible refine' at_class cls_attr ?_
    with_reducible refine' at_cls_int cv_MAX_LEVEL ?_
    (with_reducible refine' ev_Method (pl := _) ?_ ?h_1651); (case h_1651 => with_unfolding_all rfl)
    (with_reducible refine' ev_name ?x_1664 ?p_1664 ?_ ?d_1664); (case x_1664 => rfl); (case p_1664 => rfl); (case d_1664 => decide)
    with_reducible refine' mth_cell0 m_level ?_
    (with_reducible refine' cl_level ?r_1985 ?l_1985 ?_); (case r_1985 => (refine Cx.Room.le (by assumption) ?_; decide)); (case l_1985 => (first | assumption | omega))
    with_reducible refine' op_sub ?_
    refine op_mul (mul_ok_l (by decide)) ?_
    with_reducible refine' ev_int ?_
    with_reducible refine' op_add ?_
    with_reducible refine seq_nxt ?_
    with_reducible refine ex_cons ?_
    with_reducible refine' ex_if ?_
    (with_reducible refine' evt_Compare ?_ ?m_2109); (case m_2109 => with_unfolding_all rfl)
    (with_reducible refine' ev_name ?x_2110 ?p_2110 ?_ ?d_2110); (case x_2110 => rfl); (case p_2110 => rfl); (case d_2110 => decide)
    with_reducible refine' ev_int ?_
    with_reducible refine' op_lt ?_
    with_reducible refine' opt_bool ?_
    by_cases h1 : n < 0
    · refine ite_t (decide_eq_true h1) ?_
      with_reducible refine ex_cons ?_
      (with_reducible refine' ex_assign ?_ ?k_2211 ?l_2211 ?s_2211); (case k_2211 => rfl); (case l_2211 => rfl); (case s_2211 => rfl)
      with_reducible refine' ev_UnaryOp ?_
      with_reducible refine' ev_BinOp ?_
      (with_reducible refine' ev_Method (pl := _) ?_ ?h_2262); (case h_2262 => with_unfolding_all rfl)
      (with_reducible refine' ev_name ?x_2294 ?p_2294 ?_ ?d_2294); (case x_2294 => rfl); (case p_2294 => rfl); (case d_2294 => decide)
      with_reducible refine' mth_cell0 m_id ?_
      (with_reducible refine' cl_id ?r_2662 ?_); (case r_2662 => (refine Cx.Room.le (by assumption) ?_; decide))
      (with_reducible refine' ev_name ?x_2665 ?p_2665 ?_ ?d_2665); (case x_2665 => rfl); (case p_2665 => rfl); (case d_2665 => decide)
      refine op_shr (by omega) ?_
      with_reducible refine' op_neg ?_
      with_reducible refine seq_nxt ?_
      with_reducible refine ex_cons ?_
      with_reducible refine' ex_if ?_
      (with_reducible refine' evt_Compare ?_ ?m_2811); (case m_2811 => with_unfolding_all rfl)
      (with_reducible refine' ev_name ?x_2814 ?p_2814 ?_ ?d_2814); (case x_2814 => rfl); (case p_2814 => rfl); (case d_2814 => decide)
      (with_reducible refine' ev_name ?x_2871 ?p_2871 ?_ ?d_2871); (case x_2871 => rfl); (case p_2871 => rfl); (case d_2871 => decide)
      with_reducible refine' op_lt ?_
      with_reducible refine' opt_bool ?_
      rw [shr_pos hL]
      refine ite_f (decide_eq_false (by omega)) ?_
      with_reducible refine ex_nil ?_
      with_reducible refine seq_nxt ?_
      with_reducible refine ex_nil ?_
      with_reducible refine seq_nxt ?_
      with_reducible refine ex_cons ?_
      with_reducible refine' ex_return ?_
      (with_reducible refine' ev_Method (pl := _) ?_ ?h_2979); (case h_2979 => with_unfolding_all rfl)
      (with_reducible refine' ev_name ?x_3001 ?p_3001 ?_ ?d_3001); (case x_3001 => rfl); (case p_3001 => rfl); (case d_3001 => decide)
      with_reducible refine' mth_class cls_attr ?_
      (with_reducible refine' cw_def keep_C ?_ ?h_3054 ?p_3054); (case h_3054 => with_unfolding_all rfl); (case p_3054 => with_unfolding_all rfl)
      (with_reducible refine' evl_cons ?_ ?h_3062); (case h_3062 => with_unfolding_all rfl)
      with_reducible refine' ev_BinOp ?_
      (with_reducible refine' ev_Method (pl := _) ?_ ?h_3067); (case h_3067 => with_unfolding_all rfl)
      (with_reducible refine' ev_name ?x_3071 ?p_3071 ?_ ?d_3071); (case x_3071 => rfl); (case p_3071 => rfl); (case d_3071 => decide)
      with_reducible refine' mth_cell0 m_id ?_
      (with_reducible refine' cl_id ?r_3274 ?_); (case r_3274 => (refine Cx.Room.le (by assumption) ?_; decide))
      with_reducible refine' ev_BinOp ?_
      (with_reducible refine' ev_name ?x_3283 ?p_3283 ?_ ?d_3283); (case x_3283 => rfl); (case p_3283 => rfl); (case d_3283 => decide)
      (with_reducible refine' ev_name ?x_3320 ?p_3320 ?_ ?d_3320); (case x_3320 => rfl); (case p_3320 => rfl); (case d_3320 => decide)
      refine op_shl (by omega) (shl_fits hn (by omega) (by omega)) ?_
      with_reducible refine' op_add ?_
      with_reducible refine' evl_nil ?_
      (with_reducible refine' cl_new ?r_3515 ?c_3515 ?_); (case r_3515 => (refine Cx.Room.le (by assumption) ?_; decide)); (case c_3515 => rfl)
      with_reducible refine seq_ret ?_
      with_reducible refine body_ret ?_
      rw [step_int hL e, gid_mod' hL hq]
      exact h
    · refine ite_f (decide_eq_false h1) ?_
      with_reducible refine ex_cons ?_
      (with_reducible refine' ex_assign ?_ ?k_3534 ?l_3534 ?s_3534); (case k_3534 => rfl); (case l_3534 => rfl); (case s_3534 => rfl)
      with_reducible refine' ev_BinOp ?_
      with_reducible refine' ev_BinOp ?_
      with_reducible refine' ev_BinOp ?_
      (with_reducible refine' ev_Attr ?_ ?h_3599); (case h_3599 => with_unfolding_all rfl)
      (with_reducible refine' ev_Attr ?_ ?h_3601); (case h_3601 => with_unfolding_all rfl)
      (with_reducible refine' ev_name ?x_3608 ?p_3608 ?_ ?d_3608); (case x_3608 => rfl); (case p_3608 => rfl); (case d_3608 => decide)
      with_reducible refine' at_class cls_attr ?_
      with_reducible refine' at_cls_int cv_WRAP_OFFSET ?_
      (with_reducible refine' ev_Method (pl := _) ?_ ?h_3634); (case h_3634 => with_unfolding_all rfl)
      (with_reducible refine' ev_name ?x_3644 ?p_3644 ?_ ?d_3644); (case x_3644 => rfl); (case p_3644 => rfl); (case d_3644 => decide)
      with_reducible refine' mth_cell0 m_lsb ?_
      (with_reducible refine' cl_lsb ?r_3735 ?_); (case r_3735 => (refine Cx.Room.le (by assumption) ?_; decide))
      with_reducible refine' op_add ?_
      (with_reducible refine' ev_Method (pl := _) ?_ ?h_3739); (case h_3739 => with_unfolding_all rfl)
      (with_reducible refine' ev_name ?x_3756 ?p_3756 ?_ ?d_3756); (case x_3756 => rfl); (case p_3756 => rfl); (case d_3756 => decide)
      with_reducible refine' mth_cell0 m_id ?_
      (with_reducible refine' cl_id ?r_3844 ?_); (case r_3844 => (refine Cx.Room.le (by assumption) ?_; decide))
      with_reducible refine' op_sub ?_
      (with_reducible refine' ev_name ?x_3850 ?p_3850 ?_ ?d_3850); (case x_3850 => rfl); (case p_3850 => rfl); (case d_3850 => decide)
      refine op_shr (by omega) ?_
      with_reducible refine seq_nxt ?_
      with_reducible refine ex_cons ?_
      with_reducible refine' ex_if ?_
      (with_reducible refine' evt_Compare ?_ ?m_3887); (case m_3887 => with_unfolding_all rfl)
      (with_reducible refine' ev_name ?x_3888 ?p_3888 ?_ ?d_3888); (case x_3888 => rfl); (case p_3888 => rfl); (case d_3888 => decide)
      (with_reducible refine' ev_name ?x_3899 ?p_3899 ?_ ?d_3899); (case x_3899 => rfl); (case p_3899 => rfl); (case d_3899 => decide)
      with_reducible refine' op_gt ?_
      with_reducible refine' opt_bool ?_
      rw [max_steps hL hp]
      refine ite_f (decide_eq_false (by omega)) ?_
      with_reducible refine ex_nil ?_
      with_reducible refine seq_nxt ?_
      with_reducible refine ex_nil ?_
      with_reducible refine seq_nxt ?_
      with_reducible refine ex_cons ?_
      with_reducible refine' ex_return ?_
      (with_reducible refine' ev_Method (pl := _) ?_ ?h_3938); (case h_3938 => with_unfolding_all rfl)
      (with_reducible refine' ev_name ?x_3943 ?p_3943 ?_ ?d_3943); (case x_3943 => rfl); (case p_3943 => rfl); (case d_3943 => decide)
      with_reducible refine' mth_class cls_attr ?_
      (with_reducible refine' cw_def keep_C ?_ ?h_3945 ?p_3945); (case h_3945 => with_unfolding_all rfl); (case p_3945 => with_unfolding_all rfl)
      (with_reducible refine' evl_cons ?_ ?h_3947); (case h_3947 => with_unfolding_all rfl)
      with_reducible refine' ev_BinOp ?_
      (with_reducible refine' ev_Method (pl := _) ?_ ?h_3949); (case h_3949 => with_unfolding_all rfl)
      (with_reducible refine' ev_name ?x_3950 ?p_3950 ?_ ?d_3950); (case x_3950 => rfl); (case p_3950 => rfl); (case d_3950 => decide)
      with_reducible refine' mth_cell0 m_id ?_
      (with_reducible refine' cl_id ?r_4007 ?_); (case r_4007 => (refine Cx.Room.le (by assumption) ?_; decide))
      with_reducible refine' ev_BinOp ?_
      (with_reducible refine' ev_name ?x_4009 ?p_4009 ?_ ?d_4009); (case x_4009 => rfl); (case p_4009 => rfl); (case d_4009 => decide)
      (with_reducible refine' ev_name ?x_4010 ?p_4010 ?_ ?d_4010); (case x_4010 => rfl); (case p_4010 => rfl); (case d_4010 => decide)
      refine op_shl (by omega) (shl_fits hn (by omega) (by omega)) ?_
      with_reducible refine' op_add ?_
      with_reducible refine' evl_nil ?_
      (with_reducible refine' cl_new ?r_4046 ?c_4046 ?_); (case r_4046 => (refine Cx.Room.le (by assumption) ?_; decide)); (case c_4046 => rfl)
      with_reducible refine seq_ret ?_
      with_reducible refine body_ret ?_
      rw [step_int hL e, gid_mod' hL hq]
      exact h

theorem cl_from_face_pos_level {L f P : Nat} {C : Addr} {Q : PV → Prop} (hr : c.Room 5) (hC : C = (gl w mean mg mb).C) (hL : L ≤ 30) (hf : f < 6) (hP : P < 2 ^ (2 * L)) (h : Q (.cell (gid L (f * 2 ^ (2 * L) + P)))) :
    Cl (gl w mean mg mb) c σ (.ref f_from_face_pos_level) [.raw (.ref C), .int (f : Int), .int ((P * 2 ^ (61 - 2 * L) : Nat) : Int), .int (L : Int)] Q := by
  subst hC
  refine cl_def (k := 4) (ns := ["cls", "face", "pos", "level"]) (by rfl) (by kernel_rfl) hr (by (intro vs s hl; match vs, hl with | [_, _, _, _], _ => exact BindsTo.of_eq rfl)) (by decide) (by decide) (by decide) (fun A g0 fL hid hr' => ?_)
  with_reducible refine ex_cons ?_
  with_reducible refine' ex_return ?_
  (with_reducible refine' ev_Method (pl := _) ?_ ?h_2113); (case h_2113 => with_unfolding_all rfl)
  (with_reducible refine' ev_Call ?_ ?h_2151); (case h_2151 => with_unfolding_all rfl)
  (with_reducible refine' ev_name ?x_2158 ?p_2158 ?_ ?d_2158); (case x_2158 => rfl); (case p_2158 => rfl); (case d_2158 => decide)
  (with_reducible refine' cw_def keep_C ?_ ?h_2191 ?p_2191); (case h_2191 => with_unfolding_all rfl); (case p_2191 => with_unfolding_all rfl)
  (with_reducible refine' evl_cons ?_ ?h_2196); (case h_2196 => with_unfolding_all rfl)
  with_reducible refine' ev_BinOp ?_
  with_reducible refine' ev_BinOp ?_
  (with_reducible refine' ev_name ?x_2201 ?p_2201 ?_ ?d_2201); (case x_2201 => rfl); (case p_2201 => rfl); (case d_2201 => decide)
  (with_reducible refine' ev_Attr ?_ ?h_2241); (case h_2241 => with_unfolding_all rfl)
  (with_reducible refine' ev_name ?x_2244 ?p_2244 ?_ ?d_2244); (case x_2244 => rfl); (case p_2244 => rfl); (case d_2244 => decide)
  with_reducible refine' at_cls_int cv_POS_BITS ?_
  refine op_shl (by decide) (shl_fits (by omega) (by omega) (by omega)) ?_
  with_reducible refine' ev_BinOp ?_
  (with_reducible refine' ev_name ?x_2433 ?p_2433 ?_ ?d_2433); (case x_2433 => rfl); (case p_2433 => rfl); (case d_2433 => decide)
  with_reducible refine' ev_int ?_
  with_reducible refine' op_or ?_
  with_reducible refine' op_add ?_
  with_reducible refine' evl_nil ?_
  (with_reducible refine' cl_new ?r_2483 ?c_2483 ?_); (case r_2483 => (refine Cx.Room.le (by assumption) ?_; decide)); (case c_2483 => rfl)
  (with_reducible refine' mth_cell m_parent ?_ ?h_2938 ?p_2938); (case h_2938 => with_unfolding_all rfl); (case p_2938 => with_unfolding_all rfl)
  (with_reducible refine' evl_cons ?_ ?h_2946); (case h_2946 => with_unfolding_all rfl)
  (with_reducible refine' ev_name ?x_2947 ?p_2947 ?_ ?d_2947); (case x_2947 => rfl); (case p_2947 => rfl); (case d_2947 => decide)
  with_reducible refine' evl_nil ?_
  rw [fpl_int hL, gid_mod (by omega) (fpl_lt hL hf hP)]
  have hlt := fpl_lt hL hf hP
  (with_reducible refine' cl_parent ?r_3027 ?l_3027 ?m_3027 ?p_3027 ?_); (case r_3027 => (refine Cx.Room.le (by assumption) ?_; decide)); (case l_3027 => (first | assumption | omega)); (case m_3027 => (first | assumption | omega)); (case p_3027 => (first | assumption | omega))
  with_reducible refine seq_ret ?_
  with_reducible refine body_ret ?_
  rw [fpl_parent hL]
  exact h
end

end Mine
end Part18
section Part19
open PySem PySem.W PySem.Calls
set_option maxRecDepth 100000
set_option autoImplicit false
set_option linter.unusedVariables false
set_option maxHeartbeats 4000000
namespace Mine



section
variable {w : World} {mean : ExcName → Option Value} {mg mb : Str → Option Value} {c : Cx} {σ : Sg}
theorem rep_LOOKUP_IJ : ∀ H, (gl w mean mg mb).K.In H → Rep (gl w mean mg mb) H (.ref 31) (pvRows htab) := fun H X => rep_rows X (by kernel_rfl)
theorem rep_POS_TO_ORIENTATION : ∀ H, (gl w mean mg mb).K.In H → Rep (gl w mean mg mb) H (.ref 22) (pvInts [1, 0, 0, 3]) := fun H X => rep_ints X (by kernel_rfl)

theorem cl_to_face_ij_orientation {L p : Nat} {Q : PV → Prop} (hr : c.Room 4) (hL : L ≤ 30) (hp : p < 6 * 2 ^ (2 * L)) (h : Q (.tup [.int ((p / 2 ^ (2 * L) : Nat) : Int), .int ((hx L (p / 2 ^ (2 * L) % 2) p * 2 ^ (30 - L) + mid (ho L (p / 2 ^ (2 * L) % 2) p) (30 - L) : Nat) : Int), .int ((hy L (p / 2 ^ (2 * L) % 2) p * 2 ^ (30 - L) + mid (ho L (p / 2 ^ (2 * L) % 2) p) (30 - L) : Nat) : Int), .int ((ho L (p / 2 ^ (2 * L) % 2) p : Nat) : Int)])) : Cl (gl w mean mg mb) c σ (.ref f_to_face_ij_orientation) [.cell (gid L p)] Q := by
  refine cl_def (k := 3) (ns := ["self"]) (by rfl) (by kernel_rfl) hr (by (intro vs s hl; match vs, hl with | [_], _ => exact BindsTo.of_eq rfl)) (by decide) (by decide) (by decide) (fun A g0 fL hid hr' => ?_)
  with_reducible refine ex_cons ?_
  (with_reducible refine' ex_assign_tuple ?_ ?s_10 ?w_10); (case s_10 => rfl); (case w_10 => rfl)
  with_reducible refine' ev_Tuple ?_
  (with_reducible refine' evl_cons ?_ ?h_13); (case h_13 => with_unfolding_all rfl)
  with_reducible refine' ev_int ?_
  (with_reducible refine' evl_cons ?_ ?h_16); (case h_16 => with_unfolding_all rfl)
  with_reducible refine' ev_int ?_
  with_reducible refine' evl_nil ?_
  (with_reducible refine' And.intro ?a_20 ?_); (case a_20 => exact Nat.le_of_ble_eq_true rfl)
  (with_reducible refine' as_tuple ?_ ?n_22 ?s_22); (case n_22 => rfl); (case s_22 => rfl)
  (with_reducible refine' asE_cons ?k_23 ?l_23 ?_); (case k_23 => rfl); (case l_23 => rfl)
  (with_reducible refine' asE_cons ?k_24 ?l_24 ?_); (case k_24 => rfl); (case l_24 => rfl)
  with_reducible refine' asE_nil ?_
  with_reducible refine seq_nxt ?_
  with_reducible refine ex_cons ?_
  (with_reducible refine' ex_assign ?_ ?k_35 ?l_35 ?s_35); (case k_35 => rfl); (case l_35 => rfl); (case s_35 => rfl)
  (with_reducible refine' ev_Method (pl := _) ?_ ?h_36); (case h_36 => with_unfolding_all rfl)
  (with_reducible refine' ev_name ?x_37 ?p_37 ?_ ?d_37); (case x_37 => rfl); (case p_37 => rfl); (case d_37 => decide)
  with_reducible refine' mth_cell0 m_face ?_
  (with_reducible refine' cl_face ?r_51 ?l_51 ?_); (case r_51 => (refine Cx.Room.le (by assumption) ?_; decide)); (case l_51 => (first | assumption | omega))
  with_reducible refine seq_nxt ?_
  with_reducible refine ex_cons ?_
  (with_reducible refine' ex_assign ?_ ?k_60 ?l_60 ?s_60); (case k_60 => rfl); (case l_60 => rfl); (case s_60 => rfl)
  with_reducible refine' ev_BinOp ?_
  (with_reducible refine' ev_name ?x_62 ?p_62 ?_ ?d_62); (case x_62 => rfl); (case p_62 => rfl); (case d_62 => decide)
  (with_reducible refine' ev_global_int g_SWAP_MASK ?k_63 ?_ ?d_63); (case k_63 => rfl); (case d_63 => decide)
  with_reducible refine' op_and ?_
  with_reducible refine seq_nxt ?_
  with_reducible refine ex_cons ?_
  (with_reducible refine' ex_for ?_ ?t_75 ?s_75); (case t_75 => intro _ _; rfl); (case s_75 => intro _; rfl)
  (with_reducible refine' ev_Call ?_ ?h_77); (case h_77 => with_unfolding_all rfl)
  (with_reducible refine' ev_builtin n_range bb_range ?k_78 ?_ ?n_78 ?d_78); (case k_78 => rfl); (case n_78 => decide); (case d_78 => decide)
  (with_reducible refine' cw_type ?_ ?h_81 ?p_81); (case h_81 => with_unfolding_all rfl); (case p_81 => with_unfolding_all rfl)
  (with_reducible refine' evl_cons ?_ ?h_83); (case h_83 => with_unfolding_all rfl)
  with_reducible refine' ev_int ?_
  (with_reducible refine' evl_cons ?_ ?h_86); (case h_86 => with_unfolding_all rfl)
  with_reducible refine' ev_UnaryOp ?_
  with_reducible refine' ev_int ?_
  with_reducible refine' op_neg ?_
  (with_reducible refine' evl_cons ?_ ?h_91); (case h_91 => with_unfolding_all rfl)
  with_reducible refine' ev_UnaryOp ?_
  with_reducible refine' ev_int ?_
  with_reducible refine' op_neg ?_
  with_reducible refine' evl_nil ?_
  (with_reducible refine' b_range3 ?l_100 ?m_100 ?_); (case l_100 => decide); (case m_100 => decide)
  refine ⟨.int 7 :: (List.range 7).map fun i => .int ((6 - i : Nat) : Int), .rng (n := 8) (by decide) (by decide) (by rfl), ?_⟩
  have ho1 : p / 2 ^ (2 * L) % 2 < 2 := Nat.mod_lt _ (by decide)
  refine forL_cons rfl rfl ?_
  rw [and_1]
  with_reducible refine ex_cons ?_
  with_reducible refine' ex_if ?_
  (with_reducible refine' evt_Compare ?_ ?m_111); (case m_111 => with_unfolding_all rfl)
  (with_reducible refine' ev_name ?x_112 ?p_112 ?_ ?d_112); (case x_112 => rfl); (case p_112 => rfl); (case d_112 => decide)
  with_reducible refine' ev_int ?_
  with_reducible refine' op_eq ?_
  with_reducible refine' opt_bool ?_
  (with_reducible refine' ite_t ?h_117 ?_); (case h_117 => decide)
  with_reducible refine ex_cons ?_
  (with_reducible refine' ex_assign ?_ ?k_125 ?l_125 ?s_125); (case k_125 => rfl); (case l_125 => rfl); (case s_125 => rfl)
  with_reducible refine' ev_BinOp ?_
  (with_reducible refine' ev_Attr ?_ ?h_127); (case h_127 => with_unfolding_all rfl)
  (with_reducible refine' ev_Attr ?_ ?h_128); (case h_128 => with_unfolding_all rfl)
  (with_reducible refine' ev_name ?x_129 ?p_129 ?_ ?d_129); (case x_129 => rfl); (case p_129 => rfl); (case d_129 => decide)
  with_reducible refine' at_class cls_attr ?_
  with_reducible refine' at_cls_int cv_MAX_LEVEL ?_
  with_reducible refine' ev_BinOp ?_
  with_reducible refine' ev_int ?_
  (with_reducible refine' ev_global_int g_LOOKUP_BITS ?k_141 ?_ ?d_141); (case k_141 => rfl); (case d_141 => decide)
  (with_reducible refine' op_mul ?m_142 ?_); (case m_142 => first | exact mul_ok_l (by decide) | exact mul_ok_r (by decide))
  with_reducible refine' op_sub ?_
  with_reducible refine seq_nxt ?_
  with_reducible refine ex_nil ?_
  with_reducible refine seq_nxt ?_
  with_reducible refine ex_cons ?_
  (with_reducible refine' ex_aug ?x_156 ?p_156 ?_ ?k_156 ?l_156); (case x_156 => rfl); (case p_156 => rfl); (case k_156 => rfl); (case l_156 => rfl)
  with_reducible refine' ev_BinOp ?_
  with_reducible refine' ev_BinOp ?_
  with_reducible refine' ev_BinOp ?_
  (with_reducible refine' ev_Method (pl := _) ?_ ?h_160); (case h_160 => with_unfolding_all rfl)
  (with_reducible refine' ev_name ?x_161 ?p_161 ?_ ?d_161); (case x_161 => rfl); (case p_161 => rfl); (case d_161 => decide)
  with_reducible refine' mth_cell0 m_id ?_
  (with_reducible refine' cl_id ?r_177 ?_); (case r_177 => (refine Cx.Room.le (by assumption) ?_; decide))
  with_reducible refine' ev_BinOp ?_
  with_reducible refine' ev_BinOp ?_
  with_reducible refine' ev_BinOp ?_
  (with_reducible refine' ev_name ?x_181 ?p_181 ?_ ?d_181); (case x_181 => rfl); (case p_181 => rfl); (case d_181 => decide)
  with_reducible refine' ev_int ?_
  (with_reducible refine' op_mul ?m_183 ?_); (case m_183 => first | exact mul_ok_l (by decide) | exact mul_ok_r (by decide))
  (with_reducible refine' ev_global_int g_LOOKUP_BITS ?k_184 ?_ ?d_184); (case k_184 => rfl); (case d_184 => decide)
  (with_reducible refine' op_mul ?m_185 ?_); (case m_185 => first | exact mul_ok_l (by decide) | exact mul_ok_r (by decide))
  with_reducible refine' ev_int ?_
  with_reducible refine' op_add ?_
  (with_reducible refine' op_shr ?n_188 ?_); (case n_188 => first | decide | omega)
  with_reducible refine' ev_BinOp ?_
  with_reducible refine' ev_BinOp ?_
  with_reducible refine' ev_int ?_
  with_reducible refine' ev_BinOp ?_
  with_reducible refine' ev_int ?_
  (with_reducible refine' ev_name ?x_194 ?p_194 ?_ ?d_194); (case x_194 => rfl); (case p_194 => rfl); (case d_194 => decide)
  (with_reducible refine' op_mul ?m_195 ?_); (case m_195 => first | exact mul_ok_l (by decide) | exact mul_ok_r (by decide))
  (with_reducible refine' op_shl ?n_196 ?s_196 ?_); (case n_196 => decide); (case s_196 => decide)
  with_reducible refine' ev_int ?_
  with_reducible refine' op_sub ?_
  with_reducible refine' op_and ?_
  with_reducible refine' ev_int ?_
  rw [chunk7]
  refine op_shl (by decide) (shl_fits (by omega) (by decide) (by decide)) ?_
  with_reducible refine' iop_add ?_
  with_reducible refine seq_nxt ?_
  with_reducible refine ex_cons ?_
  (with_reducible refine' ex_assign ?_ ?k_224 ?l_224 ?s_224); (case k_224 => rfl); (case l_224 => rfl); (case s_224 => rfl)
  with_reducible refine' ev_Subscript ?_
  with_reducible refine' ev_Subscript ?_
  (with_reducible refine' ev_global_rep g_LOOKUP_IJ rep_LOOKUP_IJ ?k_227 ?_ ?d_227); (case k_227 => rfl); (case d_227 => decide)
  with_reducible refine' ev_BinOp ?_
  (with_reducible refine' ev_name ?x_229 ?p_229 ?_ ?d_229); (case x_229 => rfl); (case p_229 => rfl); (case d_229 => decide)
  with_reducible refine' ev_int ?_
  (with_reducible refine' op_shr ?n_231 ?_); (case n_231 => first | decide | omega)
  rw [put_bits, idx_hi]
  refine op_htab (by omega) ?_
  with_reducible refine' ev_BinOp ?_
  (with_reducible refine' ev_name ?x_235 ?p_235 ?_ ?d_235); (case x_235 => rfl); (case p_235 => rfl); (case d_235 => decide)
  with_reducible refine' ev_int ?_
  with_reducible refine' op_and ?_
  rw [and_127]
  refine op_hrow (by omega) ?_
  rw [idx_split]
  have tl := @tab_lt (4 * (leafPos L p / 4 ^ 28 % 16) + p / 2 ^ (2 * L) % 2)
  with_reducible refine seq_nxt ?_
  with_reducible refine ex_cons ?_
  (with_reducible refine' ex_aug ?x_249 ?p_249 ?_ ?k_249 ?l_249); (case x_249 => rfl); (case p_249 => rfl); (case k_249 => rfl); (case l_249 => rfl)
  with_reducible refine' ev_BinOp ?_
  with_reducible refine' ev_BinOp ?_
  (with_reducible refine' ev_name ?x_252 ?p_252 ?_ ?d_252); (case x_252 => rfl); (case p_252 => rfl); (case d_252 => decide)
  with_reducible refine' ev_BinOp ?_
  (with_reducible refine' ev_global_int g_LOOKUP_BITS ?k_254 ?_ ?d_254); (case k_254 => rfl); (case d_254 => decide)
  with_reducible refine' ev_int ?_
  with_reducible refine' op_add ?_
  (with_reducible refine' op_shr ?n_257 ?_); (case n_257 => first | decide | omega)
  with_reducible refine' ev_BinOp ?_
  (with_reducible refine' ev_name ?x_259 ?p_259 ?_ ?d_259); (case x_259 => rfl); (case p_259 => rfl); (case d_259 => decide)
  (with_reducible refine' ev_global_int g_LOOKUP_BITS ?k_260 ?_ ?d_260); (case k_260 => rfl); (case d_260 => decide)
  (with_reducible refine' op_mul ?m_261 ?_); (case m_261 => first | exact mul_ok_l (by decide) | exact mul_ok_r (by decide))
  rw [t_hi, (first_tab ho1).1]
  have x2 := hx_lt (o := p / 2 ^ (2 * L) % 2) (by omega) 2 (leafPos L p / 4 ^ 28)
  have y2 := hy_lt (o := p / 2 ^ (2 * L) % 2) (by omega) 2 (leafPos L p / 4 ^ 28)
  refine op_shl (by decide) (shl_fits (by omega) (by decide) (by decide)) ?_
  with_reducible refine' iop_add ?_
  with_reducible refine seq_nxt ?_
  with_reducible refine ex_cons ?_
  (with_reducible refine' ex_aug ?x_286 ?p_286 ?_ ?k_286 ?l_286); (case x_286 => rfl); (case p_286 => rfl); (case k_286 => rfl); (case l_286 => rfl)
  with_reducible refine' ev_BinOp ?_
  with_reducible refine' ev_BinOp ?_
  with_reducible refine' ev_BinOp ?_
  (with_reducible refine' ev_name ?x_290 ?p_290 ?_ ?d_290); (case x_290 => rfl); (case p_290 => rfl); (case d_290 => decide)
  with_reducible refine' ev_int ?_
  (with_reducible refine' op_shr ?n_292 ?_); (case n_292 => first | decide | omega)
  with_reducible refine' ev_BinOp ?_
  with_reducible refine' ev_BinOp ?_
  with_reducible refine' ev_int ?_
  (with_reducible refine' ev_global_int g_LOOKUP_BITS ?k_296 ?_ ?d_296); (case k_296 => rfl); (case d_296 => decide)
  (with_reducible refine' op_shl ?n_297 ?s_297 ?_); (case n_297 => decide); (case s_297 => decide)
  with_reducible refine' ev_int ?_
  with_reducible refine' op_sub ?_
  with_reducible refine' op_and ?_
  with_reducible refine' ev_BinOp ?_
  (with_reducible refine' ev_name ?x_302 ?p_302 ?_ ?d_302); (case x_302 => rfl); (case p_302 => rfl); (case d_302 => decide)
  (with_reducible refine' ev_global_int g_LOOKUP_BITS ?k_303 ?_ ?d_303); (case k_303 => rfl); (case d_303 => decide)
  (with_reducible refine' op_mul ?m_304 ?_); (case m_304 => first | exact mul_ok_l (by decide) | exact mul_ok_r (by decide))
  rw [shl_7, t_mid, (first_tab ho1).2.1]
  refine op_shl (by decide) (shl_fits (by omega) (by decide) (by decide)) ?_
  with_reducible refine' iop_add ?_
  with_reducible refine seq_nxt ?_
  with_reducible refine ex_cons ?_
  (with_reducible refine' ex_aug ?x_329 ?p_329 ?_ ?k_329 ?l_329); (case x_329 => rfl); (case p_329 => rfl); (case k_329 => rfl); (case l_329 => rfl)
  with_reducible refine' ev_BinOp ?_
  (with_reducible refine' ev_global_int g_SWAP_MASK ?k_331 ?_ ?d_331); (case k_331 => rfl); (case d_331 => decide)
  (with_reducible refine' ev_global_int g_INVERT_MASK ?k_332 ?_ ?d_332); (case k_332 => rfl); (case d_332 => decide)
  with_reducible refine' op_or ?_
  with_reducible refine' iop_and ?_
  with_reducible refine seq_nxt ?_
  with_reducible refine ex_nil ?_
  with_reducible refine for_nxt ?_
  rw [shl_7, and_2m, (first_tab ho1).2.2]
  refine forL_list (fun i σ => SubL ([("self", .cell (gid L p)), ("i", .int (sI (p / 2 ^ (2 * L) % 2) (leafPos L p) i : Nat)), ("j", .int (sJ (p / 2 ^ (2 * L) % 2) (leafPos L p) i : Nat)), ("face", .int (p / 2 ^ (2 * L) : Nat)), ("bits", .int (sO (p / 2 ^ (2 * L) % 2) (leafPos L p) i : Nat))] : Sg) σ) rfl rfl 7 ?_ _ 0 _ rfl ?_ ⟨rfl, rfl, rfl, rfl, rfl, trivial⟩
  · intro σ hS
    refine seq_nxt (ex_sub hS.get ?_)
    with_reducible refine ex_cons ?_
    with_reducible refine' ex_assert ?_
    (with_reducible refine' evt_Compare ?_ ?m_367); (case m_367 => with_unfolding_all rfl)
    with_reducible refine' ev_int ?_
    with_reducible refine' ev_Subscript ?_
    (with_reducible refine' ev_global_rep g_POS_TO_ORIENTATION rep_POS_TO_ORIENTATION ?k_370 ?_ ?d_370); (case k_370 => rfl); (case d_370 => decide)
    with_reducible refine' ev_int ?_
    (with_reducible refine' op_item_lst ?a_373 ?b_373 ?x_373 ?_ ?s_373); (case a_373 => decide); (case b_373 => decide); (case x_373 => rfl); (case s_373 => intros; with_unfolding_all rfl)
    with_reducible refine' op_eq ?_
    with_reducible refine' opt_bool ?_
    (with_reducible refine' And.intro ?a_378 ?_); (case a_378 => decide)
    with_reducible refine seq_nxt ?_
    with_reducible refine ex_cons ?_
    with_reducible refine' ex_assert ?_
    (with_reducible refine' evt_Compare ?_ ?m_391); (case m_391 => with_unfolding_all rfl)
    (with_reducible refine' ev_global_int g_SWAP_MASK ?k_392 ?_ ?d_392); (case k_392 => rfl); (case d_392 => decide)
    with_reducible refine' ev_Subscript ?_
    (with_reducible refine' ev_global_rep g_POS_TO_ORIENTATION rep_POS_TO_ORIENTATION ?k_394 ?_ ?d_394); (case k_394 => rfl); (case d_394 => decide)
    with_reducible refine' ev_int ?_
    (with_reducible refine' op_item_lst ?a_397 ?b_397 ?x_397 ?_ ?s_397); (case a_397 => decide); (case b_397 => decide); (case x_397 => rfl); (case s_397 => intros; with_unfolding_all rfl)
    with_reducible refine' op_eq ?_
    with_reducible refine' opt_bool ?_
    (with_reducible refine' And.intro ?a_402 ?_); (case a_402 => decide)
    with_reducible refine seq_nxt ?_
    with_reducible refine ex_cons ?_
    with_reducible refine' ex_if ?_
    (with_reducible refine' evt_Compare ?_ ?m_414); (case m_414 => with_unfolding_all rfl)
    with_reducible refine' ev_BinOp ?_
    (with_reducible refine' ev_Method (pl := _) ?_ ?h_416); (case h_416 => with_unfolding_all rfl)
    (with_reducible refine' ev_name ?x_417 ?p_417 ?_ ?d_417); (case x_417 => rfl); (case p_417 => rfl); (case d_417 => decide)
    with_reducible refine' mth_cell0 m_lsb ?_
    (with_reducible refine' cl_lsb ?r_432 ?_); (case r_432 => (refine Cx.Room.le (by assumption) ?_; decide))
    with_reducible refine' ev_int ?_
    with_reducible refine' op_and ?_
    with_reducible refine' ev_int ?_
    with_reducible refine' op_ne ?_
    with_reducible refine' opt_bool ?_
    rw [lsb_mask L hL]
    by_cases g : (30 - L) % 2 = 0 ∧ L ≠ 30
    · refine ite_t (decide_eq_true g) ?_
      with_reducible refine ex_cons ?_
      (with_reducible refine' ex_aug ?x_449 ?p_449 ?_ ?k_449 ?l_449); (case x_449 => rfl); (case p_449 => rfl); (case k_449 => rfl); (case l_449 => rfl)
      (with_reducible refine' ev_global_int g_SWAP_MASK ?k_450 ?_ ?d_450); (case k_450 => rfl); (case d_450 => decide)
      with_reducible refine' iop_xor ?_
      with_reducible refine seq_nxt ?_
      with_reducible refine ex_nil ?_
      with_reducible refine seq_nxt ?_
      with_reducible refine ex_cons ?_
      (with_reducible refine' ex_assign ?_ ?k_480 ?l_480 ?s_480); (case k_480 => rfl); (case l_480 => rfl); (case s_480 => rfl)
      (with_reducible refine' ev_name ?x_481 ?p_481 ?_ ?d_481); (case x_481 => rfl); (case p_481 => rfl); (case d_481 => decide)
      with_reducible refine seq_nxt ?_
      with_reducible refine ex_cons ?_
      with_reducible refine' ex_return ?_
      with_reducible refine' ev_Tuple ?_
      (with_reducible refine' evl_cons ?_ ?h_487); (case h_487 => with_unfolding_all rfl)
      (with_reducible refine' ev_name ?x_488 ?p_488 ?_ ?d_488); (case x_488 => rfl); (case p_488 => rfl); (case d_488 => decide)
      (with_reducible refine' evl_cons ?_ ?h_490); (case h_490 => with_unfolding_all rfl)
      (with_reducible refine' ev_name ?x_491 ?p_491 ?_ ?d_491); (case x_491 => rfl); (case p_491 => rfl); (case d_491 => decide)
      (with_reducible refine' evl_cons ?_ ?h_493); (case h_493 => with_unfolding_all rfl)
      (with_reducible refine' ev_name ?x_494 ?p_494 ?_ ?d_494); (case x_494 => rfl); (case p_494 => rfl); (case d_494 => decide)
      (with_reducible refine' evl_cons ?_ ?h_496); (case h_496 => with_unfolding_all rfl)
      (with_reducible refine' ev_name ?x_497 ?p_497 ?_ ?d_497); (case x_497 => rfl); (case p_497 => rfl); (case d_497 => decide)
      with_reducible refine' evl_nil ?_
      (with_reducible refine' And.intro ?a_500 ?_); (case a_500 => exact Nat.le_of_ble_eq_true rfl)
      with_reducible refine seq_ret ?_
      with_reducible refine body_ret ?_
      rw [xor_1, sI_fin hL (by omega), sJ_fin hL (by omega), sO_fin1 hL g]
      exact h
    · refine ite_f (decide_eq_false g) ?_
      with_reducible refine ex_nil ?_
      with_reducible refine seq_nxt ?_
      with_reducible refine ex_cons ?_
      (with_reducible refine' ex_assign ?_ ?k_514 ?l_514 ?s_514); (case k_514 => rfl); (case l_514 => rfl); (case s_514 => rfl)
      (with_reducible refine' ev_name ?x_515 ?p_515 ?_ ?d_515); (case x_515 => rfl); (case p_515 => rfl); (case d_515 => decide)
      with_reducible refine seq_nxt ?_
      with_reducible refine ex_cons ?_
      with_reducible refine' ex_return ?_
      with_reducible refine' ev_Tuple ?_
      (with_reducible refine' evl_cons ?_ ?h_521); (case h_521 => with_unfolding_all rfl)
      (with_reducible refine' ev_name ?x_522 ?p_522 ?_ ?d_522); (case x_522 => rfl); (case p_522 => rfl); (case d_522 => decide)
      (with_reducible refine' evl_cons ?_ ?h_524); (case h_524 => with_unfolding_all rfl)
      (with_reducible refine' ev_name ?x_525 ?p_525 ?_ ?d_525); (case x_525 => rfl); (case p_525 => rfl); (case d_525 => decide)
      (with_reducible refine' evl_cons ?_ ?h_527); (case h_527 => with_unfolding_all rfl)
      (with_reducible refine' ev_name ?x_528 ?p_528 ?_ ?d_528); (case x_528 => rfl); (case p_528 => rfl); (case d_528 => decide)
      (with_reducible refine' evl_cons ?_ ?h_530); (case h_530 => with_unfolding_all rfl)
      (with_reducible refine' ev_name ?x_531 ?p_531 ?_ ?d_531); (case x_531 => rfl); (case p_531 => rfl); (case d_531 => decide)
      with_reducible refine' evl_nil ?_
      (with_reducible refine' And.intro ?a_534 ?_); (case a_534 => exact Nat.le_of_ble_eq_true rfl)
      with_reducible refine seq_ret ?_
      with_reducible refine body_ret ?_
      rw [sI_fin hL (by omega), sJ_fin hL (by omega), sO_fin2 hL g]
      exact h
  · intro i x σ hx hS
    have hi : i < 7 := by
      have := (List.getElem?_eq_some_iff.mp hx).1
      simpa using this
    rw [List.getElem?_map, List.getElem?_range hi] at hx
    cases hx
    simp only [Nat.zero_add] at hS ⊢
    have o4 : sO (p / 2 ^ (2 * L) % 2) (leafPos L p) i < 4 := ho_lt (o := p / 2 ^ (2 * L) % 2) (by omega) (2 + 4 * i) (leafPos L p / 4 ^ (28 - 4 * i))
    refine ex_sub (sub_upd hS.get) ?_
    with_reducible refine ex_cons ?_
    with_reducible refine' ex_if ?_
    (with_reducible refine' evt_Compare ?_ ?m_548); (case m_548 => with_unfolding_all rfl)
    (with_reducible refine' ev_name ?x_549 ?p_549 ?_ ?d_549); (case x_549 => rfl); (case p_549 => rfl); (case d_549 => decide)
    with_reducible refine' ev_int ?_
    with_reducible refine' op_eq ?_
    with_reducible refine' opt_bool ?_
    refine ite_f (beq_eq_false_iff_ne.mpr (by omega)) ?_
    with_reducible refine ex_cons ?_
    (with_reducible refine' ex_assign ?_ ?k_563 ?l_563 ?s_563); (case k_563 => rfl); (case l_563 => rfl); (case s_563 => rfl)
    (with_reducible refine' ev_global_int g_LOOKUP_BITS ?k_564 ?_ ?d_564); (case k_564 => rfl); (case d_564 => decide)
    with_reducible refine seq_nxt ?_
    with_reducible refine ex_nil ?_
    with_reducible refine seq_nxt ?_
    with_reducible refine ex_cons ?_
    (with_reducible refine' ex_aug ?x_577 ?p_577 ?_ ?k_577 ?l_577); (case x_577 => rfl); (case p_577 => rfl); (case k_577 => rfl); (case l_577 => rfl)
    with_reducible refine' ev_BinOp ?_
    with_reducible refine' ev_BinOp ?_
    with_reducible refine' ev_BinOp ?_
    (with_reducible refine' ev_Method (pl := _) ?_ ?h_581); (case h_581 => with_unfolding_all rfl)
    (with_reducible refine' ev_name ?x_582 ?p_582 ?_ ?d_582); (case x_582 => rfl); (case p_582 => rfl); (case d_582 => decide)
    with_reducible refine' mth_cell0 m_id ?_
    (with_reducible refine' cl_id ?r_598 ?_); (case r_598 => (refine Cx.Room.le (by assumption) ?_; decide))
    with_reducible refine' ev_BinOp ?_
    with_reducible refine' ev_BinOp ?_
    with_reducible refine' ev_BinOp ?_
    (with_reducible refine' ev_name ?x_602 ?p_602 ?_ ?d_602); (case x_602 => rfl); (case p_602 => rfl); (case d_602 => decide)
    with_reducible refine' ev_int ?_
    (with_reducible refine' op_mul ?m_604 ?_); (case m_604 => first | exact mul_ok_l (by decide) | exact mul_ok_r (by decide))
    (with_reducible refine' ev_global_int g_LOOKUP_BITS ?k_605 ?_ ?d_605); (case k_605 => rfl); (case d_605 => decide)
    (with_reducible refine' op_mul ?m_606 ?_); (case m_606 => first | exact mul_ok_l (by decide) | exact mul_ok_r (by decide))
    with_reducible refine' ev_int ?_
    with_reducible refine' op_add ?_
    (with_reducible refine' op_shr ?n_609 ?_); (case n_609 => first | decide | omega)
    with_reducible refine' ev_BinOp ?_
    with_reducible refine' ev_BinOp ?_
    with_reducible refine' ev_int ?_
    with_reducible refine' ev_BinOp ?_
    with_reducible refine' ev_int ?_
    (with_reducible refine' ev_name ?x_615 ?p_615 ?_ ?d_615); (case x_615 => rfl); (case p_615 => rfl); (case d_615 => decide)
    (with_reducible refine' op_mul ?m_616 ?_); (case m_616 => first | exact mul_ok_l (by decide) | exact mul_ok_r (by decide))
    (with_reducible refine' op_shl ?n_617 ?s_617 ?_); (case n_617 => decide); (case s_617 => decide)
    with_reducible refine' ev_int ?_
    with_reducible refine' op_sub ?_
    with_reducible refine' op_and ?_
    with_reducible refine' ev_int ?_
    rw [chunk4]
    refine op_shl (by decide) (shl_fits (by omega) (by decide) (by decide)) ?_
    with_reducible refine' iop_add ?_
    with_reducible refine seq_nxt ?_
    with_reducible refine ex_cons ?_
    (with_reducible refine' ex_assign ?_ ?k_645 ?l_645 ?s_645); (case k_645 => rfl); (case l_645 => rfl); (case s_645 => rfl)
    with_reducible refine' ev_Subscript ?_
    with_reducible refine' ev_Subscript ?_
    (with_reducible refine' ev_global_rep g_LOOKUP_IJ rep_LOOKUP_IJ ?k_648 ?_ ?d_648); (case k_648 => rfl); (case d_648 => decide)
    with_reducible refine' ev_BinOp ?_
    (with_reducible refine' ev_name ?x_650 ?p_650 ?_ ?d_650); (case x_650 => rfl); (case p_650 => rfl); (case d_650 => decide)
    with_reducible refine' ev_int ?_
    (with_reducible refine' op_shr ?n_652 ?_); (case n_652 => first | decide | omega)
    rw [put_bits, idx_hi]
    refine op_htab (by omega) ?_
    with_reducible refine' ev_BinOp ?_
    (with_reducible refine' ev_name ?x_656 ?p_656 ?_ ?d_656); (case x_656 => rfl); (case p_656 => rfl); (case d_656 => decide)
    with_reducible refine' ev_int ?_
    with_reducible refine' op_and ?_
    rw [and_127]
    refine op_hrow (by omega) ?_
    rw [idx_split]
    have tl := @tab_lt (4 * (leafPos L p / 4 ^ (4 * (6 - i)) % 256) + sO (p / 2 ^ (2 * L) % 2) (leafPos L p) i)
    have tp := tab_parts (o := sO (p / 2 ^ (2 * L) % 2) (leafPos L p) i) (q := leafPos L p / 4 ^ (4 * (6 - i))) o4
    have x4 := hx_lt o4 4 (leafPos L p / 4 ^ (4 * (6 - i)))
    have y4 := hy_lt o4 4 (leafPos L p / 4 ^ (4 * (6 - i)))
    with_reducible refine seq_nxt ?_
    with_reducible refine ex_cons ?_
    (with_reducible refine' ex_aug ?x_670 ?p_670 ?_ ?k_670 ?l_670); (case x_670 => rfl); (case p_670 => rfl); (case k_670 => rfl); (case l_670 => rfl)
    with_reducible refine' ev_BinOp ?_
    with_reducible refine' ev_BinOp ?_
    (with_reducible refine' ev_name ?x_673 ?p_673 ?_ ?d_673); (case x_673 => rfl); (case p_673 => rfl); (case d_673 => decide)
    with_reducible refine' ev_BinOp ?_
    (with_reducible refine' ev_global_int g_LOOKUP_BITS ?k_675 ?_ ?d_675); (case k_675 => rfl); (case d_675 => decide)
    with_reducible refine' ev_int ?_
    with_reducible refine' op_add ?_
    (with_reducible refine' op_shr ?n_678 ?_); (case n_678 => first | decide | omega)
    with_reducible refine' ev_BinOp ?_
    (with_reducible refine' ev_name ?x_680 ?p_680 ?_ ?d_680); (case x_680 => rfl); (case p_680 => rfl); (case d_680 => decide)
    (with_reducible refine' ev_global_int g_LOOKUP_BITS ?k_681 ?_ ?d_681); (case k_681 => rfl); (case d_681 => decide)
    (with_reducible refine' op_mul ?m_682 ?_); (case m_682 => first | exact mul_ok_l (by decide) | exact mul_ok_r (by decide))
    rw [t_hi, tp.1]
    refine op_shl (by omega) (shl_fits (by omega) (by omega) (by omega)) ?_
    with_reducible refine' iop_add ?_
    with_reducible refine seq_nxt ?_
    with_reducible refine ex_cons ?_
    (with_reducible refine' ex_aug ?x_707 ?p_707 ?_ ?k_707 ?l_707); (case x_707 => rfl); (case p_707 => rfl); (case k_707 => rfl); (case l_707 => rfl)
    with_reducible refine' ev_BinOp ?_
    with_reducible refine' ev_BinOp ?_
    with_reducible refine' ev_BinOp ?_
    (with_reducible refine' ev_name ?x_711 ?p_711 ?_ ?d_711); (case x_711 => rfl); (case p_711 => rfl); (case d_711 => decide)
    with_reducible refine' ev_int ?_
    (with_reducible refine' op_shr ?n_713 ?_); (case n_713 => first | decide | omega)
    with_reducible refine' ev_BinOp ?_
    with_reducible refine' ev_BinOp ?_
    with_reducible refine' ev_int ?_
    (with_reducible refine' ev_global_int g_LOOKUP_BITS ?k_717 ?_ ?d_717); (case k_717 => rfl); (case d_717 => decide)
    (with_reducible refine' op_shl ?n_718 ?s_718 ?_); (case n_718 => decide); (case s_718 => decide)
    with_reducible refine' ev_int ?_
    with_reducible refine' op_sub ?_
    with_reducible refine' op_and ?_
    with_reducible refine' ev_BinOp ?_
    (with_reducible refine' ev_name ?x_723 ?p_723 ?_ ?d_723); (case x_723 => rfl); (case p_723 => rfl); (case d_723 => decide)
    (with_reducible refine' ev_global_int g_LOOKUP_BITS ?k_724 ?_ ?d_724); (case k_724 => rfl); (case d_724 => decide)
    (with_reducible refine' op_mul ?m_725 ?_); (case m_725 => first | exact mul_ok_l (by decide) | exact mul_ok_r (by decide))
    rw [shl_k, addN, sI_next hi, t_mid, tp.2.1]
    refine op_shl (by omega) (shl_fits (by omega) (by omega) (by omega)) ?_
    with_reducible refine' iop_add ?_
    with_reducible refine seq_nxt ?_
    with_reducible refine ex_cons ?_
    (with_reducible refine' ex_aug ?x_750 ?p_750 ?_ ?k_750 ?l_750); (case x_750 => rfl); (case p_750 => rfl); (case k_750 => rfl); (case l_750 => rfl)
    with_reducible refine' ev_BinOp ?_
    (with_reducible refine' ev_global_int g_SWAP_MASK ?k_752 ?_ ?d_752); (case k_752 => rfl); (case d_752 => decide)
    (with_reducible refine' ev_global_int g_INVERT_MASK ?k_753 ?_ ?d_753); (case k_753 => rfl); (case d_753 => decide)
    with_reducible refine' op_or ?_
    with_reducible refine' iop_and ?_
    with_reducible refine seq_nxt ?_
    with_reducible refine ex_nil ?_
    with_reducible refine for_nxt ?_
    rw [shl_k, addN, sJ_next hi, and_2m, tp.2.2, sO_next hi]
    exact ⟨rfl, rfl, rfl, rfl, rfl, trivial⟩
end

end Mine
end Part19
section Part20
open PySem PySem.W PySem.Calls
set_option maxRecDepth 100000
set_option autoImplicit false
set_option linter.unusedVariables false
set_option maxHeartbeats 4000000
namespace Mine




@[reducible] def f_law_cell : Addr := 446
@[reducible] def f_law_plain : Addr := 453
@[reducible] def f_law_middle : Addr := 460
section
variable {w : World} {mean : ExcName → Option Value} {mg mb : Str → Option Value} {c : Cx} {σ : Sg}

theorem cl_law_cell {f L : Nat} {n : Int} {Q : PV → Prop} (hr : c.Room 6) (hf : f < 6) (hL : L ≤ 30) (h : ∀ P, P < 2 ^ (2 * L) → Q (.cell (gid L (f * 2 ^ (2 * L) + P)))) :
    Cl (gl w mean mg mb) c σ (.ref f_law_cell) [.int (f : Int), .int n, .int (L : Int)] Q := by
  refine cl_def (k := 5) (ns := ["face", "n", "level"]) (by rfl) (by kernel_rfl) hr (by (intro vs s hl; match vs, hl with | [_, _, _], _ => exact BindsTo.of_eq rfl)) (by decide) (by decide) (by decide) (fun A g0 fL hid hr' => ?_)
  with_reducible refine ex_cons ?_
  (with_reducible refine' ex_assign ?_ ?k_57 ?l_57 ?s_57); (case k_57 => rfl); (case l_57 => rfl); (case s_57 => rfl)
  with_reducible refine' ev_BinOp ?_
  with_reducible refine' ev_int ?_
  with_reducible refine' ev_BinOp ?_
  with_reducible refine' ev_int ?_
  (with_reducible refine' ev_name ?x_67 ?p_67 ?_ ?d_67); (case x_67 => rfl); (case p_67 => rfl); (case d_67 => decide)
  (with_reducible refine' op_mul ?m_81 ?_); (case m_81 => first | exact mul_ok_l (by decide) | exact mul_ok_r (by decide))
  refine op_shl (by omega) (shl_fits (by decide) (by omega) (by omega)) ?_
  rw [whole_int]
  with_reducible refine seq_nxt ?_
  with_reducible refine ex_cons ?_
  (with_reducible refine' ex_assign ?_ ?k_134 ?l_134 ?s_134); (case k_134 => rfl); (case l_134 => rfl); (case s_134 => rfl)
  with_reducible refine' ev_BinOp ?_
  (with_reducible refine' ev_name ?x_136 ?p_136 ?_ ?d_136); (case x_136 => rfl); (case p_136 => rfl); (case d_136 => decide)
  with_reducible refine' ev_int ?_
  (with_reducible refine' op_fdiv ?n_152 ?m_152 ?_); (case n_152 => decide); (case m_152 => decide)
  with_reducible refine seq_nxt ?_
  with_reducible refine ex_cons ?_
  with_reducible refine' ex_if ?_
  (with_reducible refine' evt_Compare ?_ ?m_167); (case m_167 => with_unfolding_all rfl)
  with_reducible refine' ev_BinOp ?_
  (with_reducible refine' ev_name ?x_169 ?p_169 ?_ ?d_169); (case x_169 => rfl); (case p_169 => rfl); (case d_169 => decide)
  with_reducible refine' ev_int ?_
  (with_reducible refine' op_mod ?n_175 ?_); (case n_175 => decide)
  with_reducible refine' ev_int ?_
  with_reducible refine' op_eq ?_
  with_reducible refine' opt_bool ?_
  by_cases h0 : n.fmod 3 = 0
  · refine ite_t (beq_iff_eq.mpr h0) ?_
    with_reducible refine ex_cons ?_
    (with_reducible refine' ex_assign ?_ ?k_250 ?l_250 ?s_250); (case k_250 => rfl); (case l_250 => rfl); (case s_250 => rfl)
    with_reducible refine' ev_BinOp ?_
    with_reducible refine' ev_BinOp ?_
    (with_reducible refine' ev_name ?x_253 ?p_253 ?_ ?d_253); (case x_253 => rfl); (case p_253 => rfl); (case d_253 => decide)
    with_reducible refine' ev_int ?_
    (with_reducible refine' op_mul ?m_260 ?_); (case m_260 => first | exact mul_ok_l (by decide) | exact mul_ok_r (by decide))
    (with_reducible refine' ev_name ?x_261 ?p_261 ?_ ?d_261); (case x_261 => rfl); (case p_261 => rfl); (case d_261 => decide)
    refine op_mod whole_ne ?_
    with_reducible refine seq_nxt ?_
    with_reducible refine ex_nil ?_
    with_reducible refine seq_nxt ?_
    with_reducible refine ex_cons ?_
    with_reducible refine' ex_return ?_
    (with_reducible refine' ev_Method (pl := _) ?_ ?h_281); (case h_281 => with_unfolding_all rfl)
    (with_reducible refine' ev_global g_CellId ?k_305 ?_ ?d_305); (case k_305 => rfl); (case d_305 => decide)
    (with_reducible refine' mth_cls cm_from_face_pos_level ?_ ?h_324 ?p_324); (case h_324 => with_unfolding_all rfl); (case p_324 => with_unfolding_all rfl)
    (with_reducible refine' evl_cons ?_ ?h_329); (case h_329 => with_unfolding_all rfl)
    (with_reducible refine' ev_name ?x_330 ?p_330 ?_ ?d_330); (case x_330 => rfl); (case p_330 => rfl); (case d_330 => decide)
    (with_reducible refine' evl_cons ?_ ?h_340); (case h_340 => with_unfolding_all rfl)
    with_reducible refine' ev_BinOp ?_
    (with_reducible refine' ev_name ?x_342 ?p_342 ?_ ?d_342); (case x_342 => rfl); (case p_342 => rfl); (case d_342 => decide)
    with_reducible refine' ev_BinOp ?_
    with_reducible refine' ev_int ?_
    with_reducible refine' ev_BinOp ?_
    with_reducible refine' ev_int ?_
    (with_reducible refine' ev_name ?x_351 ?p_351 ?_ ?d_351); (case x_351 => rfl); (case p_351 => rfl); (case d_351 => decide)
    (with_reducible refine' op_mul ?m_385 ?_); (case m_385 => first | exact mul_ok_l (by decide) | exact mul_ok_r (by decide))
    with_reducible refine' op_sub ?_
    obtain ⟨P, hP, e⟩ := fmod_whole (n.fdiv 3 * 11400714819323198485) L
    rw [e]
    refine op_shl (by omega) (shl_fits (place_small hL hP) (by omega) (by omega)) ?_
    rw [place_int]
    (with_reducible refine' evl_cons ?_ ?h_417); (case h_417 => with_unfolding_all rfl)
    (with_reducible refine' ev_name ?x_418 ?p_418 ?_ ?d_418); (case x_418 => rfl); (case p_418 => rfl); (case d_418 => decide)
    with_reducible refine' evl_nil ?_
    (with_reducible refine' cl_from_face_pos_level ?r_435 ?c_435 ?l_435 ?f_435 ?p_435 ?_); (case r_435 => (refine Cx.Room.le (by assumption) ?_; decide)); (case c_435 => rfl); (case l_435 => (first | assumption | omega)); (case f_435 => (first | assumption | omega)); (case p_435 => (first | assumption | omega))
    with_reducible refine seq_ret ?_
    with_reducible refine body_ret ?_
    exact h P hP
  · refine ite_f (beq_eq_false_iff_ne.mpr h0) ?_
    with_reducible refine ex_cons ?_
    with_reducible refine' ex_if ?_
    (with_reducible refine' evt_Compare ?_ ?m_467); (case m_467 => with_unfolding_all rfl)
    with_reducible refine' ev_BinOp ?_
    (with_reducible refine' ev_name ?x_469 ?p_469 ?_ ?d_469); (case x_469 => rfl); (case p_469 => rfl); (case d_469 => decide)
    with_reducible refine' ev_int ?_
    (with_reducible refine' op_mod ?n_471 ?_); (case n_471 => decide)
    with_reducible refine' ev_int ?_
    with_reducible refine' op_eq ?_
    with_reducible refine' opt_bool ?_
    by_cases h1 : n.fmod 3 = 1
    · refine ite_t (beq_iff_eq.mpr h1) ?_
      with_reducible refine ex_cons ?_
      (with_reducible refine' ex_assign ?_ ?k_513 ?l_513 ?s_513); (case k_513 => rfl); (case l_513 => rfl); (case s_513 => rfl)
      with_reducible refine' ev_BinOp ?_
      with_reducible refine' ev_BinOp ?_
      (with_reducible refine' ev_name ?x_521 ?p_521 ?_ ?d_521); (case x_521 => rfl); (case p_521 => rfl); (case d_521 => decide)
      with_reducible refine' ev_int ?_
      (with_reducible refine' op_mod ?n_526 ?_); (case n_526 => decide)
      (with_reducible refine' ev_name ?x_527 ?p_527 ?_ ?d_527); (case x_527 => rfl); (case p_527 => rfl); (case d_527 => decide)
      refine op_mod whole_ne ?_
      with_reducible refine seq_nxt ?_
      with_reducible refine ex_nil ?_
      with_reducible refine seq_nxt ?_
      with_reducible refine ex_nil ?_
      with_reducible refine seq_nxt ?_
      with_reducible refine ex_cons ?_
      with_reducible refine' ex_return ?_
      (with_reducible refine' ev_Method (pl := _) ?_ ?h_560); (case h_560 => with_unfolding_all rfl)
      (with_reducible refine' ev_global g_CellId ?k_581 ?_ ?d_581); (case k_581 => rfl); (case d_581 => decide)
      (with_reducible refine' mth_cls cm_from_face_pos_level ?_ ?h_590 ?p_590); (case h_590 => with_unfolding_all rfl); (case p_590 => with_unfolding_all rfl)
      (with_reducible refine' evl_cons ?_ ?h_592); (case h_592 => with_unfolding_all rfl)
      (with_reducible refine' ev_name ?x_593 ?p_593 ?_ ?d_593); (case x_593 => rfl); (case p_593 => rfl); (case d_593 => decide)
      (with_reducible refine' evl_cons ?_ ?h_597); (case h_597 => with_unfolding_all rfl)
      with_reducible refine' ev_BinOp ?_
      (with_reducible refine' ev_name ?x_599 ?p_599 ?_ ?d_599); (case x_599 => rfl); (case p_599 => rfl); (case d_599 => decide)
      with_reducible refine' ev_BinOp ?_
      with_reducible refine' ev_int ?_
      with_reducible refine' ev_BinOp ?_
      with_reducible refine' ev_int ?_
      (with_reducible refine' ev_name ?x_610 ?p_610 ?_ ?d_610); (case x_610 => rfl); (case p_610 => rfl); (case d_610 => decide)
      (with_reducible refine' op_mul ?m_615 ?_); (case m_615 => first | exact mul_ok_l (by decide) | exact mul_ok_r (by decide))
      with_reducible refine' op_sub ?_
      obtain ⟨P, hP, e⟩ := fmod_whole ((n.fdiv 3).fmod 64) L
      rw [e]
      refine op_shl (by omega) (shl_fits (place_small hL hP) (by omega) (by omega)) ?_
      rw [place_int]
      (with_reducible refine' evl_cons ?_ ?h_643); (case h_643 => with_unfolding_all rfl)
      (with_reducible refine' ev_name ?x_644 ?p_644 ?_ ?d_644); (case x_644 => rfl); (case p_644 => rfl); (case d_644 => decide)
      with_reducible refine' evl_nil ?_
      (with_reducible refine' cl_from_face_pos_level ?r_655 ?c_655 ?l_655 ?f_655 ?p_655 ?_); (case r_655 => (refine Cx.Room.le (by assumption) ?_; decide)); (case c_655 => rfl); (case l_655 => (first | assumption | omega)); (case f_655 => (first | assumption | omega)); (case p_655 => (first | assumption | omega))
      with_reducible refine seq_ret ?_
      with_reducible refine body_ret ?_
      exact h P hP
    · refine ite_f (beq_eq_false_iff_ne.mpr h1) ?_
      with_reducible refine ex_cons ?_
      (with_reducible refine' ex_assign ?_ ?k_668 ?l_668 ?s_668); (case k_668 => rfl); (case l_668 => rfl); (case s_668 => rfl)
      with_reducible refine' ev_BinOp ?_
      with_reducible refine' ev_BinOp ?_
      with_reducible refine' ev_BinOp ?_
      (with_reducible refine' ev_name ?x_675 ?p_675 ?_ ?d_675); (case x_675 => rfl); (case p_675 => rfl); (case d_675 => decide)
      with_reducible refine' ev_int ?_
      with_reducible refine' op_sub ?_
      with_reducible refine' ev_BinOp ?_
      (with_reducible refine' ev_name ?x_696 ?p_696 ?_ ?d_696); (case x_696 => rfl); (case p_696 => rfl); (case d_696 => decide)
      with_reducible refine' ev_int ?_
      (with_reducible refine' op_mod ?n_718 ?_); (case n_718 => decide)
      with_reducible refine' op_sub ?_
      (with_reducible refine' ev_name ?x_720 ?p_720 ?_ ?d_720); (case x_720 => rfl); (case p_720 => rfl); (case d_720 => decide)
      refine op_mod whole_ne ?_
      with_reducible refine seq_nxt ?_
      with_reducible refine ex_nil ?_
      with_reducible refine seq_nxt ?_
      with_reducible refine ex_nil ?_
      with_reducible refine seq_nxt ?_
      with_reducible refine ex_cons ?_
      with_reducible refine' ex_return ?_
      (with_reducible refine' ev_Method (pl := _) ?_ ?h_737); (case h_737 => with_unfolding_all rfl)
      (with_reducible refine' ev_global g_CellId ?k_745 ?_ ?d_745); (case k_745 => rfl); (case d_745 => decide)
      (with_reducible refine' mth_cls cm_from_face_pos_level ?_ ?h_746 ?p_746); (case h_746 => with_unfolding_all rfl); (case p_746 => with_unfolding_all rfl)
      (with_reducible refine' evl_cons ?_ ?h_748); (case h_748 => with_unfolding_all rfl)
      (with_reducible refine' ev_name ?x_749 ?p_749 ?_ ?d_749); (case x_749 => rfl); (case p_749 => rfl); (case d_749 => decide)
      (with_reducible refine' evl_cons ?_ ?h_751); (case h_751 => with_unfolding_all rfl)
      with_reducible refine' ev_BinOp ?_
      (with_reducible refine' ev_name ?x_753 ?p_753 ?_ ?d_753); (case x_753 => rfl); (case p_753 => rfl); (case d_753 => decide)
      with_reducible refine' ev_BinOp ?_
      with_reducible refine' ev_int ?_
      with_reducible refine' ev_BinOp ?_
      with_reducible refine' ev_int ?_
      (with_reducible refine' ev_name ?x_758 ?p_758 ?_ ?d_758); (case x_758 => rfl); (case p_758 => rfl); (case d_758 => decide)
      (with_reducible refine' op_mul ?m_759 ?_); (case m_759 => first | exact mul_ok_l (by decide) | exact mul_ok_r (by decide))
      with_reducible refine' op_sub ?_
      obtain ⟨P, hP, e⟩ := fmod_whole (((2 ^ (2 * L) : Nat) : Int) - 1 - (n.fdiv 3).fmod 64) L
      rw [e]
      refine op_shl (by omega) (shl_fits (place_small hL hP) (by omega) (by omega)) ?_
      rw [place_int]
      (with_reducible refine' evl_cons ?_ ?h_763); (case h_763 => with_unfolding_all rfl)
      (with_reducible refine' ev_name ?x_764 ?p_764 ?_ ?d_764); (case x_764 => rfl); (case p_764 => rfl); (case d_764 => decide)
      with_reducible refine' evl_nil ?_
      (with_reducible refine' cl_from_face_pos_level ?r_772 ?c_772 ?l_772 ?f_772 ?p_772 ?_); (case r_772 => (refine Cx.Room.le (by assumption) ?_; decide)); (case c_772 => rfl); (case l_772 => (first | assumption | omega)); (case f_772 => (first | assumption | omega)); (case p_772 => (first | assumption | omega))
      with_reducible refine seq_ret ?_
      with_reducible refine body_ret ?_
      exact h P hP

theorem cl_law_plain {a b d e : Int} {Q : PV → Prop} (hr : c.Room 1) (h : Q (.bool true)) : Cl (gl w mean mg mb) c σ (.ref f_law_plain) [.tup [.int a, .int b, .int d, .int e]] Q := by
  refine cl_def (k := 0) (ns := ["row"]) (by rfl) (by kernel_rfl) hr (by (intro vs s hl; match vs, hl with | [_], _ => exact BindsTo.of_eq rfl)) (by decide) (by decide) (by decide) (fun A g0 fL hid hr' => ?_)
  with_reducible refine ex_cons ?_
  (with_reducible refine' ex_for ?_ ?t_9 ?s_9); (case t_9 => intro _ _; rfl); (case s_9 => intro _; rfl)
  (with_reducible refine' ev_name ?x_10 ?p_10 ?_ ?d_10); (case x_10 => rfl); (case p_10 => rfl); (case d_10 => decide)
  refine ⟨_, .tup, ?_⟩
  (with_reducible refine' forL_cons ?k_11 ?l_11 ?_); (case k_11 => rfl); (case l_11 => rfl)
  with_reducible refine ex_cons ?_
  with_reducible refine' ex_if ?_
  with_reducible refine' evt_or ?_
  with_reducible refine' evt_not ?_
  (with_reducible refine' evt_of ?_ ?h_40); (case h_40 => with_unfolding_all rfl)
  (with_reducible refine' ev_Call ?_ ?h_42); (case h_42 => with_unfolding_all rfl)
  (with_reducible refine' ev_builtin n_isinstance bb_isinstance ?k_43 ?_ ?n_43 ?d_43); (case k_43 => rfl); (case n_43 => decide); (case d_43 => decide)
  (with_reducible refine' cw_builtin ?_ ?h_59 ?p_59); (case h_59 => with_unfolding_all rfl); (case p_59 => with_unfolding_all rfl)
  (with_reducible refine' evl_cons ?_ ?h_61); (case h_61 => with_unfolding_all rfl)
  (with_reducible refine' ev_name ?x_62 ?p_62 ?_ ?d_62); (case x_62 => rfl); (case p_62 => rfl); (case d_62 => decide)
  (with_reducible refine' evl_cons ?_ ?h_69); (case h_69 => with_unfolding_all rfl)
  (with_reducible refine' ev_builtin n_int bb_int ?k_70 ?_ ?n_70 ?d_70); (case k_70 => rfl); (case n_70 => decide); (case d_70 => decide)
  with_reducible refine' evl_nil ?_
  with_reducible refine' b_isi_int_int ?_
  with_reducible refine' opt_bool ?_
  (with_reducible refine' ite_f ?h_107 ?_); (case h_107 => decide)
  with_reducible refine' evt_or ?_
  (with_reducible refine' evt_of ?_ ?h_121); (case h_121 => with_unfolding_all rfl)
  (with_reducible refine' ev_Call ?_ ?h_123); (case h_123 => with_unfolding_all rfl)
  (with_reducible refine' ev_builtin n_isinstance bb_isinstance ?k_124 ?_ ?n_124 ?d_124); (case k_124 => rfl); (case n_124 => decide); (case d_124 => decide)
  (with_reducible refine' cw_builtin ?_ ?h_138 ?p_138); (case h_138 => with_unfolding_all rfl); (case p_138 => with_unfolding_all rfl)
  (with_reducible refine' evl_cons ?_ ?h_141); (case h_141 => with_unfolding_all rfl)
  (with_reducible refine' ev_name ?x_145 ?p_145 ?_ ?d_145); (case x_145 => rfl); (case p_145 => rfl); (case d_145 => decide)
  (with_reducible refine' evl_cons ?_ ?h_160); (case h_160 => with_unfolding_all rfl)
  (with_reducible refine' ev_builtin n_bool bb_bool ?k_165 ?_ ?n_165 ?d_165); (case k_165 => rfl); (case n_165 => decide); (case d_165 => decide)
  with_reducible refine' evl_nil ?_
  with_reducible refine' b_isi_int_bool ?_
  with_reducible refine' opt_bool ?_
  (with_reducible refine' ite_f ?h_203 ?_); (case h_203 => decide)
  with_reducible refine' evt_or_nil ?_
  (with_reducible refine' ite_f ?h_211 ?_); (case h_211 => decide)
  with_reducible refine ex_nil ?_
  with_reducible refine seq_nxt ?_
  with_reducible refine ex_nil ?_
  with_reducible refine for_nxt ?_
  (with_reducible refine' forL_cons ?k_220 ?l_220 ?_); (case k_220 => rfl); (case l_220 => rfl)
  with_reducible refine ex_cons ?_
  with_reducible refine' ex_if ?_
  with_reducible refine' evt_or ?_
  with_reducible refine' evt_not ?_
  (with_reducible refine' evt_of ?_ ?h_238); (case h_238 => with_unfolding_all rfl)
  (with_reducible refine' ev_Call ?_ ?h_240); (case h_240 => with_unfolding_all rfl)
  (with_reducible refine' ev_builtin n_isinstance bb_isinstance ?k_241 ?_ ?n_241 ?d_241); (case k_241 => rfl); (case n_241 => decide); (case d_241 => decide)
  (with_reducible refine' cw_builtin ?_ ?h_255 ?p_255); (case h_255 => with_unfolding_all rfl); (case p_255 => with_unfolding_all rfl)
  (with_reducible refine' evl_cons ?_ ?h_257); (case h_257 => with_unfolding_all rfl)
  (with_reducible refine' ev_name ?x_259 ?p_259 ?_ ?d_259); (case x_259 => rfl); (case p_259 => rfl); (case d_259 => decide)
  (with_reducible refine' evl_cons ?_ ?h_263); (case h_263 => with_unfolding_all rfl)
  (with_reducible refine' ev_builtin n_int bb_int ?k_264 ?_ ?n_264 ?d_264); (case k_264 => rfl); (case n_264 => decide); (case d_264 => decide)
  with_reducible refine' evl_nil ?_
  with_reducible refine' b_isi_int_int ?_
  with_reducible refine' opt_bool ?_
  (with_reducible refine' ite_f ?h_286 ?_); (case h_286 => decide)
  with_reducible refine' evt_or ?_
  (with_reducible refine' evt_of ?_ ?h_297); (case h_297 => with_unfolding_all rfl)
  (with_reducible refine' ev_Call ?_ ?h_300); (case h_300 => with_unfolding_all rfl)
  (with_reducible refine' ev_builtin n_isinstance bb_isinstance ?k_303 ?_ ?n_303 ?d_303); (case k_303 => rfl); (case n_303 => decide); (case d_303 => decide)
  (with_reducible refine' cw_builtin ?_ ?h_323 ?p_323); (case h_323 => with_unfolding_all rfl); (case p_323 => with_unfolding_all rfl)
  (with_reducible refine' evl_cons ?_ ?h_326); (case h_326 => with_unfolding_all rfl)
  (with_reducible refine' ev_name ?x_327 ?p_327 ?_ ?d_327); (case x_327 => rfl); (case p_327 => rfl); (case d_327 => decide)
  (with_reducible refine' evl_cons ?_ ?h_333); (case h_333 => with_unfolding_all rfl)
  (with_reducible refine' ev_builtin n_bool bb_bool ?k_335 ?_ ?n_335 ?d_335); (case k_335 => rfl); (case n_335 => decide); (case d_335 => decide)
  with_reducible refine' evl_nil ?_
  with_reducible refine' b_isi_int_bool ?_
  with_reducible refine' opt_bool ?_
  (with_reducible refine' ite_f ?h_374 ?_); (case h_374 => decide)
  with_reducible refine' evt_or_nil ?_
  (with_reducible refine' ite_f ?h_384 ?_); (case h_384 => decide)
  with_reducible refine ex_nil ?_
  with_reducible refine seq_nxt ?_
  with_reducible refine ex_nil ?_
  with_reducible refine for_nxt ?_
  (with_reducible refine' forL_cons ?k_394 ?l_394 ?_); (case k_394 => rfl); (case l_394 => rfl)
  with_reducible refine ex_cons ?_
  with_reducible refine' ex_if ?_
  with_reducible refine' evt_or ?_
  with_reducible refine' evt_not ?_
  (with_reducible refine' evt_of ?_ ?h_412); (case h_412 => with_unfolding_all rfl)
  (with_reducible refine' ev_Call ?_ ?h_414); (case h_414 => with_unfolding_all rfl)
  (with_reducible refine' ev_builtin n_isinstance bb_isinstance ?k_415 ?_ ?n_415 ?d_415); (case k_415 => rfl); (case n_415 => decide); (case d_415 => decide)
  (with_reducible refine' cw_builtin ?_ ?h_420 ?p_420); (case h_420 => with_unfolding_all rfl); (case p_420 => with_unfolding_all rfl)
  (with_reducible refine' evl_cons ?_ ?h_426); (case h_426 => with_unfolding_all rfl)
  (with_reducible refine' ev_name ?x_427 ?p_427 ?_ ?d_427); (case x_427 => rfl); (case p_427 => rfl); (case d_427 => decide)
  (with_reducible refine' evl_cons ?_ ?h_437); (case h_437 => with_unfolding_all rfl)
  (with_reducible refine' ev_builtin n_int bb_int ?k_441 ?_ ?n_441 ?d_441); (case k_441 => rfl); (case n_441 => decide); (case d_441 => decide)
  with_reducible refine' evl_nil ?_
  with_reducible refine' b_isi_int_int ?_
  with_reducible refine' opt_bool ?_
  (with_reducible refine' ite_f ?h_491 ?_); (case h_491 => decide)
  with_reducible refine' evt_or ?_
  (with_reducible refine' evt_of ?_ ?h_502); (case h_502 => with_unfolding_all rfl)
  (with_reducible refine' ev_Call ?_ ?h_504); (case h_504 => with_unfolding_all rfl)
  (with_reducible refine' ev_builtin n_isinstance bb_isinstance ?k_505 ?_ ?n_505 ?d_505); (case k_505 => rfl); (case n_505 => decide); (case d_505 => decide)
  (with_reducible refine' cw_builtin ?_ ?h_515 ?p_515); (case h_515 => with_unfolding_all rfl); (case p_515 => with_unfolding_all rfl)
  (with_reducible refine' evl_cons ?_ ?h_517); (case h_517 => with_unfolding_all rfl)
  (with_reducible refine' ev_name ?x_518 ?p_518 ?_ ?d_518); (case x_518 => rfl); (case p_518 => rfl); (case d_518 => decide)
  (with_reducible refine' evl_cons ?_ ?h_523); (case h_523 => with_unfolding_all rfl)
  (with_reducible refine' ev_builtin n_bool bb_bool ?k_524 ?_ ?n_524 ?d_524); (case k_524 => rfl); (case n_524 => decide); (case d_524 => decide)
  with_reducible refine' evl_nil ?_
  with_reducible refine' b_isi_int_bool ?_
  with_reducible refine' opt_bool ?_
  (with_reducible refine' ite_f ?h_543 ?_); (case h_543 => decide)
  with_reducible refine' evt_or_nil ?_
  (with_reducible refine' ite_f ?h_561 ?_); (case h_561 => decide)
  with_reducible refine ex_nil ?_
  with_reducible refine seq_nxt ?_
  with_reducible refine ex_nil ?_
  with_reducible refine for_nxt ?_
  (with_reducible refine' forL_cons ?k_568 ?l_568 ?_); (case k_568 => rfl); (case l_568 => rfl)
  with_reducible refine ex_cons ?_
  with_reducible refine' ex_if ?_
  with_reducible refine' evt_or ?_
  with_reducible refine' evt_not ?_
  (with_reducible refine' evt_of ?_ ?h_586); (case h_586 => with_unfolding_all rfl)
  (with_reducible refine' ev_Call ?_ ?h_588); (case h_588 => with_unfolding_all rfl)
  (with_reducible refine' ev_builtin n_isinstance bb_isinstance ?k_589 ?_ ?n_589 ?d_589); (case k_589 => rfl); (case n_589 => decide); (case d_589 => decide)
  (with_reducible refine' cw_builtin ?_ ?h_595 ?p_595); (case h_595 => with_unfolding_all rfl); (case p_595 => with_unfolding_all rfl)
  (with_reducible refine' evl_cons ?_ ?h_601); (case h_601 => with_unfolding_all rfl)
  (with_reducible refine' ev_name ?x_602 ?p_602 ?_ ?d_602); (case x_602 => rfl); (case p_602 => rfl); (case d_602 => decide)
  (with_reducible refine' evl_cons ?_ ?h_604); (case h_604 => with_unfolding_all rfl)
  (with_reducible refine' ev_builtin n_int bb_int ?k_605 ?_ ?n_605 ?d_605); (case k_605 => rfl); (case n_605 => decide); (case d_605 => decide)
  with_reducible refine' evl_nil ?_
  with_reducible refine' b_isi_int_int ?_
  with_reducible refine' opt_bool ?_
  (with_reducible refine' ite_f ?h_627 ?_); (case h_627 => decide)
  with_reducible refine' evt_or ?_
  (with_reducible refine' evt_of ?_ ?h_638); (case h_638 => with_unfolding_all rfl)
  (with_reducible refine' ev_Call ?_ ?h_640); (case h_640 => with_unfolding_all rfl)
  (with_reducible refine' ev_builtin n_isinstance bb_isinstance ?k_641 ?_ ?n_641 ?d_641); (case k_641 => rfl); (case n_641 => decide); (case d_641 => decide)
  (with_reducible refine' cw_builtin ?_ ?h_646 ?p_646); (case h_646 => with_unfolding_all rfl); (case p_646 => with_unfolding_all rfl)
  (with_reducible refine' evl_cons ?_ ?h_656); (case h_656 => with_unfolding_all rfl)
  (with_reducible refine' ev_name ?x_657 ?p_657 ?_ ?d_657); (case x_657 => rfl); (case p_657 => rfl); (case d_657 => decide)
  (with_reducible refine' evl_cons ?_ ?h_670); (case h_670 => with_unfolding_all rfl)
  (with_reducible refine' ev_builtin n_bool bb_bool ?k_671 ?_ ?n_671 ?d_671); (case k_671 => rfl); (case n_671 => decide); (case d_671 => decide)
  with_reducible refine' evl_nil ?_
  with_reducible refine' b_isi_int_bool ?_
  with_reducible refine' opt_bool ?_
  (with_reducible refine' ite_f ?h_691 ?_); (case h_691 => decide)
  with_reducible refine' evt_or_nil ?_
  (with_reducible refine' ite_f ?h_702 ?_); (case h_702 => decide)
  with_reducible refine ex_nil ?_
  with_reducible refine seq_nxt ?_
  with_reducible refine ex_nil ?_
  with_reducible refine for_nxt ?_
  with_reducible refine' forL_nil ?_
  with_reducible refine seq_nxt ?_
  with_reducible refine ex_cons ?_
  with_reducible refine' ex_return ?_
  (with_reducible refine' ev_Compare ?_ ?m_714); (case m_714 => with_unfolding_all rfl)
  (with_reducible refine' ev_Call ?_ ?h_717); (case h_717 => with_unfolding_all rfl)
  (with_reducible refine' ev_builtin n_len bb_len ?k_721 ?_ ?n_721 ?d_721); (case k_721 => rfl); (case n_721 => decide); (case d_721 => decide)
  (with_reducible refine' cw_builtin ?_ ?h_724 ?p_724); (case h_724 => with_unfolding_all rfl); (case p_724 => with_unfolding_all rfl)
  (with_reducible refine' evl_cons ?_ ?h_726); (case h_726 => with_unfolding_all rfl)
  (with_reducible refine' ev_name ?x_728 ?p_728 ?_ ?d_728); (case x_728 => rfl); (case p_728 => rfl); (case d_728 => decide)
  with_reducible refine' evl_nil ?_
  (with_reducible refine' b_len_tup ?l_739 ?_); (case l_739 => first | decide | (simp; done))
  with_reducible refine' ev_int ?_
  with_reducible refine' op_eq ?_
  with_reducible refine seq_ret ?_
  with_reducible refine body_ret ?_
  exact h

theorem cl_law_middle {A B f o m : Nat} {d k : Int} {Q : PV → Prop} (hr : c.Room 1) (hk : k = (m : Int)) (hm : m ≤ 30) (h : Q (.bool true)) : Cl (gl w mean mg mb) c σ (.ref f_law_middle) [.tup [.int f, .int ((A * 2 ^ m + mid o m : Nat) : Int), .int ((B * 2 ^ m + mid o m : Nat) : Int), .int d], .int k] Q := by
  subst hk
  refine cl_def (k := 0) (ns := ["row", "h"]) (by rfl) (by kernel_rfl) hr (by (intro vs s hl; match vs, hl with | [_, _], _ => exact BindsTo.of_eq rfl)) (by decide) (by decide) (by decide) (fun A' g0 fL hid hr' => ?_)
  with_reducible refine ex_cons ?_
  with_reducible refine' ex_if ?_
  (with_reducible refine' evt_Compare ?_ ?m_23); (case m_23 => with_unfolding_all rfl)
  (with_reducible refine' ev_name ?x_27 ?p_27 ?_ ?d_27); (case x_27 => rfl); (case p_27 => rfl); (case d_27 => decide)
  with_reducible refine' ev_int ?_
  with_reducible refine' op_eq ?_
  with_reducible refine' opt_bool ?_
  by_cases h0 : m = 0
  · refine ite_t (beq_iff_eq.mpr (by omega)) ?_
    with_reducible refine ex_cons ?_
    with_reducible refine' ex_return ?_
    with_reducible refine' ev_bool ?_
    with_reducible refine seq_ret ?_
    with_reducible refine seq_ret ?_
    with_reducible refine body_ret ?_
    exact h
  · refine ite_f (beq_eq_false_iff_ne.mpr (by omega)) ?_
    with_reducible refine ex_nil ?_
    with_reducible refine seq_nxt ?_
    with_reducible refine ex_cons ?_
    (with_reducible refine' ex_assign ?_ ?k_93 ?l_93 ?s_93); (case k_93 => rfl); (case l_93 => rfl); (case s_93 => rfl)
    with_reducible refine' ev_BinOp ?_
    with_reducible refine' ev_int ?_
    (with_reducible refine' ev_name ?x_119 ?p_119 ?_ ?d_119); (case x_119 => rfl); (case p_119 => rfl); (case d_119 => decide)
    refine op_shl (by omega) (shl_fits (by decide) (by omega) (by omega)) ?_
    rw [pow_int]
    with_reducible refine seq_nxt ?_
    with_reducible refine ex_cons ?_
    with_reducible refine' ex_return ?_
    with_reducible refine' ev_and ?_
    (with_reducible refine' ev_Compare ?_ ?m_147); (case m_147 => with_unfolding_all rfl)
    (with_reducible refine' ev_Call ?_ ?h_149); (case h_149 => with_unfolding_all rfl)
    (with_reducible refine' ev_builtin n_abs bb_abs ?k_150 ?_ ?n_150 ?d_150); (case k_150 => rfl); (case n_150 => decide); (case d_150 => decide)
    (with_reducible refine' cw_builtin ?_ ?h_171 ?p_171); (case h_171 => with_unfolding_all rfl); (case p_171 => with_unfolding_all rfl)
    (with_reducible refine' evl_cons ?_ ?h_174); (case h_174 => with_unfolding_all rfl)
    with_reducible refine' ev_BinOp ?_
    with_reducible refine' ev_BinOp ?_
    with_reducible refine' ev_BinOp ?_
    with_reducible refine' ev_int ?_
    with_reducible refine' ev_BinOp ?_
    with_reducible refine' ev_Subscript ?_
    (with_reducible refine' ev_name ?x_186 ?p_186 ?_ ?d_186); (case x_186 => rfl); (case p_186 => rfl); (case d_186 => decide)
    with_reducible refine' ev_int ?_
    (with_reducible refine' op_item_tup ?a_218 ?b_218 ?j_218 ?x_218 ?_ ?s_218); (case a_218 => decide); (case b_218 => decide); (case j_218 => rfl); (case x_218 => rfl); (case s_218 => intros; with_unfolding_all rfl)
    (with_reducible refine' ev_name ?x_221 ?p_221 ?_ ?d_221); (case x_221 => rfl); (case p_221 => rfl); (case d_221 => decide)
    refine op_mod pow_ne ?_
    rw [mid_mod]
    (with_reducible refine' op_mul ?m_298 ?_); (case m_298 => first | exact mul_ok_l (by decide) | exact mul_ok_r (by decide))
    with_reducible refine' ev_int ?_
    with_reducible refine' op_add ?_
    (with_reducible refine' ev_name ?x_304 ?p_304 ?_ ?d_304); (case x_304 => rfl); (case p_304 => rfl); (case d_304 => decide)
    with_reducible refine' op_sub ?_
    with_reducible refine' evl_nil ?_
    with_reducible refine' b_abs ?_
    with_reducible refine' ev_int ?_
    with_reducible refine' op_eq ?_
    with_reducible refine' opt_bool ?_
    refine ite_t (mid_abs h0) ?_
    with_reducible refine' ev_one ?_
    (with_reducible refine' ev_Compare ?_ ?m_334); (case m_334 => with_unfolding_all rfl)
    (with_reducible refine' ev_Call ?_ ?h_337); (case h_337 => with_unfolding_all rfl)
    (with_reducible refine' ev_builtin n_abs bb_abs ?k_338 ?_ ?n_338 ?d_338); (case k_338 => rfl); (case n_338 => decide); (case d_338 => decide)
    (with_reducible refine' cw_builtin ?_ ?h_344 ?p_344); (case h_344 => with_unfolding_all rfl); (case p_344 => with_unfolding_all rfl)
    (with_reducible refine' evl_cons ?_ ?h_350); (case h_350 => with_unfolding_all rfl)
    with_reducible refine' ev_BinOp ?_
    with_reducible refine' ev_BinOp ?_
    with_reducible refine' ev_BinOp ?_
    with_reducible refine' ev_int ?_
    with_reducible refine' ev_BinOp ?_
    with_reducible refine' ev_Subscript ?_
    (with_reducible refine' ev_name ?x_358 ?p_358 ?_ ?d_358); (case x_358 => rfl); (case p_358 => rfl); (case d_358 => decide)
    with_reducible refine' ev_int ?_
    (with_reducible refine' op_item_tup ?a_375 ?b_375 ?j_375 ?x_375 ?_ ?s_375); (case a_375 => decide); (case b_375 => decide); (case j_375 => rfl); (case x_375 => rfl); (case s_375 => intros; with_unfolding_all rfl)
    (with_reducible refine' ev_name ?x_382 ?p_382 ?_ ?d_382); (case x_382 => rfl); (case p_382 => rfl); (case d_382 => decide)
    refine op_mod pow_ne ?_
    rw [mid_mod]
    (with_reducible refine' op_mul ?m_421 ?_); (case m_421 => first | exact mul_ok_l (by decide) | exact mul_ok_r (by decide))
    with_reducible refine' ev_int ?_
    with_reducible refine' op_add ?_
    (with_reducible refine' ev_name ?x_424 ?p_424 ?_ ?d_424); (case x_424 => rfl); (case p_424 => rfl); (case d_424 => decide)
    with_reducible refine' op_sub ?_
    with_reducible refine' evl_nil ?_
    with_reducible refine' b_abs ?_
    with_reducible refine' ev_int ?_
    with_reducible refine' op_eq ?_
    with_reducible refine seq_ret ?_
    with_reducible refine body_ret ?_
    rw [mid_abs h0]
    exact h
theorem cl_tf {L p f O X Y : Nat} {Q : PV → Prop} (hr : c.Room 4) (hL : L ≤ 30) (hp : p < 6 * 2 ^ (2 * L)) (hf : p / 2 ^ (2 * L) = f) (hO : ho L (f % 2) p = O) (hX : hx L (f % 2) p = X) (hY : hy L (f % 2) p = Y)
    (h : Q (.tup [.int (f : Int), .int ((X * 2 ^ (30 - L) + mid O (30 - L) : Nat) : Int), .int ((Y * 2 ^ (30 - L) + mid O (30 - L) : Nat) : Int), .int (O : Int)])) : Cl (gl w mean mg mb) c σ (.ref f_to_face_ij_orientation) [.cell (gid L p)] Q := by
  subst hf hO hX hY
  exact cl_to_face_ij_orientation hr hL hp h
theorem cl_tf2 {L d p b f O X Y : Nat} {Q : PV → Prop} (hr : c.Room 4) (hL : L + d ≤ 30) (hp : p * 4 ^ d + b < 6 * 2 ^ (2 * (L + d))) (hb : b < 4 ^ d) (hf : p / 2 ^ (2 * L) = f) (hO : ho L (f % 2) p = O) (hX : hx L (f % 2) p = X) (hY : hy L (f % 2) p = Y)
    (h : Q (.tup [.int (f : Int), .int (((X * 2 ^ d + hx d O b) * 2 ^ (30 - (L + d)) + mid (ho d O b) (30 - (L + d)) : Nat) : Int), .int (((Y * 2 ^ d + hy d O b) * 2 ^ (30 - (L + d)) + mid (ho d O b) (30 - (L + d)) : Nat) : Int), .int ((ho d O b : Nat) : Int)])) : Cl (gl w mean mg mb) c σ (.ref f_to_face_ij_orientation) [.cell (gid (L + d) (p * 4 ^ d + b))] Q := by
  subst hO hX hY
  have e : (p * 4 ^ d + b) / 2 ^ (2 * (L + d)) = f := by
    rw [pow4, Nat.add_comm L d, Nat.pow_add, ← Nat.div_div_eq_div_mul, Nat.mul_comm p, Nat.mul_add_div (Nat.pow_pos (by decide)), Nat.div_eq_of_lt hb, Nat.add_zero, ← pow4, hf]
  exact cl_tf hr hL hp e (cell_o hb) (cell_x hb) (cell_y hb) h
theorem cl_par {L d p b : Nat} {Q : PV → Prop} (hr : c.Room 4) (hL : L + d ≤ 30) (hp : p * 4 ^ d + b < 6 * 2 ^ (2 * (L + d))) (hb : b < 4 ^ d) (h : Q (.cell (gid L p))) : Cl (gl w mean mg mb) c σ (.ref f_parent) [.cell (gid (L + d) (p * 4 ^ d + b)), .int (L : Int)] Q := by
  refine cl_parent hr hL (Nat.le_add_right _ _) hp ?_
  rw [show L + d - L = d by omega, pow4, Nat.mul_comm p, Nat.mul_add_div (Nat.pow_pos (by decide)), Nat.div_eq_of_lt hb]
  exact h
end

end Mine
end Part20
section Part21
open PySem PySem.W PySem.Calls
set_option maxRecDepth 100000
set_option autoImplicit false
set_option linter.unusedVariables false
set_option maxHeartbeats 4000000
namespace Mine





def pt (d O k : Nat) : PV := .tup [.int (hx d O k : Nat), .int (hy d O k : Nat)]
@[reducible] def base (T U d p q O1 X1 Y1 O2 X2 Y2 f g : Nat) (rd : List PV) : Sg := [("deep", .int d), ("top", .int T), ("tip", .int U), ("one", .cell (gid T p)), ("two", .cell (gid U q)), ("kept", .lst [.int (gid T p), .int (gid U q)]),
  ("last", .int (((2 ^ d : Nat) : Int) - 1)), ("mine", .tup [.int f, .int ((X1 * 2 ^ (30 - T) + mid O1 (30 - T) : Nat) : Int), .int ((Y1 * 2 ^ (30 - T) + mid O1 (30 - T) : Nat) : Int), .int O1]),
  ("other", .tup [.int g, .int ((X2 * 2 ^ (30 - U) + mid O2 (30 - U) : Nat) : Int), .int ((Y2 * 2 ^ (30 - U) + mid O2 (30 - U) : Nat) : Int), .int O2]),
  ("least", .tup [.int ((X1 * 2 ^ d : Nat) : Int), .int ((Y1 * 2 ^ d : Nat) : Int)]), ("start", .tup [.int ((X2 * 2 ^ d : Nat) : Int), .int ((Y2 * 2 ^ d : Nat) : Int)]), ("turn", .int ((O1 ^^^ O2 : Nat) : Int)),
  ("begin", .cell (gid (T + d) (p * 4 ^ d))), ("end", .cell (gid (T + d) ((p + 1) * 4 ^ d))), ("road", .mlst rd)]
theorem range_two {i m : Nat} {x : PV} (h : ([.int (m : Int), .int ((m : Int) + 1)] : List PV)[i]? = some x) : i < 2 ∧ x = .int ((m + i : Nat) : Int) := by
  match i, h with
  | 0, h => cases h; exact ⟨by decide, rfl⟩
  | 1, h => cases h; exact ⟨by decide, rfl⟩
open PyProof.Rows in
theorem law02 : PySem.Challenge.rw_eg5039_02.Holds := Mine.hd (by
  k_go0
  (all_goals try k_fold)
  rename_i right N0 X0
  rename List Int => ns
  have hlen : ns.length ≤ 63 := by omega
  refine law_enter (G := gl _ _ _ _) (Qk := qk) (Ek := ek) (o := _) rfl (by assumption) (by assumption) (by assumption) N0 right (by assumption) (by assumption) rfl rfl rfl rfl rfl ⟨Nat.le_of_ble_eq_true rfl, Nat.le_of_ble_eq_true rfl⟩ ?_ ?_
  · intro hroom
    dsimp only at hroom ⊢
    refine ex_cons (ex_assign ?_ rfl rfl rfl)
    refine ev_of (Q := fun v => ∃ a0 a1 a2 a3 a4 a5 : Int, v = .lst [.int a0, .int a1, .int a2, .int a3, .int a4, .int a5]) ?_ ?_
    · with_reducible refine' ev_IfExp ?_
      (with_reducible refine' evt_of ?_ ?h_7); (case h_7 => with_unfolding_all rfl)
      (with_reducible refine' ev_name ?x_8 ?p_8 ?_ ?d_8); (case x_8 => rfl); (case p_8 => rfl); (case d_8 => decide)
      refine opt_lst (by rw [List.length_map]; omega) ?_
      by_cases hne : ns = []
      · subst hne
        refine ite_f rfl ?_
        with_reducible refine' ev_List ?_
        (with_reducible refine' evl_cons ?_ ?h_13); (case h_13 => with_unfolding_all rfl)
        with_reducible refine' ev_int ?_
        (with_reducible refine' evl_cons ?_ ?h_16); (case h_16 => with_unfolding_all rfl)
        with_reducible refine' ev_int ?_
        (with_reducible refine' evl_cons ?_ ?h_19); (case h_19 => with_unfolding_all rfl)
        with_reducible refine' ev_int ?_
        (with_reducible refine' evl_cons ?_ ?h_22); (case h_22 => with_unfolding_all rfl)
        with_reducible refine' ev_int ?_
        (with_reducible refine' evl_cons ?_ ?h_25); (case h_25 => with_unfolding_all rfl)
        with_reducible refine' ev_int ?_
        (with_reducible refine' evl_cons ?_ ?h_28); (case h_28 => with_unfolding_all rfl)
        with_reducible refine' ev_int ?_
        with_reducible refine' evl_nil ?_
        (with_reducible refine' And.intro ?a_33 ?_); (case a_33 => exact Nat.le_of_ble_eq_true rfl)
        exact ⟨0, 0, 0, 0, 0, 0, rfl⟩
      · have hpos : 0 < ns.length := List.length_pos_iff.mpr hne
        refine ite_t (by cases ns with | nil => exact absurd rfl hne | cons => rfl) ?_
        refine ev_ListComp ["script"] (fun _ => true) (fun y => match y with | .int t => .int ((ns.getD (t.fmod (ns.length : Int)).toNat 0).fdiv (1 + t.fdiv (ns.length : Int))) | _ => .int 0) ⟨rfl, rfl, rfl, rfl, rfl, ?_⟩ ?_ (fun _ => rfl)
        · intro n hn
          obtain rfl := List.mem_singleton.mp hn
          exact ⟨rfl, rfl, rfl, by decide⟩
        · (with_reducible refine' ev_Call ?_ ?h_35); (case h_35 => with_unfolding_all rfl)
          (with_reducible refine' ev_builtin n_range bb_range ?k_36 ?_ ?n_36 ?d_36); (case k_36 => rfl); (case n_36 => decide); (case d_36 => decide)
          (with_reducible refine' cw_type ?_ ?h_39 ?p_39); (case h_39 => with_unfolding_all rfl); (case p_39 => with_unfolding_all rfl)
          (with_reducible refine' evl_cons ?_ ?h_41); (case h_41 => with_unfolding_all rfl)
          with_reducible refine' ev_int ?_
          with_reducible refine' evl_nil ?_
          with_reducible refine' b_range1 ?_
          refine ⟨[.int 0, .int 1, .int 2, .int 3, .int 4, .int 5], .rng (n := 6) (by decide) (by decide) rfl, by decide, ?_, ?_, fun _ _ _ => rfl, ?_, ⟨_, _, _, _, _, _, rfl⟩⟩
          · intro y hy; simp only [List.mem_cons, List.not_mem_nil, or_false] at hy; rcases hy with rfl | rfl | rfl | rfl | rfl | rfl <;> rfl
          · intro y hy; simp only [List.mem_cons, List.not_mem_nil, or_false] at hy; rcases hy with rfl | rfl | rfl | rfl | rfl | rfl <;> rfl
          · intro C y hy _
            obtain ⟨t, ht, rfl⟩ : ∃ t : Nat, t < 6 ∧ y = .int (t : Int) := by
              simp only [List.mem_cons, List.not_mem_nil, or_false] at hy
              rcases hy with rfl | rfl | rfl | rfl | rfl | rfl
              · exact ⟨0, by decide, rfl⟩
              · exact ⟨1, by decide, rfl⟩
              · exact ⟨2, by decide, rfl⟩
              · exact ⟨3, by decide, rfl⟩
              · exact ⟨4, by decide, rfl⟩
              · exact ⟨5, by decide, rfl⟩
            with_reducible refine' ev_BinOp ?_
            with_reducible refine' ev_Subscript ?_
            (with_reducible refine' ev_name ?x_49 ?p_49 ?_ ?d_49); (case x_49 => rfl); (case p_49 => rfl); (case d_49 => decide)
            with_reducible refine' ev_BinOp ?_
            (with_reducible refine' ev_name ?x_51 ?p_51 ?_ ?d_51); (case x_51 => rfl); (case p_51 => rfl); (case d_51 => decide)
            (with_reducible refine' ev_Call ?_ ?h_53); (case h_53 => with_unfolding_all rfl)
            (with_reducible refine' ev_builtin n_len bb_len ?k_54 ?_ ?n_54 ?d_54); (case k_54 => rfl); (case n_54 => decide); (case d_54 => decide)
            (with_reducible refine' cw_builtin ?_ ?h_56 ?p_56); (case h_56 => with_unfolding_all rfl); (case p_56 => with_unfolding_all rfl)
            (with_reducible refine' evl_cons ?_ ?h_58); (case h_58 => with_unfolding_all rfl)
            (with_reducible refine' ev_name ?x_59 ?p_59 ?_ ?d_59); (case x_59 => rfl); (case p_59 => rfl); (case d_59 => decide)
            with_reducible refine' evl_nil ?_
            refine b_len_lst (by rw [List.length_map]; omega) ?_
            rw [List.length_map]
            refine op_mod (by omega) ?_
            obtain ⟨r, hr, er⟩ := fmod_fit (t : Int) ns.length hpos
            rw [er]
            refine op_item_lst (x := .int (ns.getD r 0)) (by omega) (by omega) (by rw [Int.toNat_natCast, List.getElem?_map, List.getD_eq_getElem?_getD, List.getElem?_eq_getElem hr]; rfl) ?_ (by intros; with_unfolding_all rfl)
            with_reducible refine' ev_BinOp ?_
            with_reducible refine' ev_int ?_
            with_reducible refine' ev_BinOp ?_
            (with_reducible refine' ev_name ?x_77 ?p_77 ?_ ?d_77); (case x_77 => rfl); (case p_77 => rfl); (case d_77 => decide)
            (with_reducible refine' ev_Call ?_ ?h_79); (case h_79 => with_unfolding_all rfl)
            (with_reducible refine' ev_builtin n_len bb_len ?k_80 ?_ ?n_80 ?d_80); (case k_80 => rfl); (case n_80 => decide); (case d_80 => decide)
            (with_reducible refine' cw_builtin ?_ ?h_82 ?p_82); (case h_82 => with_unfolding_all rfl); (case p_82 => with_unfolding_all rfl)
            (with_reducible refine' evl_cons ?_ ?h_84); (case h_84 => with_unfolding_all rfl)
            (with_reducible refine' ev_name ?x_85 ?p_85 ?_ ?d_85); (case x_85 => rfl); (case p_85 => rfl); (case d_85 => decide)
            with_reducible refine' evl_nil ?_
            refine b_len_lst (by rw [List.length_map]; omega) ?_
            rw [List.length_map]
            have hq : 0 ≤ (t : Int).fdiv (ns.length : Int) ∧ (t : Int).fdiv (ns.length : Int) ≤ t := by rw [fdiv_nat]; exact ⟨Int.natCast_nonneg _, Int.ofNat_le.mpr (Nat.div_le_self _ _)⟩
            refine op_fdiv (by omega) (log2_small (by omega)) ?_
            with_reducible refine' op_add ?_
            refine op_fdiv (by omega) (log2_small (by omega)) ?_
            show PV.int _ = PV.int _
            rw [er, Int.toNat_natCast]
    · rintro _ ⟨a0, a1, a2, a3, a4, a5, rfl⟩
      with_reducible refine seq_nxt ?_
      with_reducible refine ex_cons ?_
      (with_reducible refine' ex_assign ?_ ?k_108 ?l_108 ?s_108); (case k_108 => rfl); (case l_108 => rfl); (case s_108 => rfl)
      with_reducible refine' ev_BinOp ?_
      with_reducible refine' ev_int ?_
      with_reducible refine' ev_BinOp ?_
      with_reducible refine' ev_Subscript ?_
      (with_reducible refine' ev_name ?x_113 ?p_113 ?_ ?d_113); (case x_113 => rfl); (case p_113 => rfl); (case d_113 => decide)
      with_reducible refine' ev_int ?_
      (with_reducible refine' op_item_lst ?a_116 ?b_116 ?x_116 ?_ ?s_116); (case a_116 => decide); (case b_116 => decide); (case x_116 => rfl); (case s_116 => intros; with_unfolding_all rfl)
      with_reducible refine' ev_int ?_
      (with_reducible refine' op_mod ?n_118 ?_); (case n_118 => decide)
      with_reducible refine' op_add ?_
      with_reducible refine seq_nxt ?_
      with_reducible refine ex_cons ?_
      (with_reducible refine' ex_assign ?_ ?k_128 ?l_128 ?s_128); (case k_128 => rfl); (case l_128 => rfl); (case s_128 => rfl)
      with_reducible refine' ev_BinOp ?_
      with_reducible refine' ev_BinOp ?_
      with_reducible refine' ev_Subscript ?_
      (with_reducible refine' ev_name ?x_132 ?p_132 ?_ ?d_132); (case x_132 => rfl); (case p_132 => rfl); (case d_132 => decide)
      with_reducible refine' ev_int ?_
      (with_reducible refine' op_item_lst ?a_135 ?b_135 ?x_135 ?_ ?s_135); (case a_135 => decide); (case b_135 => decide); (case x_135 => rfl); (case s_135 => intros; with_unfolding_all rfl)
      with_reducible refine' ev_int ?_
      (with_reducible refine' op_fdiv ?n_137 ?m_137 ?_); (case n_137 => decide); (case m_137 => decide)
      with_reducible refine' ev_BinOp ?_
      with_reducible refine' ev_int ?_
      (with_reducible refine' ev_name ?x_140 ?p_140 ?_ ?d_140); (case x_140 => rfl); (case p_140 => rfl); (case d_140 => decide)
      with_reducible refine' op_sub ?_
      obtain ⟨d', hd', ed⟩ := fmod_fit a4 4 (by decide)
      obtain ⟨d, hd, ed⟩ : ∃ d, (1 ≤ d ∧ d ≤ 4) ∧ 1 + a4.fmod 4 = ((d : Nat) : Int) := ⟨1 + d', by omega, by rw [show (4 : Int) = ((4 : Nat) : Int) from rfl, ed]; omega⟩
      rw [ed]
      refine op_mod (by omega) ?_
      obtain ⟨T, hT, eT⟩ := fmod_fit (a0.fdiv 6) (31 - d) (by omega)
      rw [show 31 - (d : Int) = ((31 - d : Nat) : Int) by omega, eT]
      with_reducible refine seq_nxt ?_
      with_reducible refine ex_cons ?_
      (with_reducible refine' ex_assign ?_ ?k_151 ?l_151 ?s_151); (case k_151 => rfl); (case l_151 => rfl); (case s_151 => rfl)
      with_reducible refine' ev_BinOp ?_
      with_reducible refine' ev_BinOp ?_
      with_reducible refine' ev_Subscript ?_
      (with_reducible refine' ev_name ?x_155 ?p_155 ?_ ?d_155); (case x_155 => rfl); (case p_155 => rfl); (case d_155 => decide)
      with_reducible refine' ev_int ?_
      (with_reducible refine' op_item_lst ?a_158 ?b_158 ?x_158 ?_ ?s_158); (case a_158 => decide); (case b_158 => decide); (case x_158 => rfl); (case s_158 => intros; with_unfolding_all rfl)
      with_reducible refine' ev_int ?_
      (with_reducible refine' op_fdiv ?n_160 ?m_160 ?_); (case n_160 => decide); (case m_160 => decide)
      with_reducible refine' ev_BinOp ?_
      with_reducible refine' ev_int ?_
      (with_reducible refine' ev_name ?x_163 ?p_163 ?_ ?d_163); (case x_163 => rfl); (case p_163 => rfl); (case d_163 => decide)
      with_reducible refine' op_sub ?_
      refine op_mod (by omega) ?_
      obtain ⟨U, hU, eU⟩ := fmod_fit (a2.fdiv 6) (31 - d) (by omega)
      rw [show 31 - (d : Int) = ((31 - d : Nat) : Int) by omega, eU]
      obtain ⟨f, hf, ef⟩ := fmod_fit a0 6 (by decide)
      obtain ⟨g, hg, eg⟩ := fmod_fit a2 6 (by decide)
      have ef' : a0.fmod 6 = (f : Int) := ef
      have eg' : a2.fmod 6 = (g : Int) := eg
      with_reducible refine seq_nxt ?_
      with_reducible refine ex_cons ?_
      (with_reducible refine' ex_assign ?_ ?k_174 ?l_174 ?s_174); (case k_174 => rfl); (case l_174 => rfl); (case s_174 => rfl)
      (with_reducible refine' ev_Call ?_ ?h_176); (case h_176 => with_unfolding_all rfl)
      (with_reducible refine' ev_global g_law_cell ?k_177 ?_ ?d_177); (case k_177 => rfl); (case d_177 => decide)
      (with_reducible refine' cw_def kp_law_cell ?_ ?h_178 ?p_178); (case h_178 => with_unfolding_all rfl); (case p_178 => with_unfolding_all rfl)
      (with_reducible refine' evl_cons ?_ ?h_180); (case h_180 => with_unfolding_all rfl)
      with_reducible refine' ev_BinOp ?_
      with_reducible refine' ev_Subscript ?_
      (with_reducible refine' ev_name ?x_183 ?p_183 ?_ ?d_183); (case x_183 => rfl); (case p_183 => rfl); (case d_183 => decide)
      with_reducible refine' ev_int ?_
      (with_reducible refine' op_item_lst ?a_186 ?b_186 ?x_186 ?_ ?s_186); (case a_186 => decide); (case b_186 => decide); (case x_186 => rfl); (case s_186 => intros; with_unfolding_all rfl)
      with_reducible refine' ev_int ?_
      (with_reducible refine' op_mod ?n_188 ?_); (case n_188 => decide)
      (with_reducible refine' evl_cons ?_ ?h_190); (case h_190 => with_unfolding_all rfl)
      with_reducible refine' ev_Subscript ?_
      (with_reducible refine' ev_name ?x_192 ?p_192 ?_ ?d_192); (case x_192 => rfl); (case p_192 => rfl); (case d_192 => decide)
      with_reducible refine' ev_int ?_
      (with_reducible refine' op_item_lst ?a_195 ?b_195 ?x_195 ?_ ?s_195); (case a_195 => decide); (case b_195 => decide); (case x_195 => rfl); (case s_195 => intros; with_unfolding_all rfl)
      (with_reducible refine' evl_cons ?_ ?h_197); (case h_197 => with_unfolding_all rfl)
      (with_reducible refine' ev_name ?x_198 ?p_198 ?_ ?d_198); (case x_198 => rfl); (case p_198 => rfl); (case d_198 => decide)
      with_reducible refine' evl_nil ?_
      rw [ef']
      refine cl_law_cell (by (refine Cx.Room.le (by assumption) ?_; decide)) hf (by omega) ?_
      intro P hP
      have hp := one_lt hf hP
      have hpf := one_f (f := f) hP
      generalize f * 2 ^ (2 * T) + P = p at hp hpf ⊢
      obtain ⟨O1, hO1e⟩ : ∃ O, ho T (f % 2) p = O := ⟨_, rfl⟩
      obtain ⟨X1, hX1e⟩ : ∃ O, hx T (f % 2) p = O := ⟨_, rfl⟩
      obtain ⟨Y1, hY1e⟩ : ∃ O, hy T (f % 2) p = O := ⟨_, rfl⟩
      have hO1 : O1 < 4 := hO1e ▸ ho_lt (o := f % 2) (by omega) T p
      have hX1 : X1 < 2 ^ T := hX1e ▸ hx_lt (o := f % 2) (by omega) T p
      have hY1 : Y1 < 2 ^ T := hY1e ▸ hy_lt (o := f % 2) (by omega) T p
      have hface : T = 0 → O1 = f % 2 := fun e => by subst e; exact hO1e.symm
      with_reducible refine seq_nxt ?_
      with_reducible refine ex_cons ?_
      (with_reducible refine' ex_assign ?_ ?k_230 ?l_230 ?s_230); (case k_230 => rfl); (case l_230 => rfl); (case s_230 => rfl)
      (with_reducible refine' ev_Call ?_ ?h_232); (case h_232 => with_unfolding_all rfl)
      (with_reducible refine' ev_global g_law_cell ?k_233 ?_ ?d_233); (case k_233 => rfl); (case d_233 => decide)
      (with_reducible refine' cw_def kp_law_cell ?_ ?h_234 ?p_234); (case h_234 => with_unfolding_all rfl); (case p_234 => with_unfolding_all rfl)
      (with_reducible refine' evl_cons ?_ ?h_236); (case h_236 => with_unfolding_all rfl)
      with_reducible refine' ev_BinOp ?_
      with_reducible refine' ev_Subscript ?_
      (with_reducible refine' ev_name ?x_239 ?p_239 ?_ ?d_239); (case x_239 => rfl); (case p_239 => rfl); (case d_239 => decide)
      with_reducible refine' ev_int ?_
      (with_reducible refine' op_item_lst ?a_242 ?b_242 ?x_242 ?_ ?s_242); (case a_242 => decide); (case b_242 => decide); (case x_242 => rfl); (case s_242 => intros; with_unfolding_all rfl)
      with_reducible refine' ev_int ?_
      (with_reducible refine' op_mod ?n_244 ?_); (case n_244 => decide)
      (with_reducible refine' evl_cons ?_ ?h_246); (case h_246 => with_unfolding_all rfl)
      with_reducible refine' ev_Subscript ?_
      (with_reducible refine' ev_name ?x_248 ?p_248 ?_ ?d_248); (case x_248 => rfl); (case p_248 => rfl); (case d_248 => decide)
      with_reducible refine' ev_int ?_
      (with_reducible refine' op_item_lst ?a_251 ?b_251 ?x_251 ?_ ?s_251); (case a_251 => decide); (case b_251 => decide); (case x_251 => rfl); (case s_251 => intros; with_unfolding_all rfl)
      (with_reducible refine' evl_cons ?_ ?h_253); (case h_253 => with_unfolding_all rfl)
      (with_reducible refine' ev_name ?x_254 ?p_254 ?_ ?d_254); (case x_254 => rfl); (case p_254 => rfl); (case d_254 => decide)
      with_reducible refine' evl_nil ?_
      rw [eg']
      refine cl_law_cell (by (refine Cx.Room.le (by assumption) ?_; decide)) hg (by omega) ?_
      intro R hR
      have hq := one_lt hg hR
      have hqf := one_f (f := g) hR
      generalize g * 2 ^ (2 * U) + R = q at hq hqf ⊢
      obtain ⟨O2, hO2e⟩ : ∃ O, ho U (g % 2) q = O := ⟨_, rfl⟩
      obtain ⟨X2, hX2e⟩ : ∃ O, hx U (g % 2) q = O := ⟨_, rfl⟩
      obtain ⟨Y2, hY2e⟩ : ∃ O, hy U (g % 2) q = O := ⟨_, rfl⟩
      have hO2 : O2 < 4 := hO2e ▸ ho_lt (o := g % 2) (by omega) U q
      have hX2 : X2 < 2 ^ U := hX2e ▸ hx_lt (o := g % 2) (by omega) U q
      have hY2 : Y2 < 2 ^ U := hY2e ▸ hy_lt (o := g % 2) (by omega) U q
      with_reducible refine seq_nxt ?_
      with_reducible refine ex_cons ?_
      (with_reducible refine' ex_assign ?_ ?k_286 ?l_286 ?s_286); (case k_286 => rfl); (case l_286 => rfl); (case s_286 => rfl)
      with_reducible refine' ev_List ?_
      (with_reducible refine' evl_cons ?_ ?h_289); (case h_289 => with_unfolding_all rfl)
      (with_reducible refine' ev_Method (pl := _) ?_ ?h_290); (case h_290 => with_unfolding_all rfl)
      (with_reducible refine' ev_name ?x_291 ?p_291 ?_ ?d_291); (case x_291 => rfl); (case p_291 => rfl); (case d_291 => decide)
      with_reducible refine' mth_cell0 m_id ?_
      (with_reducible refine' cl_id ?r_314 ?_); (case r_314 => (refine Cx.Room.le (by assumption) ?_; decide))
      (with_reducible refine' evl_cons ?_ ?h_316); (case h_316 => with_unfolding_all rfl)
      (with_reducible refine' ev_Method (pl := _) ?_ ?h_317); (case h_317 => with_unfolding_all rfl)
      (with_reducible refine' ev_name ?x_318 ?p_318 ?_ ?d_318); (case x_318 => rfl); (case p_318 => rfl); (case d_318 => decide)
      with_reducible refine' mth_cell0 m_id ?_
      (with_reducible refine' cl_id ?r_341 ?_); (case r_341 => (refine Cx.Room.le (by assumption) ?_; decide))
      with_reducible refine' evl_nil ?_
      (with_reducible refine' And.intro ?a_345 ?_); (case a_345 => exact Nat.le_of_ble_eq_true rfl)
      with_reducible refine seq_nxt ?_
      with_reducible refine ex_cons ?_
      (with_reducible refine' ex_assign ?_ ?k_354 ?l_354 ?s_354); (case k_354 => rfl); (case l_354 => rfl); (case s_354 => rfl)
      with_reducible refine' ev_BinOp ?_
      with_reducible refine' ev_int ?_
      with_reducible refine' ev_BinOp ?_
      with_reducible refine' ev_int ?_
      (with_reducible refine' ev_name ?x_359 ?p_359 ?_ ?d_359); (case x_359 => rfl); (case p_359 => rfl); (case d_359 => decide)
      (with_reducible refine' op_mul ?m_360 ?_); (case m_360 => first | exact mul_ok_l (by decide) | exact mul_ok_r (by decide))
      refine op_shl (by omega) (shl_fits (by decide) (by omega) (by omega)) ?_
      rw [whole_int]
      with_reducible refine seq_nxt ?_
      with_reducible refine ex_cons ?_
      (with_reducible refine' ex_assign ?_ ?k_370 ?l_370 ?s_370); (case k_370 => rfl); (case l_370 => rfl); (case s_370 => rfl)
      with_reducible refine' ev_BinOp ?_
      with_reducible refine' ev_BinOp ?_
      with_reducible refine' ev_int ?_
      (with_reducible refine' ev_name ?x_374 ?p_374 ?_ ?d_374); (case x_374 => rfl); (case p_374 => rfl); (case d_374 => decide)
      refine op_shl (by omega) (shl_fits (by decide) (by omega) (by omega)) ?_
      rw [pow_int]
      with_reducible refine' ev_int ?_
      with_reducible refine' op_sub ?_
      with_reducible refine seq_nxt ?_
      with_reducible refine ex_cons ?_
      (with_reducible refine' ex_assign ?_ ?k_386 ?l_386 ?s_386); (case k_386 => rfl); (case l_386 => rfl); (case s_386 => rfl)
      (with_reducible refine' ev_Method (pl := _) ?_ ?h_387); (case h_387 => with_unfolding_all rfl)
      (with_reducible refine' ev_name ?x_388 ?p_388 ?_ ?d_388); (case x_388 => rfl); (case p_388 => rfl); (case d_388 => decide)
      with_reducible refine' mth_cell0 m_to_face_ij_orientation ?_
      (with_reducible refine' cl_tf ?r_392 ?l_392 ?p_392 ?f_392 ?o_392 ?x_392 ?y_392 ?_); (case r_392 => (refine Cx.Room.le (by assumption) ?_; decide)); (case f_392 => assumption); (case l_392 => (first | assumption | omega)); (case p_392 => (first | assumption | omega)); (case o_392 => assumption); (case x_392 => assumption); (case y_392 => assumption)
      with_reducible refine seq_nxt ?_
      with_reducible refine ex_cons ?_
      (with_reducible refine' ex_assign ?_ ?k_401 ?l_401 ?s_401); (case k_401 => rfl); (case l_401 => rfl); (case s_401 => rfl)
      (with_reducible refine' ev_Method (pl := _) ?_ ?h_402); (case h_402 => with_unfolding_all rfl)
      (with_reducible refine' ev_name ?x_403 ?p_403 ?_ ?d_403); (case x_403 => rfl); (case p_403 => rfl); (case d_403 => decide)
      with_reducible refine' mth_cell0 m_to_face_ij_orientation ?_
      (with_reducible refine' cl_tf ?r_407 ?l_407 ?p_407 ?f_407 ?o_407 ?x_407 ?y_407 ?_); (case r_407 => (refine Cx.Room.le (by assumption) ?_; decide)); (case f_407 => assumption); (case l_407 => (first | assumption | omega)); (case p_407 => (first | assumption | omega)); (case o_407 => assumption); (case x_407 => assumption); (case y_407 => assumption)
      with_reducible refine seq_nxt ?_
      with_reducible refine ex_cons ?_
      with_reducible refine' ex_if_no ?_ ?_
      with_reducible refine' evt_or ?_
      with_reducible refine' evt_not ?_
      (with_reducible refine' evt_of ?_ ?h_423); (case h_423 => with_unfolding_all rfl)
      (with_reducible refine' ev_Call ?_ ?h_425); (case h_425 => with_unfolding_all rfl)
      (with_reducible refine' ev_global g_law_plain ?k_426 ?_ ?d_426); (case k_426 => rfl); (case d_426 => decide)
      (with_reducible refine' cw_def kp_law_plain ?_ ?h_427 ?p_427); (case h_427 => with_unfolding_all rfl); (case p_427 => with_unfolding_all rfl)
      (with_reducible refine' evl_cons ?_ ?h_429); (case h_429 => with_unfolding_all rfl)
      (with_reducible refine' ev_name ?x_430 ?p_430 ?_ ?d_430); (case x_430 => rfl); (case p_430 => rfl); (case d_430 => decide)
      with_reducible refine' evl_nil ?_
      (with_reducible refine' cl_law_plain ?r_436 ?_); (case r_436 => (refine Cx.Room.le (by assumption) ?_; decide))
      with_reducible refine' opt_bool ?_
      (with_reducible refine' ite_f ?h_441 ?_); (case h_441 => decide)
      with_reducible refine' evt_or ?_
      with_reducible refine' evt_not ?_
      (with_reducible refine' evt_of ?_ ?h_453); (case h_453 => with_unfolding_all rfl)
      (with_reducible refine' ev_Call ?_ ?h_455); (case h_455 => with_unfolding_all rfl)
      (with_reducible refine' ev_global g_law_plain ?k_456 ?_ ?d_456); (case k_456 => rfl); (case d_456 => decide)
      (with_reducible refine' cw_def kp_law_plain ?_ ?h_457 ?p_457); (case h_457 => with_unfolding_all rfl); (case p_457 => with_unfolding_all rfl)
      (with_reducible refine' evl_cons ?_ ?h_459); (case h_459 => with_unfolding_all rfl)
      (with_reducible refine' ev_name ?x_460 ?p_460 ?_ ?d_460); (case x_460 => rfl); (case p_460 => rfl); (case d_460 => decide)
      with_reducible refine' evl_nil ?_
      (with_reducible refine' cl_law_plain ?r_466 ?_); (case r_466 => (refine Cx.Room.le (by assumption) ?_; decide))
      with_reducible refine' opt_bool ?_
      (with_reducible refine' ite_f ?h_471 ?_); (case h_471 => decide)
      with_reducible refine' evt_or_nil ?_
      with_reducible exact Eq.refl false
      with_reducible refine seq_nxt ?_
      with_reducible refine ex_cons ?_
      with_reducible refine' ex_if_no ?_ ?_
      with_reducible refine' evt_or ?_
      (with_reducible refine' evt_Compare ?_ ?m_492); (case m_492 => with_unfolding_all rfl)
      with_reducible refine' ev_Subscript ?_
      (with_reducible refine' ev_name ?x_494 ?p_494 ?_ ?d_494); (case x_494 => rfl); (case p_494 => rfl); (case d_494 => decide)
      with_reducible refine' ev_int ?_
      (with_reducible refine' op_item_tup ?a_496 ?b_496 ?j_496 ?x_496 ?_ ?s_496); (case a_496 => decide); (case b_496 => decide); (case j_496 => rfl); (case x_496 => rfl); (case s_496 => intros; with_unfolding_all rfl)
      with_reducible refine' ev_BinOp ?_
      with_reducible refine' ev_Subscript ?_
      (with_reducible refine' ev_name ?x_499 ?p_499 ?_ ?d_499); (case x_499 => rfl); (case p_499 => rfl); (case d_499 => decide)
      with_reducible refine' ev_int ?_
      (with_reducible refine' op_item_lst ?a_502 ?b_502 ?x_502 ?_ ?s_502); (case a_502 => decide); (case b_502 => decide); (case x_502 => rfl); (case s_502 => intros; with_unfolding_all rfl)
      with_reducible refine' ev_int ?_
      (with_reducible refine' op_mod ?n_504 ?_); (case n_504 => decide)
      with_reducible refine' op_ne ?_
      with_reducible refine' opt_bool ?_
      rw [ef']
      refine ite_f (bne_self_eq_false _) ?_
      with_reducible refine' evt_or ?_
      (with_reducible refine' evt_Compare ?_ ?m_520); (case m_520 => with_unfolding_all rfl)
      with_reducible refine' ev_Subscript ?_
      (with_reducible refine' ev_name ?x_522 ?p_522 ?_ ?d_522); (case x_522 => rfl); (case p_522 => rfl); (case d_522 => decide)
      with_reducible refine' ev_int ?_
      (with_reducible refine' op_item_tup ?a_524 ?b_524 ?j_524 ?x_524 ?_ ?s_524); (case a_524 => decide); (case b_524 => decide); (case j_524 => rfl); (case x_524 => rfl); (case s_524 => intros; with_unfolding_all rfl)
      with_reducible refine' ev_BinOp ?_
      with_reducible refine' ev_Subscript ?_
      (with_reducible refine' ev_name ?x_527 ?p_527 ?_ ?d_527); (case x_527 => rfl); (case p_527 => rfl); (case d_527 => decide)
      with_reducible refine' ev_int ?_
      (with_reducible refine' op_item_lst ?a_530 ?b_530 ?x_530 ?_ ?s_530); (case a_530 => decide); (case b_530 => decide); (case x_530 => rfl); (case s_530 => intros; with_unfolding_all rfl)
      with_reducible refine' ev_int ?_
      (with_reducible refine' op_mod ?n_532 ?_); (case n_532 => decide)
      with_reducible refine' op_ne ?_
      with_reducible refine' opt_bool ?_
      rw [eg']
      with_reducible refine ite_f (bne_self_eq_false _) ?_
      with_reducible refine' evt_or_nil ?_
      with_reducible exact Eq.refl false
      with_reducible refine seq_nxt ?_
      with_reducible refine ex_cons ?_
      with_reducible refine' ex_if_no ?_ ?_
      with_reducible refine' evt_and ?_
      (with_reducible refine' evt_Compare ?_ ?m_559); (case m_559 => with_unfolding_all rfl)
      (with_reducible refine' ev_name ?x_560 ?p_560 ?_ ?d_560); (case x_560 => rfl); (case p_560 => rfl); (case d_560 => decide)
      with_reducible refine' ev_int ?_
      with_reducible refine' op_eq ?_
      with_reducible refine' opt_bool ?_
      · by_cases hT0 : T = 0
        · refine ite_t (by simpa using hT0) ?_
          with_reducible refine' evt_and ?_
          (with_reducible refine' evt_Compare ?_ ?m_575); (case m_575 => with_unfolding_all rfl)
          with_reducible refine' ev_Subscript ?_
          (with_reducible refine' ev_name ?x_577 ?p_577 ?_ ?d_577); (case x_577 => rfl); (case p_577 => rfl); (case d_577 => decide)
          with_reducible refine' ev_int ?_
          (with_reducible refine' op_item_tup ?a_579 ?b_579 ?j_579 ?x_579 ?_ ?s_579); (case a_579 => decide); (case b_579 => decide); (case j_579 => rfl); (case x_579 => rfl); (case s_579 => intros; with_unfolding_all rfl)
          with_reducible refine' ev_BinOp ?_
          with_reducible refine' ev_Subscript ?_
          (with_reducible refine' ev_name ?x_582 ?p_582 ?_ ?d_582); (case x_582 => rfl); (case p_582 => rfl); (case d_582 => decide)
          with_reducible refine' ev_int ?_
          (with_reducible refine' op_item_tup ?a_584 ?b_584 ?j_584 ?x_584 ?_ ?s_584); (case a_584 => decide); (case b_584 => decide); (case j_584 => rfl); (case x_584 => rfl); (case s_584 => intros; with_unfolding_all rfl)
          with_reducible refine' ev_int ?_
          (with_reducible refine' op_mod ?n_586 ?_); (case n_586 => decide)
          with_reducible refine' op_ne ?_
          with_reducible refine' opt_bool ?_
          rw [hface hT0, fmod_two]
          with_reducible refine ite_f (bne_self_eq_false _) ?_
          with_reducible exact Eq.refl false
        · refine ite_f (by simpa using hT0) ?_
          rfl
      have dpos : 0 < 2 ^ d := Nat.pow_pos (by decide)
      have hXs : X1 < 2 ^ 30 ∧ Y1 < 2 ^ 30 ∧ X2 < 2 ^ 30 ∧ Y2 < 2 ^ 30 := by
        have h1 : 2 ^ T ≤ 2 ^ 30 := Nat.pow_le_pow_right (by decide) (by omega)
        have h2 : 2 ^ U ≤ 2 ^ 30 := Nat.pow_le_pow_right (by decide) (by omega)
        omega
      with_reducible refine seq_nxt ?_
      with_reducible refine ex_cons ?_
      (with_reducible refine' ex_assign ?_ ?k_605 ?l_605 ?s_605); (case k_605 => rfl); (case l_605 => rfl); (case s_605 => rfl)
      with_reducible refine' ev_Tuple ?_
      (with_reducible refine' evl_cons ?_ ?h_608); (case h_608 => with_unfolding_all rfl)
      with_reducible refine' ev_BinOp ?_
      with_reducible refine' ev_BinOp ?_
      with_reducible refine' ev_Subscript ?_
      (with_reducible refine' ev_name ?x_612 ?p_612 ?_ ?d_612); (case x_612 => rfl); (case p_612 => rfl); (case d_612 => decide)
      with_reducible refine' ev_int ?_
      (with_reducible refine' op_item_tup ?a_614 ?b_614 ?j_614 ?x_614 ?_ ?s_614); (case a_614 => decide); (case b_614 => decide); (case j_614 => rfl); (case x_614 => rfl); (case s_614 => intros; with_unfolding_all rfl)
      with_reducible refine' ev_BinOp ?_
      with_reducible refine' ev_int ?_
      (with_reducible refine' ev_name ?x_617 ?p_617 ?_ ?d_617); (case x_617 => rfl); (case p_617 => rfl); (case d_617 => decide)
      with_reducible refine' op_sub ?_
      (with_reducible refine' op_shr ?n_619 ?_); (case n_619 => first | decide | omega)
      (with_reducible refine' ev_name ?x_620 ?p_620 ?_ ?d_620); (case x_620 => rfl); (case p_620 => rfl); (case d_620 => decide)
      rw [shr_sq (m := 30 - T) (by omega) mid_lt]
      refine op_shl (by omega) (shl_fits (by omega) (by omega) (by omega)) ?_
      rw [shl_nat]
      (with_reducible refine' evl_cons ?_ ?h_623); (case h_623 => with_unfolding_all rfl)
      with_reducible refine' ev_BinOp ?_
      with_reducible refine' ev_BinOp ?_
      with_reducible refine' ev_Subscript ?_
      (with_reducible refine' ev_name ?x_627 ?p_627 ?_ ?d_627); (case x_627 => rfl); (case p_627 => rfl); (case d_627 => decide)
      with_reducible refine' ev_int ?_
      (with_reducible refine' op_item_tup ?a_629 ?b_629 ?j_629 ?x_629 ?_ ?s_629); (case a_629 => decide); (case b_629 => decide); (case j_629 => rfl); (case x_629 => rfl); (case s_629 => intros; with_unfolding_all rfl)
      with_reducible refine' ev_BinOp ?_
      with_reducible refine' ev_int ?_
      (with_reducible refine' ev_name ?x_632 ?p_632 ?_ ?d_632); (case x_632 => rfl); (case p_632 => rfl); (case d_632 => decide)
      with_reducible refine' op_sub ?_
      (with_reducible refine' op_shr ?n_634 ?_); (case n_634 => first | decide | omega)
      (with_reducible refine' ev_name ?x_635 ?p_635 ?_ ?d_635); (case x_635 => rfl); (case p_635 => rfl); (case d_635 => decide)
      rw [shr_sq (m := 30 - T) (by omega) mid_lt]
      refine op_shl (by omega) (shl_fits (by omega) (by omega) (by omega)) ?_
      rw [shl_nat]
      with_reducible refine' evl_nil ?_
      (with_reducible refine' And.intro ?a_640 ?_); (case a_640 => exact Nat.le_of_ble_eq_true rfl)
      with_reducible refine seq_nxt ?_
      with_reducible refine ex_cons ?_
      (with_reducible refine' ex_assign ?_ ?k_649 ?l_649 ?s_649); (case k_649 => rfl); (case l_649 => rfl); (case s_649 => rfl)
      with_reducible refine' ev_Tuple ?_
      (with_reducible refine' evl_cons ?_ ?h_652); (case h_652 => with_unfolding_all rfl)
      with_reducible refine' ev_BinOp ?_
      with_reducible refine' ev_BinOp ?_
      with_reducible refine' ev_Subscript ?_
      (with_reducible refine' ev_name ?x_656 ?p_656 ?_ ?d_656); (case x_656 => rfl); (case p_656 => rfl); (case d_656 => decide)
      with_reducible refine' ev_int ?_
      (with_reducible refine' op_item_tup ?a_658 ?b_658 ?j_658 ?x_658 ?_ ?s_658); (case a_658 => decide); (case b_658 => decide); (case j_658 => rfl); (case x_658 => rfl); (case s_658 => intros; with_unfolding_all rfl)
      with_reducible refine' ev_BinOp ?_
      with_reducible refine' ev_int ?_
      (with_reducible refine' ev_name ?x_661 ?p_661 ?_ ?d_661); (case x_661 => rfl); (case p_661 => rfl); (case d_661 => decide)
      with_reducible refine' op_sub ?_
      (with_reducible refine' op_shr ?n_663 ?_); (case n_663 => first | decide | omega)
      (with_reducible refine' ev_name ?x_664 ?p_664 ?_ ?d_664); (case x_664 => rfl); (case p_664 => rfl); (case d_664 => decide)
      rw [shr_sq (m := 30 - U) (by omega) mid_lt]
      refine op_shl (by omega) (shl_fits (by omega) (by omega) (by omega)) ?_
      rw [shl_nat]
      (with_reducible refine' evl_cons ?_ ?h_667); (case h_667 => with_unfolding_all rfl)
      with_reducible refine' ev_BinOp ?_
      with_reducible refine' ev_BinOp ?_
      with_reducible refine' ev_Subscript ?_
      (with_reducible refine' ev_name ?x_671 ?p_671 ?_ ?d_671); (case x_671 => rfl); (case p_671 => rfl); (case d_671 => decide)
      with_reducible refine' ev_int ?_
      (with_reducible refine' op_item_tup ?a_673 ?b_673 ?j_673 ?x_673 ?_ ?s_673); (case a_673 => decide); (case b_673 => decide); (case j_673 => rfl); (case x_673 => rfl); (case s_673 => intros; with_unfolding_all rfl)
      with_reducible refine' ev_BinOp ?_
      with_reducible refine' ev_int ?_
      (with_reducible refine' ev_name ?x_676 ?p_676 ?_ ?d_676); (case x_676 => rfl); (case p_676 => rfl); (case d_676 => decide)
      with_reducible refine' op_sub ?_
      (with_reducible refine' op_shr ?n_678 ?_); (case n_678 => first | decide | omega)
      (with_reducible refine' ev_name ?x_679 ?p_679 ?_ ?d_679); (case x_679 => rfl); (case p_679 => rfl); (case d_679 => decide)
      rw [shr_sq (m := 30 - U) (by omega) mid_lt]
      refine op_shl (by omega) (shl_fits (by omega) (by omega) (by omega)) ?_
      rw [shl_nat]
      with_reducible refine' evl_nil ?_
      (with_reducible refine' And.intro ?a_684 ?_); (case a_684 => exact Nat.le_of_ble_eq_true rfl)
      with_reducible refine seq_nxt ?_
      with_reducible refine ex_cons ?_
      (with_reducible refine' ex_assign ?_ ?k_693 ?l_693 ?s_693); (case k_693 => rfl); (case l_693 => rfl); (case s_693 => rfl)
      with_reducible refine' ev_BinOp ?_
      with_reducible refine' ev_Subscript ?_
      (with_reducible refine' ev_name ?x_696 ?p_696 ?_ ?d_696); (case x_696 => rfl); (case p_696 => rfl); (case d_696 => decide)
      with_reducible refine' ev_int ?_
      (with_reducible refine' op_item_tup ?a_698 ?b_698 ?j_698 ?x_698 ?_ ?s_698); (case a_698 => decide); (case b_698 => decide); (case j_698 => rfl); (case x_698 => rfl); (case s_698 => intros; with_unfolding_all rfl)
      with_reducible refine' ev_Subscript ?_
      (with_reducible refine' ev_name ?x_700 ?p_700 ?_ ?d_700); (case x_700 => rfl); (case p_700 => rfl); (case d_700 => decide)
      with_reducible refine' ev_int ?_
      (with_reducible refine' op_item_tup ?a_702 ?b_702 ?j_702 ?x_702 ?_ ?s_702); (case a_702 => decide); (case b_702 => decide); (case j_702 => rfl); (case x_702 => rfl); (case s_702 => intros; with_unfolding_all rfl)
      with_reducible refine' op_xor ?_
      with_reducible refine seq_nxt ?_
      with_reducible refine ex_cons ?_
      (with_reducible refine' ex_assign ?_ ?k_712 ?l_712 ?s_712); (case k_712 => rfl); (case l_712 => rfl); (case s_712 => rfl)
      (with_reducible refine' ev_Method (pl := _) ?_ ?h_713); (case h_713 => with_unfolding_all rfl)
      (with_reducible refine' ev_name ?x_714 ?p_714 ?_ ?d_714); (case x_714 => rfl); (case p_714 => rfl); (case d_714 => decide)
      (with_reducible refine' mth_cell m_child_begin ?_ ?h_716 ?p_716); (case h_716 => with_unfolding_all rfl); (case p_716 => with_unfolding_all rfl)
      (with_reducible refine' evl_cons ?_ ?h_718); (case h_718 => with_unfolding_all rfl)
      with_reducible refine' ev_BinOp ?_
      (with_reducible refine' ev_name ?x_720 ?p_720 ?_ ?d_720); (case x_720 => rfl); (case p_720 => rfl); (case d_720 => decide)
      (with_reducible refine' ev_name ?x_721 ?p_721 ?_ ?d_721); (case x_721 => rfl); (case p_721 => rfl); (case d_721 => decide)
      with_reducible refine' op_add ?_
      with_reducible refine' evl_nil ?_
      have hw := whole_lt (d := d) hp
      rw [addN]
      refine cl_child_begin (by (refine Cx.Room.le (by assumption) ?_; decide)) (by omega) (by omega) hp ?_
      rw [show T + d - T = d by omega, pow4]
      with_reducible refine seq_nxt ?_
      with_reducible refine ex_cons ?_
      (with_reducible refine' ex_assign ?_ ?k_754 ?l_754 ?s_754); (case k_754 => rfl); (case l_754 => rfl); (case s_754 => rfl)
      (with_reducible refine' ev_Method (pl := _) ?_ ?h_755); (case h_755 => with_unfolding_all rfl)
      (with_reducible refine' ev_name ?x_756 ?p_756 ?_ ?d_756); (case x_756 => rfl); (case p_756 => rfl); (case d_756 => decide)
      (with_reducible refine' mth_cell m_child_end ?_ ?h_758 ?p_758); (case h_758 => with_unfolding_all rfl); (case p_758 => with_unfolding_all rfl)
      (with_reducible refine' evl_cons ?_ ?h_760); (case h_760 => with_unfolding_all rfl)
      with_reducible refine' ev_BinOp ?_
      (with_reducible refine' ev_name ?x_762 ?p_762 ?_ ?d_762); (case x_762 => rfl); (case p_762 => rfl); (case d_762 => decide)
      (with_reducible refine' ev_name ?x_763 ?p_763 ?_ ?d_763); (case x_763 => rfl); (case p_763 => rfl); (case d_763 => decide)
      with_reducible refine' op_add ?_
      with_reducible refine' evl_nil ?_
      rw [addN]
      refine cl_child_end (by (refine Cx.Room.le (by assumption) ?_; decide)) (by omega) (by omega) hp ?_
      rw [show T + d - T = d by omega, pow4]
      with_reducible refine seq_nxt ?_
      with_reducible refine ex_cons ?_
      with_reducible refine' ex_if_no ?_ ?_
      (with_reducible refine' evt_Compare ?_ ?m_797); (case m_797 => with_unfolding_all rfl)
      (with_reducible refine' ev_Method (pl := _) ?_ ?h_798); (case h_798 => with_unfolding_all rfl)
      (with_reducible refine' ev_name ?x_799 ?p_799 ?_ ?d_799); (case x_799 => rfl); (case p_799 => rfl); (case d_799 => decide)
      (with_reducible refine' mth_cell m_advance ?_ ?h_801 ?p_801); (case h_801 => with_unfolding_all rfl); (case p_801 => with_unfolding_all rfl)
      (with_reducible refine' evl_cons ?_ ?h_803); (case h_803 => with_unfolding_all rfl)
      (with_reducible refine' ev_name ?x_804 ?p_804 ?_ ?d_804); (case x_804 => rfl); (case p_804 => rfl); (case d_804 => decide)
      with_reducible refine' evl_nil ?_
      refine cl_advance (q := (p + 1) * 4 ^ d) (by (refine Cx.Room.le (by assumption) ?_; decide)) (by omega) (Nat.le_trans (Nat.le_add_right _ _) hw.1) (hw.2 ▸ hw.1) (by rw [hw.2]; omega) (pow4 d ▸ many_small hd.2) ?_
      (with_reducible refine' ev_name ?x_828 ?p_828 ?_ ?d_828); (case x_828 => rfl); (case p_828 => rfl); (case d_828 => decide)
      (with_reducible refine' op_ne_cell ?r_830 cmp_NotEq ?_); (case r_830 => (refine Cx.Room.le (by assumption) ?_; decide))
      (with_reducible refine' cl_ne ?r_839 ?_); (case r_839 => (refine Cx.Room.le (by assumption) ?_; decide))
      (with_reducible refine' And.intro ?a_841 ?_); (case a_841 => exact resBool_bool)
      with_reducible refine' opt_bool ?_
      with_reducible exact not_beq_self
      with_reducible refine seq_nxt ?_
      with_reducible refine ex_cons ?_
      (with_reducible refine' ex_assign ?_ ?k_855 ?l_855 ?s_855); (case k_855 => rfl); (case l_855 => rfl); (case s_855 => rfl)
      with_reducible refine' ev_BinOp ?_
      with_reducible refine' ev_Subscript ?_
      (with_reducible refine' ev_name ?x_858 ?p_858 ?_ ?d_858); (case x_858 => rfl); (case p_858 => rfl); (case d_858 => decide)
      with_reducible refine' ev_int ?_
      (with_reducible refine' op_item_lst ?a_861 ?b_861 ?x_861 ?_ ?s_861); (case a_861 => decide); (case b_861 => decide); (case x_861 => rfl); (case s_861 => intros; with_unfolding_all rfl)
      with_reducible refine' ev_BinOp ?_
      (with_reducible refine' ev_name ?x_863 ?p_863 ?_ ?d_863); (case x_863 => rfl); (case p_863 => rfl); (case d_863 => decide)
      with_reducible refine' ev_int ?_
      with_reducible refine' op_sub ?_
      have hm0 := many_pos hd.1
      refine op_mod (many_ne hd.1) ?_
      obtain ⟨m, hm, em⟩ := fmod_fit a5 (4 ^ d - 1) (by omega)
      rw [many_sub hd.1, em]
      with_reducible refine seq_nxt ?_
      with_reducible refine ex_cons ?_
      (with_reducible refine' ex_assign_nil ?k_874 ?l_874 ?_ ?s_874); (case k_874 => rfl); (case l_874 => rfl); (case s_874 => rfl)
      with_reducible refine seq_nxt ?_
      with_reducible refine ex_cons ?_
      (with_reducible refine' ex_for ?_ ?t_885 ?s_885); (case t_885 => intro _ _; rfl); (case s_885 => intro _; rfl)
      with_reducible refine' ev_Tuple ?_
      (with_reducible refine' evl_cons ?_ ?h_888); (case h_888 => with_unfolding_all rfl)
      (with_reducible refine' ev_name ?x_889 ?p_889 ?_ ?d_889); (case x_889 => rfl); (case p_889 => rfl); (case d_889 => decide)
      (with_reducible refine' evl_cons ?_ ?h_891); (case h_891 => with_unfolding_all rfl)
      with_reducible refine' ev_BinOp ?_
      (with_reducible refine' ev_name ?x_893 ?p_893 ?_ ?d_893); (case x_893 => rfl); (case p_893 => rfl); (case d_893 => decide)
      with_reducible refine' ev_int ?_
      with_reducible refine' op_add ?_
      with_reducible refine' evl_nil ?_
      (with_reducible refine' And.intro ?a_899 ?_); (case a_899 => exact Nat.le_of_ble_eq_true rfl)
      refine ⟨_, .tup, ?_⟩
      rw [xor_nat]
      refine forL_list (fun i σ => SubL (base T U d p q O1 X1 Y1 O2 X2 Y2 f g ((List.range i).map fun k => pt d O1 (m + k))) σ) rfl rfl 2 ?_ _ 0 _ rfl ?_ ⟨rfl, rfl, rfl, rfl, rfl, rfl, rfl, rfl, rfl, rfl, rfl, rfl, rfl, rfl, rfl, trivial⟩
      · intro σ hS
        rw [show (List.range 2).map (fun k => pt d O1 (m + k)) = [.tup [.int (hx d O1 m : Nat), .int (hy d O1 m : Nat)], .tup [.int (hx d O1 (m + 1) : Nat), .int (hy d O1 (m + 1) : Nat)]] from rfl] at hS
        refine seq_nxt (ex_sub hS.get (ex_freeze (y := "road") rfl rfl ?_))
        have hroad := side hO1 (n := d) (q := m) (by omega)
        with_reducible refine ex_cons ?_
        with_reducible refine' ex_if_no ?_ ?_
        (with_reducible refine' evt_Compare ?_ ?m_908); (case m_908 => with_unfolding_all rfl)
        with_reducible refine' ev_BinOp ?_
        (with_reducible refine' ev_Call ?_ ?h_911); (case h_911 => with_unfolding_all rfl)
        (with_reducible refine' ev_builtin n_abs bb_abs ?k_912 ?_ ?n_912 ?d_912); (case k_912 => rfl); (case n_912 => decide); (case d_912 => decide)
        (with_reducible refine' cw_builtin ?_ ?h_914 ?p_914); (case h_914 => with_unfolding_all rfl); (case p_914 => with_unfolding_all rfl)
        (with_reducible refine' evl_cons ?_ ?h_916); (case h_916 => with_unfolding_all rfl)
        with_reducible refine' ev_BinOp ?_
        with_reducible refine' ev_Subscript ?_
        with_reducible refine' ev_Subscript ?_
        (with_reducible refine' ev_name ?x_920 ?p_920 ?_ ?d_920); (case x_920 => rfl); (case p_920 => rfl); (case d_920 => decide)
        with_reducible refine' ev_int ?_
        (with_reducible refine' op_item_lst ?a_923 ?b_923 ?x_923 ?_ ?s_923); (case a_923 => decide); (case b_923 => decide); (case x_923 => rfl); (case s_923 => intros; with_unfolding_all rfl)
        with_reducible refine' ev_int ?_
        (with_reducible refine' op_item_tup ?a_925 ?b_925 ?j_925 ?x_925 ?_ ?s_925); (case a_925 => decide); (case b_925 => decide); (case j_925 => rfl); (case x_925 => rfl); (case s_925 => intros; with_unfolding_all rfl)
        with_reducible refine' ev_Subscript ?_
        with_reducible refine' ev_Subscript ?_
        (with_reducible refine' ev_name ?x_928 ?p_928 ?_ ?d_928); (case x_928 => rfl); (case p_928 => rfl); (case d_928 => decide)
        with_reducible refine' ev_int ?_
        (with_reducible refine' op_item_lst ?a_931 ?b_931 ?x_931 ?_ ?s_931); (case a_931 => decide); (case b_931 => decide); (case x_931 => rfl); (case s_931 => intros; with_unfolding_all rfl)
        with_reducible refine' ev_int ?_
        (with_reducible refine' op_item_tup ?a_933 ?b_933 ?j_933 ?x_933 ?_ ?s_933); (case a_933 => decide); (case b_933 => decide); (case j_933 => rfl); (case x_933 => rfl); (case s_933 => intros; with_unfolding_all rfl)
        with_reducible refine' op_sub ?_
        with_reducible refine' evl_nil ?_
        with_reducible refine' b_abs ?_
        (with_reducible refine' ev_Call ?_ ?h_945); (case h_945 => with_unfolding_all rfl)
        (with_reducible refine' ev_builtin n_abs bb_abs ?k_946 ?_ ?n_946 ?d_946); (case k_946 => rfl); (case n_946 => decide); (case d_946 => decide)
        (with_reducible refine' cw_builtin ?_ ?h_948 ?p_948); (case h_948 => with_unfolding_all rfl); (case p_948 => with_unfolding_all rfl)
        (with_reducible refine' evl_cons ?_ ?h_950); (case h_950 => with_unfolding_all rfl)
        with_reducible refine' ev_BinOp ?_
        with_reducible refine' ev_Subscript ?_
        with_reducible refine' ev_Subscript ?_
        (with_reducible refine' ev_name ?x_954 ?p_954 ?_ ?d_954); (case x_954 => rfl); (case p_954 => rfl); (case d_954 => decide)
        with_reducible refine' ev_int ?_
        (with_reducible refine' op_item_lst ?a_957 ?b_957 ?x_957 ?_ ?s_957); (case a_957 => decide); (case b_957 => decide); (case x_957 => rfl); (case s_957 => intros; with_unfolding_all rfl)
        with_reducible refine' ev_int ?_
        (with_reducible refine' op_item_tup ?a_959 ?b_959 ?j_959 ?x_959 ?_ ?s_959); (case a_959 => decide); (case b_959 => decide); (case j_959 => rfl); (case x_959 => rfl); (case s_959 => intros; with_unfolding_all rfl)
        with_reducible refine' ev_Subscript ?_
        with_reducible refine' ev_Subscript ?_
        (with_reducible refine' ev_name ?x_962 ?p_962 ?_ ?d_962); (case x_962 => rfl); (case p_962 => rfl); (case d_962 => decide)
        with_reducible refine' ev_int ?_
        (with_reducible refine' op_item_lst ?a_965 ?b_965 ?x_965 ?_ ?s_965); (case a_965 => decide); (case b_965 => decide); (case x_965 => rfl); (case s_965 => intros; with_unfolding_all rfl)
        with_reducible refine' ev_int ?_
        (with_reducible refine' op_item_tup ?a_967 ?b_967 ?j_967 ?x_967 ?_ ?s_967); (case a_967 => decide); (case b_967 => decide); (case j_967 => rfl); (case x_967 => rfl); (case s_967 => intros; with_unfolding_all rfl)
        with_reducible refine' op_sub ?_
        with_reducible refine' evl_nil ?_
        with_reducible refine' b_abs ?_
        with_reducible refine' op_add ?_
        with_reducible refine' ev_int ?_
        with_reducible refine' op_ne ?_
        with_reducible refine' opt_bool ?_
        · rw [road_int, hroad]; rfl
        with_reducible refine seq_nxt ?_
        with_reducible refine ex_cons ?_
        with_reducible refine' ex_return ?_
        (with_reducible refine' ev_Compare ?_ ?m_989); (case m_989 => with_unfolding_all rfl)
        with_reducible refine' ev_List ?_
        (with_reducible refine' evl_cons ?_ ?h_992); (case h_992 => with_unfolding_all rfl)
        (with_reducible refine' ev_Method (pl := _) ?_ ?h_993); (case h_993 => with_unfolding_all rfl)
        (with_reducible refine' ev_name ?x_994 ?p_994 ?_ ?d_994); (case x_994 => rfl); (case p_994 => rfl); (case d_994 => decide)
        with_reducible refine' mth_cell0 m_id ?_
        (with_reducible refine' cl_id ?r_1017 ?_); (case r_1017 => (refine Cx.Room.le (by assumption) ?_; decide))
        (with_reducible refine' evl_cons ?_ ?h_1019); (case h_1019 => with_unfolding_all rfl)
        (with_reducible refine' ev_Method (pl := _) ?_ ?h_1020); (case h_1020 => with_unfolding_all rfl)
        (with_reducible refine' ev_name ?x_1021 ?p_1021 ?_ ?d_1021); (case x_1021 => rfl); (case p_1021 => rfl); (case d_1021 => decide)
        with_reducible refine' mth_cell0 m_id ?_
        (with_reducible refine' cl_id ?r_1044 ?_); (case r_1044 => (refine Cx.Room.le (by assumption) ?_; decide))
        with_reducible refine' evl_nil ?_
        (with_reducible refine' And.intro ?a_1048 ?_); (case a_1048 => exact Nat.le_of_ble_eq_true rfl)
        (with_reducible refine' ev_name ?x_1049 ?p_1049 ?_ ?d_1049); (case x_1049 => rfl); (case p_1049 => rfl); (case d_1049 => decide)
        refine op_eq_same rfl (by (refine Cx.Room.le (by assumption) ?_; decide)) rfl rfl ?_
        with_reducible refine seq_ret ?_
        rfl
      · intro i x σ hxe hS
        obtain ⟨hi, rfl⟩ := range_two hxe
        clear hxe
        simp only [Nat.zero_add] at hS ⊢
        refine ex_sub (sub_upd hS.get) ?_
        have hn : m + i < 4 ^ d := by omega
        have hrs : (List.range (i + 1)).map (fun k => pt d O1 (m + k)) = (List.range i).map (fun k => pt d O1 (m + k)) ++ [pt d O1 (m + i)] := by rw [List.range_succ, List.map_append]; rfl
        rw [hrs]
        have hlr : ((List.range i).map (fun k => pt d O1 (m + k))).length ≤ 1000 := by rw [List.length_map, List.length_range]; omega
        generalize (List.range i).map (fun k => pt d O1 (m + k)) = rd at hlr ⊢
        generalize m + i = n at hn ⊢
        have hmax : 4 ^ d ≤ 4 ^ 4 := Nat.pow_le_pow_right (by decide) hd.2
        have hw1 := hw.1
        with_reducible refine ex_cons ?_
        (with_reducible refine' ex_assign ?_ ?k_1065 ?l_1065 ?s_1065); (case k_1065 => rfl); (case l_1065 => rfl); (case s_1065 => rfl)
        (with_reducible refine' ev_Method (pl := _) ?_ ?h_1066); (case h_1066 => with_unfolding_all rfl)
        (with_reducible refine' ev_name ?x_1067 ?p_1067 ?_ ?d_1067); (case x_1067 => rfl); (case p_1067 => rfl); (case d_1067 => decide)
        (with_reducible refine' mth_cell m_advance ?_ ?h_1069 ?p_1069); (case h_1069 => with_unfolding_all rfl); (case p_1069 => with_unfolding_all rfl)
        (with_reducible refine' evl_cons ?_ ?h_1071); (case h_1071 => with_unfolding_all rfl)
        (with_reducible refine' ev_name ?x_1072 ?p_1072 ?_ ?d_1072); (case x_1072 => rfl); (case p_1072 => rfl); (case d_1072 => decide)
        with_reducible refine' evl_nil ?_
        refine cl_advance (q := p * 4 ^ d + n) (by (refine Cx.Room.le (by assumption) ?_; decide)) (by omega) (by omega) (by omega) (by omega) (by omega) ?_
        with_reducible refine seq_nxt ?_
        with_reducible refine ex_cons ?_
        (with_reducible refine' ex_assign ?_ ?k_1104 ?l_1104 ?s_1104); (case k_1104 => rfl); (case l_1104 => rfl); (case s_1104 => rfl)
        (with_reducible refine' ev_Method (pl := _) ?_ ?h_1105); (case h_1105 => with_unfolding_all rfl)
        (with_reducible refine' ev_name ?x_1106 ?p_1106 ?_ ?d_1106); (case x_1106 => rfl); (case p_1106 => rfl); (case d_1106 => decide)
        (with_reducible refine' mth_cell m_advance ?_ ?h_1108 ?p_1108); (case h_1108 => with_unfolding_all rfl); (case p_1108 => with_unfolding_all rfl)
        (with_reducible refine' evl_cons ?_ ?h_1110); (case h_1110 => with_unfolding_all rfl)
        with_reducible refine' ev_BinOp ?_
        with_reducible refine' ev_UnaryOp ?_
        with_reducible refine' ev_int ?_
        with_reducible refine' op_neg ?_
        (with_reducible refine' ev_name ?x_1115 ?p_1115 ?_ ?d_1115); (case x_1115 => rfl); (case p_1115 => rfl); (case d_1115 => decide)
        with_reducible refine' op_sub ?_
        with_reducible refine' evl_nil ?_
        refine cl_advance (q := p * 4 ^ d + (4 ^ d - 1 - n)) (by (refine Cx.Room.le (by assumption) ?_; decide)) (by omega) (by rw [hw.2]; exact hw.1) (by omega) (by rw [hw.2]; omega) (by omega) ?_
        with_reducible refine seq_nxt ?_
        with_reducible refine ex_cons ?_
        (with_reducible refine' ex_assign ?_ ?k_1148 ?l_1148 ?s_1148); (case k_1148 => rfl); (case l_1148 => rfl); (case s_1148 => rfl)
        (with_reducible refine' ev_name ?x_1149 ?p_1149 ?_ ?d_1149); (case x_1149 => rfl); (case p_1149 => rfl); (case d_1149 => decide)
        with_reducible refine seq_nxt ?_
        with_reducible refine ex_cons ?_
        (with_reducible refine' ex_for ?_ ?t_1160 ?s_1160); (case t_1160 => intro _ _; rfl); (case s_1160 => intro _; rfl)
        (with_reducible refine' ev_Call ?_ ?h_1162); (case h_1162 => with_unfolding_all rfl)
        (with_reducible refine' ev_builtin n_range bb_range ?k_1163 ?_ ?n_1163 ?d_1163); (case k_1163 => rfl); (case n_1163 => decide); (case d_1163 => decide)
        (with_reducible refine' cw_type ?_ ?h_1166 ?p_1166); (case h_1166 => with_unfolding_all rfl); (case p_1166 => with_unfolding_all rfl)
        (with_reducible refine' evl_cons ?_ ?h_1168); (case h_1168 => with_unfolding_all rfl)
        (with_reducible refine' ev_name ?x_1169 ?p_1169 ?_ ?d_1169); (case x_1169 => rfl); (case p_1169 => rfl); (case d_1169 => decide)
        with_reducible refine' evl_nil ?_
        with_reducible refine' b_range1 ?_
        refine ⟨rngItems 0 1 d, .rng (n := d) (rng_d d hd).1 (rng_d d hd).2 rfl, ?_⟩
        refine forL_list (fun k σ => SubL (("twin", .cell (gid (U + k) (q * 4 ^ k + n / 4 ^ (d - k)))) :: ("n", .int (n : Int)) :: ("cell", .cell (gid (T + d) (p * 4 ^ d + n))) :: ("back", .cell (gid (T + d) (p * 4 ^ d + (4 ^ d - 1 - n)))) :: base T U d p q O1 X1 Y1 O2 X2 Y2 f g rd) σ) rfl rfl d ?_ _ 0 _ (by simp [rngItems]) ?_ ?_
        · intro σ hS
          rw [Nat.sub_self, Nat.pow_zero, Nat.div_one] at hS
          refine seq_nxt (ex_sub hS.get ?_)
          have hn' : 4 ^ d - 1 - n < 4 ^ d := by omega
          have hpn := twin_lt hp hn
          have hpb := twin_lt hp hn'
          have hqn := twin_lt hq hn
          with_reducible refine ex_cons ?_
          (with_reducible refine' ex_assign ?_ ?k_1181 ?l_1181 ?s_1181); (case k_1181 => rfl); (case l_1181 => rfl); (case s_1181 => rfl)
          with_reducible refine' ev_Tuple ?_
          (with_reducible refine' evl_cons ?_ ?h_1184); (case h_1184 => with_unfolding_all rfl)
          (with_reducible refine' ev_Method (pl := _) ?_ ?h_1185); (case h_1185 => with_unfolding_all rfl)
          (with_reducible refine' ev_name ?x_1186 ?p_1186 ?_ ?d_1186); (case x_1186 => rfl); (case p_1186 => rfl); (case d_1186 => decide)
          with_reducible refine' mth_cell0 m_level ?_
          (with_reducible refine' cl_level ?r_1202 ?l_1202 ?_); (case r_1202 => (refine Cx.Room.le (by assumption) ?_; decide)); (case l_1202 => (first | assumption | omega))
          (with_reducible refine' evl_cons ?_ ?h_1204); (case h_1204 => with_unfolding_all rfl)
          (with_reducible refine' ev_Method (pl := _) ?_ ?h_1205); (case h_1205 => with_unfolding_all rfl)
          (with_reducible refine' ev_name ?x_1206 ?p_1206 ?_ ?d_1206); (case x_1206 => rfl); (case p_1206 => rfl); (case d_1206 => decide)
          with_reducible refine' mth_cell0 m_level ?_
          (with_reducible refine' cl_level ?r_1222 ?l_1222 ?_); (case r_1222 => (refine Cx.Room.le (by assumption) ?_; decide)); (case l_1222 => (first | assumption | omega))
          (with_reducible refine' evl_cons ?_ ?h_1224); (case h_1224 => with_unfolding_all rfl)
          (with_reducible refine' ev_Method (pl := _) ?_ ?h_1225); (case h_1225 => with_unfolding_all rfl)
          (with_reducible refine' ev_name ?x_1226 ?p_1226 ?_ ?d_1226); (case x_1226 => rfl); (case p_1226 => rfl); (case d_1226 => decide)
          with_reducible refine' mth_cell0 m_level ?_
          (with_reducible refine' cl_level ?r_1242 ?l_1242 ?_); (case r_1242 => (refine Cx.Room.le (by assumption) ?_; decide)); (case l_1242 => (first | assumption | omega))
          (with_reducible refine' evl_cons ?_ ?h_1244); (case h_1244 => with_unfolding_all rfl)
          (with_reducible refine' ev_Method (pl := _) ?_ ?h_1245); (case h_1245 => with_unfolding_all rfl)
          (with_reducible refine' ev_name ?x_1246 ?p_1246 ?_ ?d_1246); (case x_1246 => rfl); (case p_1246 => rfl); (case d_1246 => decide)
          with_reducible refine' mth_cell0 m_level ?_
          (with_reducible refine' cl_level ?r_1262 ?l_1262 ?_); (case r_1262 => (refine Cx.Room.le (by assumption) ?_; decide)); (case l_1262 => (first | assumption | omega))
          with_reducible refine' evl_nil ?_
          (with_reducible refine' And.intro ?a_1266 ?_); (case a_1266 => exact Nat.le_of_ble_eq_true rfl)
          with_reducible refine seq_nxt ?_
          with_reducible refine ex_cons ?_
          with_reducible refine' ex_if_no ?_ ?_
          with_reducible refine' evt_or ?_
          with_reducible refine' evt_not ?_
          (with_reducible refine' evt_of ?_ ?h_1282); (case h_1282 => with_unfolding_all rfl)
          (with_reducible refine' ev_Call ?_ ?h_1284); (case h_1284 => with_unfolding_all rfl)
          (with_reducible refine' ev_global g_law_plain ?k_1285 ?_ ?d_1285); (case k_1285 => rfl); (case d_1285 => decide)
          (with_reducible refine' cw_def kp_law_plain ?_ ?h_1286 ?p_1286); (case h_1286 => with_unfolding_all rfl); (case p_1286 => with_unfolding_all rfl)
          (with_reducible refine' evl_cons ?_ ?h_1288); (case h_1288 => with_unfolding_all rfl)
          (with_reducible refine' ev_name ?x_1289 ?p_1289 ?_ ?d_1289); (case x_1289 => rfl); (case p_1289 => rfl); (case d_1289 => decide)
          with_reducible refine' evl_nil ?_
          (with_reducible refine' cl_law_plain ?r_1295 ?_); (case r_1295 => (refine Cx.Room.le (by assumption) ?_; decide))
          with_reducible refine' opt_bool ?_
          (with_reducible refine' ite_f ?h_1300 ?_); (case h_1300 => decide)
          with_reducible refine' evt_or ?_
          (with_reducible refine' evt_Compare ?_ ?m_1310); (case m_1310 => with_unfolding_all rfl)
          (with_reducible refine' ev_name ?x_1311 ?p_1311 ?_ ?d_1311); (case x_1311 => rfl); (case p_1311 => rfl); (case d_1311 => decide)
          with_reducible refine' ev_Tuple ?_
          (with_reducible refine' evl_cons ?_ ?h_1314); (case h_1314 => with_unfolding_all rfl)
          (with_reducible refine' ev_name ?x_1315 ?p_1315 ?_ ?d_1315); (case x_1315 => rfl); (case p_1315 => rfl); (case d_1315 => decide)
          (with_reducible refine' evl_cons ?_ ?h_1317); (case h_1317 => with_unfolding_all rfl)
          with_reducible refine' ev_BinOp ?_
          (with_reducible refine' ev_name ?x_1319 ?p_1319 ?_ ?d_1319); (case x_1319 => rfl); (case p_1319 => rfl); (case d_1319 => decide)
          (with_reducible refine' ev_name ?x_1320 ?p_1320 ?_ ?d_1320); (case x_1320 => rfl); (case p_1320 => rfl); (case d_1320 => decide)
          with_reducible refine' op_add ?_
          (with_reducible refine' evl_cons ?_ ?h_1323); (case h_1323 => with_unfolding_all rfl)
          with_reducible refine' ev_BinOp ?_
          (with_reducible refine' ev_name ?x_1325 ?p_1325 ?_ ?d_1325); (case x_1325 => rfl); (case p_1325 => rfl); (case d_1325 => decide)
          (with_reducible refine' ev_name ?x_1326 ?p_1326 ?_ ?d_1326); (case x_1326 => rfl); (case p_1326 => rfl); (case d_1326 => decide)
          with_reducible refine' op_add ?_
          (with_reducible refine' evl_cons ?_ ?h_1329); (case h_1329 => with_unfolding_all rfl)
          with_reducible refine' ev_BinOp ?_
          (with_reducible refine' ev_name ?x_1331 ?p_1331 ?_ ?d_1331); (case x_1331 => rfl); (case p_1331 => rfl); (case d_1331 => decide)
          (with_reducible refine' ev_name ?x_1332 ?p_1332 ?_ ?d_1332); (case x_1332 => rfl); (case p_1332 => rfl); (case d_1332 => decide)
          with_reducible refine' op_add ?_
          with_reducible refine' evl_nil ?_
          (with_reducible refine' And.intro ?a_1337 ?_); (case a_1337 => exact Nat.le_of_ble_eq_true rfl)
          refine op_ne_same rfl (by (refine Cx.Room.le (by assumption) ?_; decide)) rfl rfl ?_
          with_reducible refine' opt_bool ?_
          (with_reducible refine' ite_f ?h_1344 ?_); (case h_1344 => decide)
          with_reducible refine' evt_or_nil ?_
          with_reducible exact Eq.refl false
          with_reducible refine seq_nxt ?_
          with_reducible refine ex_cons ?_
          with_reducible refine' ex_if_no ?_ ?_
          with_reducible refine' evt_or ?_
          (with_reducible refine' evt_Compare ?_ ?m_1365); (case m_1365 => with_unfolding_all rfl)
          (with_reducible refine' ev_Method (pl := _) ?_ ?h_1366); (case h_1366 => with_unfolding_all rfl)
          (with_reducible refine' ev_name ?x_1367 ?p_1367 ?_ ?d_1367); (case x_1367 => rfl); (case p_1367 => rfl); (case d_1367 => decide)
          (with_reducible refine' mth_cell m_parent ?_ ?h_1369 ?p_1369); (case h_1369 => with_unfolding_all rfl); (case p_1369 => with_unfolding_all rfl)
          (with_reducible refine' evl_cons ?_ ?h_1371); (case h_1371 => with_unfolding_all rfl)
          (with_reducible refine' ev_name ?x_1372 ?p_1372 ?_ ?d_1372); (case x_1372 => rfl); (case p_1372 => rfl); (case d_1372 => decide)
          with_reducible refine' evl_nil ?_
          (with_reducible refine' cl_par ?r_1374 ?l_1374 ?p_1374 ?b_1374 ?_); (case r_1374 => (refine Cx.Room.le (by assumption) ?_; decide)); (case l_1374 => (first | assumption | omega)); (case p_1374 => (first | assumption | omega)); (case b_1374 => (first | assumption | omega))
          (with_reducible refine' ev_name ?x_1375 ?p_1375 ?_ ?d_1375); (case x_1375 => rfl); (case p_1375 => rfl); (case d_1375 => decide)
          (with_reducible refine' op_ne_cell ?r_1377 cmp_NotEq ?_); (case r_1377 => (refine Cx.Room.le (by assumption) ?_; decide))
          (with_reducible refine' cl_ne ?r_1386 ?_); (case r_1386 => (refine Cx.Room.le (by assumption) ?_; decide))
          (with_reducible refine' And.intro ?a_1388 ?_); (case a_1388 => exact resBool_bool)
          with_reducible refine' opt_bool ?_
          with_reducible refine ite_f not_beq_self ?_
          with_reducible refine' evt_or ?_
          (with_reducible refine' evt_Compare ?_ ?m_1400); (case m_1400 => with_unfolding_all rfl)
          (with_reducible refine' ev_Method (pl := _) ?_ ?h_1401); (case h_1401 => with_unfolding_all rfl)
          (with_reducible refine' ev_name ?x_1402 ?p_1402 ?_ ?d_1402); (case x_1402 => rfl); (case p_1402 => rfl); (case d_1402 => decide)
          (with_reducible refine' mth_cell m_parent ?_ ?h_1404 ?p_1404); (case h_1404 => with_unfolding_all rfl); (case p_1404 => with_unfolding_all rfl)
          (with_reducible refine' evl_cons ?_ ?h_1406); (case h_1406 => with_unfolding_all rfl)
          (with_reducible refine' ev_name ?x_1407 ?p_1407 ?_ ?d_1407); (case x_1407 => rfl); (case p_1407 => rfl); (case d_1407 => decide)
          with_reducible refine' evl_nil ?_
          (with_reducible refine' cl_par ?r_1409 ?l_1409 ?p_1409 ?b_1409 ?_); (case r_1409 => (refine Cx.Room.le (by assumption) ?_; decide)); (case l_1409 => (first | assumption | omega)); (case p_1409 => (first | assumption | omega)); (case b_1409 => (first | assumption | omega))
          (with_reducible refine' ev_name ?x_1410 ?p_1410 ?_ ?d_1410); (case x_1410 => rfl); (case p_1410 => rfl); (case d_1410 => decide)
          (with_reducible refine' op_ne_cell ?r_1412 cmp_NotEq ?_); (case r_1412 => (refine Cx.Room.le (by assumption) ?_; decide))
          (with_reducible refine' cl_ne ?r_1421 ?_); (case r_1421 => (refine Cx.Room.le (by assumption) ?_; decide))
          (with_reducible refine' And.intro ?a_1423 ?_); (case a_1423 => exact resBool_bool)
          with_reducible refine' opt_bool ?_
          with_reducible refine ite_f not_beq_self ?_
          with_reducible refine' evt_or ?_
          (with_reducible refine' evt_Compare ?_ ?m_1435); (case m_1435 => with_unfolding_all rfl)
          (with_reducible refine' ev_Method (pl := _) ?_ ?h_1436); (case h_1436 => with_unfolding_all rfl)
          (with_reducible refine' ev_name ?x_1437 ?p_1437 ?_ ?d_1437); (case x_1437 => rfl); (case p_1437 => rfl); (case d_1437 => decide)
          (with_reducible refine' mth_cell m_parent ?_ ?h_1439 ?p_1439); (case h_1439 => with_unfolding_all rfl); (case p_1439 => with_unfolding_all rfl)
          (with_reducible refine' evl_cons ?_ ?h_1441); (case h_1441 => with_unfolding_all rfl)
          (with_reducible refine' ev_name ?x_1442 ?p_1442 ?_ ?d_1442); (case x_1442 => rfl); (case p_1442 => rfl); (case d_1442 => decide)
          with_reducible refine' evl_nil ?_
          (with_reducible refine' cl_par ?r_1444 ?l_1444 ?p_1444 ?b_1444 ?_); (case r_1444 => (refine Cx.Room.le (by assumption) ?_; decide)); (case l_1444 => (first | assumption | omega)); (case p_1444 => (first | assumption | omega)); (case b_1444 => (first | assumption | omega))
          (with_reducible refine' ev_name ?x_1445 ?p_1445 ?_ ?d_1445); (case x_1445 => rfl); (case p_1445 => rfl); (case d_1445 => decide)
          (with_reducible refine' op_ne_cell ?r_1447 cmp_NotEq ?_); (case r_1447 => (refine Cx.Room.le (by assumption) ?_; decide))
          (with_reducible refine' cl_ne ?r_1456 ?_); (case r_1456 => (refine Cx.Room.le (by assumption) ?_; decide))
          (with_reducible refine' And.intro ?a_1458 ?_); (case a_1458 => exact resBool_bool)
          with_reducible refine' opt_bool ?_
          with_reducible refine ite_f not_beq_self ?_
          with_reducible refine' evt_or_nil ?_
          with_reducible exact Eq.refl false
          with_reducible refine seq_nxt ?_
          with_reducible refine ex_cons ?_
          (with_reducible refine' ex_assign ?_ ?k_1475 ?l_1475 ?s_1475); (case k_1475 => rfl); (case l_1475 => rfl); (case s_1475 => rfl)
          (with_reducible refine' ev_Method (pl := _) ?_ ?h_1476); (case h_1476 => with_unfolding_all rfl)
          (with_reducible refine' ev_name ?x_1477 ?p_1477 ?_ ?d_1477); (case x_1477 => rfl); (case p_1477 => rfl); (case d_1477 => decide)
          with_reducible refine' mth_cell0 m_to_face_ij_orientation ?_
          (with_reducible refine' cl_tf2 ?r_1480 ?l_1480 ?p_1480 ?b_1480 ?f_1480 ?o_1480 ?x_1480 ?y_1480 ?_); (case r_1480 => (refine Cx.Room.le (by assumption) ?_; decide)); (case b_1480 => (first | assumption | omega)); (case f_1480 => assumption); (case l_1480 => (first | assumption | omega)); (case p_1480 => (first | assumption | omega)); (case o_1480 => assumption); (case x_1480 => assumption); (case y_1480 => assumption)
          with_reducible refine seq_nxt ?_
          with_reducible refine ex_cons ?_
          (with_reducible refine' ex_assign ?_ ?k_1488 ?l_1488 ?s_1488); (case k_1488 => rfl); (case l_1488 => rfl); (case s_1488 => rfl)
          (with_reducible refine' ev_Method (pl := _) ?_ ?h_1489); (case h_1489 => with_unfolding_all rfl)
          (with_reducible refine' ev_name ?x_1490 ?p_1490 ?_ ?d_1490); (case x_1490 => rfl); (case p_1490 => rfl); (case d_1490 => decide)
          with_reducible refine' mth_cell0 m_to_face_ij_orientation ?_
          (with_reducible refine' cl_tf2 ?r_1493 ?l_1493 ?p_1493 ?b_1493 ?f_1493 ?o_1493 ?x_1493 ?y_1493 ?_); (case r_1493 => (refine Cx.Room.le (by assumption) ?_; decide)); (case b_1493 => (first | assumption | omega)); (case f_1493 => assumption); (case l_1493 => (first | assumption | omega)); (case p_1493 => (first | assumption | omega)); (case o_1493 => assumption); (case x_1493 => assumption); (case y_1493 => assumption)
          with_reducible refine seq_nxt ?_
          with_reducible refine ex_cons ?_
          (with_reducible refine' ex_assign ?_ ?k_1501 ?l_1501 ?s_1501); (case k_1501 => rfl); (case l_1501 => rfl); (case s_1501 => rfl)
          (with_reducible refine' ev_Method (pl := _) ?_ ?h_1502); (case h_1502 => with_unfolding_all rfl)
          (with_reducible refine' ev_name ?x_1503 ?p_1503 ?_ ?d_1503); (case x_1503 => rfl); (case p_1503 => rfl); (case d_1503 => decide)
          with_reducible refine' mth_cell0 m_to_face_ij_orientation ?_
          (with_reducible refine' cl_tf2 ?r_1506 ?l_1506 ?p_1506 ?b_1506 ?f_1506 ?o_1506 ?x_1506 ?y_1506 ?_); (case r_1506 => (refine Cx.Room.le (by assumption) ?_; decide)); (case b_1506 => (first | assumption | omega)); (case f_1506 => assumption); (case l_1506 => (first | assumption | omega)); (case p_1506 => (first | assumption | omega)); (case o_1506 => assumption); (case x_1506 => assumption); (case y_1506 => assumption)
          with_reducible refine seq_nxt ?_
          with_reducible refine ex_cons ?_
          with_reducible refine' ex_if_no ?_ ?_
          with_reducible refine' evt_or ?_
          with_reducible refine' evt_not ?_
          (with_reducible refine' evt_of ?_ ?h_1522); (case h_1522 => with_unfolding_all rfl)
          (with_reducible refine' ev_Call ?_ ?h_1524); (case h_1524 => with_unfolding_all rfl)
          (with_reducible refine' ev_global g_law_plain ?k_1525 ?_ ?d_1525); (case k_1525 => rfl); (case d_1525 => decide)
          (with_reducible refine' cw_def kp_law_plain ?_ ?h_1526 ?p_1526); (case h_1526 => with_unfolding_all rfl); (case p_1526 => with_unfolding_all rfl)
          (with_reducible refine' evl_cons ?_ ?h_1528); (case h_1528 => with_unfolding_all rfl)
          (with_reducible refine' ev_name ?x_1529 ?p_1529 ?_ ?d_1529); (case x_1529 => rfl); (case p_1529 => rfl); (case d_1529 => decide)
          with_reducible refine' evl_nil ?_
          (with_reducible refine' cl_law_plain ?r_1535 ?_); (case r_1535 => (refine Cx.Room.le (by assumption) ?_; decide))
          with_reducible refine' opt_bool ?_
          (with_reducible refine' ite_f ?h_1540 ?_); (case h_1540 => decide)
          with_reducible refine' evt_or ?_
          with_reducible refine' evt_not ?_
          (with_reducible refine' evt_of ?_ ?h_1552); (case h_1552 => with_unfolding_all rfl)
          (with_reducible refine' ev_Call ?_ ?h_1554); (case h_1554 => with_unfolding_all rfl)
          (with_reducible refine' ev_global g_law_plain ?k_1555 ?_ ?d_1555); (case k_1555 => rfl); (case d_1555 => decide)
          (with_reducible refine' cw_def kp_law_plain ?_ ?h_1556 ?p_1556); (case h_1556 => with_unfolding_all rfl); (case p_1556 => with_unfolding_all rfl)
          (with_reducible refine' evl_cons ?_ ?h_1558); (case h_1558 => with_unfolding_all rfl)
          (with_reducible refine' ev_name ?x_1559 ?p_1559 ?_ ?d_1559); (case x_1559 => rfl); (case p_1559 => rfl); (case d_1559 => decide)
          with_reducible refine' evl_nil ?_
          (with_reducible refine' cl_law_plain ?r_1565 ?_); (case r_1565 => (refine Cx.Room.le (by assumption) ?_; decide))
          with_reducible refine' opt_bool ?_
          (with_reducible refine' ite_f ?h_1570 ?_); (case h_1570 => decide)
          with_reducible refine' evt_or ?_
          with_reducible refine' evt_not ?_
          (with_reducible refine' evt_of ?_ ?h_1582); (case h_1582 => with_unfolding_all rfl)
          (with_reducible refine' ev_Call ?_ ?h_1584); (case h_1584 => with_unfolding_all rfl)
          (with_reducible refine' ev_global g_law_plain ?k_1585 ?_ ?d_1585); (case k_1585 => rfl); (case d_1585 => decide)
          (with_reducible refine' cw_def kp_law_plain ?_ ?h_1586 ?p_1586); (case h_1586 => with_unfolding_all rfl); (case p_1586 => with_unfolding_all rfl)
          (with_reducible refine' evl_cons ?_ ?h_1588); (case h_1588 => with_unfolding_all rfl)
          (with_reducible refine' ev_name ?x_1589 ?p_1589 ?_ ?d_1589); (case x_1589 => rfl); (case p_1589 => rfl); (case d_1589 => decide)
          with_reducible refine' evl_nil ?_
          (with_reducible refine' cl_law_plain ?r_1595 ?_); (case r_1595 => (refine Cx.Room.le (by assumption) ?_; decide))
          with_reducible refine' opt_bool ?_
          (with_reducible refine' ite_f ?h_1600 ?_); (case h_1600 => decide)
          with_reducible refine' evt_or_nil ?_
          with_reducible exact Eq.refl false
          with_reducible refine seq_nxt ?_
          with_reducible refine ex_cons ?_
          with_reducible refine' ex_if_no ?_ ?_
          with_reducible refine' evt_or ?_
          with_reducible refine' evt_not ?_
          (with_reducible refine' evt_of ?_ ?h_1623); (case h_1623 => with_unfolding_all rfl)
          (with_reducible refine' ev_Call ?_ ?h_1625); (case h_1625 => with_unfolding_all rfl)
          (with_reducible refine' ev_global g_law_middle ?k_1626 ?_ ?d_1626); (case k_1626 => rfl); (case d_1626 => decide)
          (with_reducible refine' cw_def kp_law_middle ?_ ?h_1627 ?p_1627); (case h_1627 => with_unfolding_all rfl); (case p_1627 => with_unfolding_all rfl)
          (with_reducible refine' evl_cons ?_ ?h_1629); (case h_1629 => with_unfolding_all rfl)
          (with_reducible refine' ev_name ?x_1630 ?p_1630 ?_ ?d_1630); (case x_1630 => rfl); (case p_1630 => rfl); (case d_1630 => decide)
          (with_reducible refine' evl_cons ?_ ?h_1632); (case h_1632 => with_unfolding_all rfl)
          with_reducible refine' ev_BinOp ?_
          with_reducible refine' ev_BinOp ?_
          with_reducible refine' ev_int ?_
          (with_reducible refine' ev_name ?x_1636 ?p_1636 ?_ ?d_1636); (case x_1636 => rfl); (case p_1636 => rfl); (case d_1636 => decide)
          with_reducible refine' op_sub ?_
          (with_reducible refine' ev_name ?x_1638 ?p_1638 ?_ ?d_1638); (case x_1638 => rfl); (case p_1638 => rfl); (case d_1638 => decide)
          with_reducible refine' op_sub ?_
          with_reducible refine' evl_nil ?_
          (with_reducible refine' cl_law_middle ?r_1644 ?k_1644 ?l_1644 ?_); (case r_1644 => (refine Cx.Room.le (by assumption) ?_; decide)); (case k_1644 => omega); (case l_1644 => (first | assumption | omega))
          with_reducible refine' opt_bool ?_
          (with_reducible refine' ite_f ?h_1649 ?_); (case h_1649 => decide)
          with_reducible refine' evt_or ?_
          with_reducible refine' evt_not ?_
          (with_reducible refine' evt_of ?_ ?h_1661); (case h_1661 => with_unfolding_all rfl)
          (with_reducible refine' ev_Call ?_ ?h_1663); (case h_1663 => with_unfolding_all rfl)
          (with_reducible refine' ev_global g_law_middle ?k_1664 ?_ ?d_1664); (case k_1664 => rfl); (case d_1664 => decide)
          (with_reducible refine' cw_def kp_law_middle ?_ ?h_1665 ?p_1665); (case h_1665 => with_unfolding_all rfl); (case p_1665 => with_unfolding_all rfl)
          (with_reducible refine' evl_cons ?_ ?h_1667); (case h_1667 => with_unfolding_all rfl)
          (with_reducible refine' ev_name ?x_1668 ?p_1668 ?_ ?d_1668); (case x_1668 => rfl); (case p_1668 => rfl); (case d_1668 => decide)
          (with_reducible refine' evl_cons ?_ ?h_1670); (case h_1670 => with_unfolding_all rfl)
          with_reducible refine' ev_BinOp ?_
          with_reducible refine' ev_BinOp ?_
          with_reducible refine' ev_int ?_
          (with_reducible refine' ev_name ?x_1674 ?p_1674 ?_ ?d_1674); (case x_1674 => rfl); (case p_1674 => rfl); (case d_1674 => decide)
          with_reducible refine' op_sub ?_
          (with_reducible refine' ev_name ?x_1676 ?p_1676 ?_ ?d_1676); (case x_1676 => rfl); (case p_1676 => rfl); (case d_1676 => decide)
          with_reducible refine' op_sub ?_
          with_reducible refine' evl_nil ?_
          (with_reducible refine' cl_law_middle ?r_1682 ?k_1682 ?l_1682 ?_); (case r_1682 => (refine Cx.Room.le (by assumption) ?_; decide)); (case k_1682 => omega); (case l_1682 => (first | assumption | omega))
          with_reducible refine' opt_bool ?_
          (with_reducible refine' ite_f ?h_1687 ?_); (case h_1687 => decide)
          with_reducible refine' evt_or ?_
          with_reducible refine' evt_not ?_
          (with_reducible refine' evt_of ?_ ?h_1699); (case h_1699 => with_unfolding_all rfl)
          (with_reducible refine' ev_Call ?_ ?h_1701); (case h_1701 => with_unfolding_all rfl)
          (with_reducible refine' ev_global g_law_middle ?k_1702 ?_ ?d_1702); (case k_1702 => rfl); (case d_1702 => decide)
          (with_reducible refine' cw_def kp_law_middle ?_ ?h_1703 ?p_1703); (case h_1703 => with_unfolding_all rfl); (case p_1703 => with_unfolding_all rfl)
          (with_reducible refine' evl_cons ?_ ?h_1705); (case h_1705 => with_unfolding_all rfl)
          (with_reducible refine' ev_name ?x_1706 ?p_1706 ?_ ?d_1706); (case x_1706 => rfl); (case p_1706 => rfl); (case d_1706 => decide)
          (with_reducible refine' evl_cons ?_ ?h_1708); (case h_1708 => with_unfolding_all rfl)
          with_reducible refine' ev_BinOp ?_
          with_reducible refine' ev_BinOp ?_
          with_reducible refine' ev_int ?_
          (with_reducible refine' ev_name ?x_1712 ?p_1712 ?_ ?d_1712); (case x_1712 => rfl); (case p_1712 => rfl); (case d_1712 => decide)
          with_reducible refine' op_sub ?_
          (with_reducible refine' ev_name ?x_1714 ?p_1714 ?_ ?d_1714); (case x_1714 => rfl); (case p_1714 => rfl); (case d_1714 => decide)
          with_reducible refine' op_sub ?_
          with_reducible refine' evl_nil ?_
          (with_reducible refine' cl_law_middle ?r_1720 ?k_1720 ?l_1720 ?_); (case r_1720 => (refine Cx.Room.le (by assumption) ?_; decide)); (case k_1720 => omega); (case l_1720 => (first | assumption | omega))
          with_reducible refine' opt_bool ?_
          (with_reducible refine' ite_f ?h_1725 ?_); (case h_1725 => decide)
          with_reducible refine' evt_or_nil ?_
          with_reducible exact Eq.refl false
          with_reducible refine seq_nxt ?_
          with_reducible refine ex_cons ?_
          (with_reducible refine' ex_assign ?_ ?k_1740 ?l_1740 ?s_1740); (case k_1740 => rfl); (case l_1740 => rfl); (case s_1740 => rfl)
          with_reducible refine' ev_BinOp ?_
          with_reducible refine' ev_BinOp ?_
          with_reducible refine' ev_Subscript ?_
          (with_reducible refine' ev_name ?x_1744 ?p_1744 ?_ ?d_1744); (case x_1744 => rfl); (case p_1744 => rfl); (case d_1744 => decide)
          with_reducible refine' ev_int ?_
          (with_reducible refine' op_item_tup ?a_1746 ?b_1746 ?j_1746 ?x_1746 ?_ ?s_1746); (case a_1746 => decide); (case b_1746 => decide); (case j_1746 => rfl); (case x_1746 => rfl); (case s_1746 => intros; with_unfolding_all rfl)
          with_reducible refine' ev_BinOp ?_
          with_reducible refine' ev_BinOp ?_
          with_reducible refine' ev_int ?_
          (with_reducible refine' ev_name ?x_1750 ?p_1750 ?_ ?d_1750); (case x_1750 => rfl); (case p_1750 => rfl); (case d_1750 => decide)
          with_reducible refine' op_sub ?_
          (with_reducible refine' ev_name ?x_1752 ?p_1752 ?_ ?d_1752); (case x_1752 => rfl); (case p_1752 => rfl); (case d_1752 => decide)
          with_reducible refine' op_sub ?_
          (with_reducible refine' op_shr ?n_1754 ?_); (case n_1754 => first | decide | omega)
          with_reducible refine' ev_Subscript ?_
          (with_reducible refine' ev_name ?x_1756 ?p_1756 ?_ ?d_1756); (case x_1756 => rfl); (case p_1756 => rfl); (case d_1756 => decide)
          with_reducible refine' ev_int ?_
          (with_reducible refine' op_item_tup ?a_1758 ?b_1758 ?j_1758 ?x_1758 ?_ ?s_1758); (case a_1758 => decide); (case b_1758 => decide); (case j_1758 => rfl); (case x_1758 => rfl); (case s_1758 => intros; with_unfolding_all rfl)
          with_reducible refine' op_sub ?_
          with_reducible refine seq_nxt ?_
          with_reducible refine ex_cons ?_
          (with_reducible refine' ex_assign ?_ ?k_1767 ?l_1767 ?s_1767); (case k_1767 => rfl); (case l_1767 => rfl); (case s_1767 => rfl)
          with_reducible refine' ev_BinOp ?_
          with_reducible refine' ev_BinOp ?_
          with_reducible refine' ev_Subscript ?_
          (with_reducible refine' ev_name ?x_1771 ?p_1771 ?_ ?d_1771); (case x_1771 => rfl); (case p_1771 => rfl); (case d_1771 => decide)
          with_reducible refine' ev_int ?_
          (with_reducible refine' op_item_tup ?a_1773 ?b_1773 ?j_1773 ?x_1773 ?_ ?s_1773); (case a_1773 => decide); (case b_1773 => decide); (case j_1773 => rfl); (case x_1773 => rfl); (case s_1773 => intros; with_unfolding_all rfl)
          with_reducible refine' ev_BinOp ?_
          with_reducible refine' ev_BinOp ?_
          with_reducible refine' ev_int ?_
          (with_reducible refine' ev_name ?x_1777 ?p_1777 ?_ ?d_1777); (case x_1777 => rfl); (case p_1777 => rfl); (case d_1777 => decide)
          with_reducible refine' op_sub ?_
          (with_reducible refine' ev_name ?x_1779 ?p_1779 ?_ ?d_1779); (case x_1779 => rfl); (case p_1779 => rfl); (case d_1779 => decide)
          with_reducible refine' op_sub ?_
          (with_reducible refine' op_shr ?n_1781 ?_); (case n_1781 => first | decide | omega)
          with_reducible refine' ev_Subscript ?_
          (with_reducible refine' ev_name ?x_1783 ?p_1783 ?_ ?d_1783); (case x_1783 => rfl); (case p_1783 => rfl); (case d_1783 => decide)
          with_reducible refine' ev_int ?_
          (with_reducible refine' op_item_tup ?a_1785 ?b_1785 ?j_1785 ?x_1785 ?_ ?s_1785); (case a_1785 => decide); (case b_1785 => decide); (case j_1785 => rfl); (case x_1785 => rfl); (case s_1785 => intros; with_unfolding_all rfl)
          with_reducible refine' op_sub ?_
          with_reducible refine seq_nxt ?_
          with_reducible refine ex_cons ?_
          have hsim := sim (t := O1 ^^^ O2) (o := O1) (xor_lt4 _ hO1 _ hO2) hO1 d n
          have hsimo := ho_sim (t := O1 ^^^ O2) (o := O1) (xor_lt4 _ hO1 _ hO2) hO1 d n
          rw [← Nat.xor_assoc, Nat.xor_self, Nat.zero_xor] at hsim hsimo
          have hmir := mir hO1 d n hn
          have hmiro := ho_mir hO1 d n hn
          rw [shr_sq (m := 30 - (T + d)) (by omega) mid_lt, shr_sq (m := 30 - (T + d)) (by omega) mid_lt, sub_sq, sub_sq]
          refine ex_append rfl rfl hlr ?_ rfl rfl rfl rfl (by decide) rfl
          with_reducible refine' ev_Tuple ?_
          (with_reducible refine' evl_cons ?_ ?h_1803); (case h_1803 => with_unfolding_all rfl)
          (with_reducible refine' ev_name ?x_1804 ?p_1804 ?_ ?d_1804); (case x_1804 => rfl); (case p_1804 => rfl); (case d_1804 => decide)
          (with_reducible refine' evl_cons ?_ ?h_1806); (case h_1806 => with_unfolding_all rfl)
          (with_reducible refine' ev_name ?x_1807 ?p_1807 ?_ ?d_1807); (case x_1807 => rfl); (case p_1807 => rfl); (case d_1807 => decide)
          with_reducible refine' evl_nil ?_
          (with_reducible refine' And.intro ?a_1811 ?_); (case a_1811 => exact Nat.le_of_ble_eq_true rfl)
          with_reducible refine seq_nxt ?_
          with_reducible refine ex_cons ?_
          refine ex_if_set "image" (.tup [.int (hx d O1 (4 ^ d - 1 - n) : Nat), .int (hy d O1 (4 ^ d - 1 - n) : Nat)]) ?_ ?_
          · refine ex_if ?_
            (with_reducible refine' evt_Compare ?_ ?m_1831); (case m_1831 => with_unfolding_all rfl)
            with_reducible refine' ev_BinOp ?_
            with_reducible refine' ev_Subscript ?_
            (with_reducible refine' ev_name ?x_1834 ?p_1834 ?_ ?d_1834); (case x_1834 => rfl); (case p_1834 => rfl); (case d_1834 => decide)
            with_reducible refine' ev_int ?_
            (with_reducible refine' op_item_tup ?a_1836 ?b_1836 ?j_1836 ?x_1836 ?_ ?s_1836); (case a_1836 => decide); (case b_1836 => decide); (case j_1836 => rfl); (case x_1836 => rfl); (case s_1836 => intros; with_unfolding_all rfl)
            with_reducible refine' ev_int ?_
            (with_reducible refine' op_mod ?n_1838 ?_); (case n_1838 => decide)
            with_reducible refine' ev_int ?_
            with_reducible refine' op_eq ?_
            with_reducible refine' opt_bool ?_
            rw [fmod_two]
            unfold Mir at hmir
            by_cases he : O1 % 2 = 0
            · rw [if_pos he] at hmir
              refine ite_t (beq_iff_eq.mpr (by omega)) ?_
              with_reducible refine ex_cons ?_
              (with_reducible refine' ex_assign ?_ ?k_1853 ?l_1853 ?s_1853); (case k_1853 => rfl); (case l_1853 => rfl); (case s_1853 => rfl)
              with_reducible refine' ev_Tuple ?_
              (with_reducible refine' evl_cons ?_ ?h_1856); (case h_1856 => with_unfolding_all rfl)
              with_reducible refine' ev_BinOp ?_
              (with_reducible refine' ev_name ?x_1858 ?p_1858 ?_ ?d_1858); (case x_1858 => rfl); (case p_1858 => rfl); (case d_1858 => decide)
              (with_reducible refine' ev_name ?x_1859 ?p_1859 ?_ ?d_1859); (case x_1859 => rfl); (case p_1859 => rfl); (case d_1859 => decide)
              with_reducible refine' op_sub ?_
              (with_reducible refine' evl_cons ?_ ?h_1862); (case h_1862 => with_unfolding_all rfl)
              (with_reducible refine' ev_name ?x_1863 ?p_1863 ?_ ?d_1863); (case x_1863 => rfl); (case p_1863 => rfl); (case d_1863 => decide)
              with_reducible refine' evl_nil ?_
              (with_reducible refine' And.intro ?a_1867 ?_); (case a_1867 => exact Nat.le_of_ble_eq_true rfl)
              with_reducible refine seq_nxt ?_
              with_reducible refine ex_nil ?_
              refine ⟨rfl, upd_eq ?_⟩
              simp only [PV.tup.injEq, List.cons.injEq, PV.int.injEq, and_true]
              omega
            · rw [if_neg he] at hmir
              refine ite_f (beq_eq_false_iff_ne.mpr (by omega)) ?_
              with_reducible refine ex_cons ?_
              (with_reducible refine' ex_assign ?_ ?k_1882 ?l_1882 ?s_1882); (case k_1882 => rfl); (case l_1882 => rfl); (case s_1882 => rfl)
              with_reducible refine' ev_Tuple ?_
              (with_reducible refine' evl_cons ?_ ?h_1885); (case h_1885 => with_unfolding_all rfl)
              (with_reducible refine' ev_name ?x_1886 ?p_1886 ?_ ?d_1886); (case x_1886 => rfl); (case p_1886 => rfl); (case d_1886 => decide)
              (with_reducible refine' evl_cons ?_ ?h_1888); (case h_1888 => with_unfolding_all rfl)
              with_reducible refine' ev_BinOp ?_
              (with_reducible refine' ev_name ?x_1890 ?p_1890 ?_ ?d_1890); (case x_1890 => rfl); (case p_1890 => rfl); (case d_1890 => decide)
              (with_reducible refine' ev_name ?x_1891 ?p_1891 ?_ ?d_1891); (case x_1891 => rfl); (case p_1891 => rfl); (case d_1891 => decide)
              with_reducible refine' op_sub ?_
              with_reducible refine' evl_nil ?_
              (with_reducible refine' And.intro ?a_1896 ?_); (case a_1896 => exact Nat.le_of_ble_eq_true rfl)
              with_reducible refine seq_nxt ?_
              with_reducible refine ex_nil ?_
              refine ⟨rfl, upd_eq ?_⟩
              simp only [PV.tup.injEq, List.cons.injEq, PV.int.injEq, and_true, true_and]
              omega
          with_reducible refine seq_nxt ?_
          with_reducible refine ex_cons ?_
          with_reducible refine' ex_if_no ?_ ?_
          (with_reducible refine' evt_Compare ?_ ?m_1913); (case m_1913 => with_unfolding_all rfl)
          with_reducible refine' ev_Tuple ?_
          (with_reducible refine' evl_cons ?_ ?h_1916); (case h_1916 => with_unfolding_all rfl)
          with_reducible refine' ev_BinOp ?_
          with_reducible refine' ev_BinOp ?_
          with_reducible refine' ev_Subscript ?_
          (with_reducible refine' ev_name ?x_1920 ?p_1920 ?_ ?d_1920); (case x_1920 => rfl); (case p_1920 => rfl); (case d_1920 => decide)
          with_reducible refine' ev_int ?_
          (with_reducible refine' op_item_tup ?a_1922 ?b_1922 ?j_1922 ?x_1922 ?_ ?s_1922); (case a_1922 => decide); (case b_1922 => decide); (case j_1922 => rfl); (case x_1922 => rfl); (case s_1922 => intros; with_unfolding_all rfl)
          with_reducible refine' ev_BinOp ?_
          with_reducible refine' ev_BinOp ?_
          with_reducible refine' ev_int ?_
          (with_reducible refine' ev_name ?x_1926 ?p_1926 ?_ ?d_1926); (case x_1926 => rfl); (case p_1926 => rfl); (case d_1926 => decide)
          with_reducible refine' op_sub ?_
          (with_reducible refine' ev_name ?x_1928 ?p_1928 ?_ ?d_1928); (case x_1928 => rfl); (case p_1928 => rfl); (case d_1928 => decide)
          with_reducible refine' op_sub ?_
          (with_reducible refine' op_shr ?n_1930 ?_); (case n_1930 => first | decide | omega)
          with_reducible refine' ev_Subscript ?_
          (with_reducible refine' ev_name ?x_1932 ?p_1932 ?_ ?d_1932); (case x_1932 => rfl); (case p_1932 => rfl); (case d_1932 => decide)
          with_reducible refine' ev_int ?_
          (with_reducible refine' op_item_tup ?a_1934 ?b_1934 ?j_1934 ?x_1934 ?_ ?s_1934); (case a_1934 => decide); (case b_1934 => decide); (case j_1934 => rfl); (case x_1934 => rfl); (case s_1934 => intros; with_unfolding_all rfl)
          with_reducible refine' op_sub ?_
          (with_reducible refine' evl_cons ?_ ?h_1937); (case h_1937 => with_unfolding_all rfl)
          with_reducible refine' ev_BinOp ?_
          with_reducible refine' ev_BinOp ?_
          with_reducible refine' ev_Subscript ?_
          (with_reducible refine' ev_name ?x_1941 ?p_1941 ?_ ?d_1941); (case x_1941 => rfl); (case p_1941 => rfl); (case d_1941 => decide)
          with_reducible refine' ev_int ?_
          (with_reducible refine' op_item_tup ?a_1943 ?b_1943 ?j_1943 ?x_1943 ?_ ?s_1943); (case a_1943 => decide); (case b_1943 => decide); (case j_1943 => rfl); (case x_1943 => rfl); (case s_1943 => intros; with_unfolding_all rfl)
          with_reducible refine' ev_BinOp ?_
          with_reducible refine' ev_BinOp ?_
          with_reducible refine' ev_int ?_
          (with_reducible refine' ev_name ?x_1947 ?p_1947 ?_ ?d_1947); (case x_1947 => rfl); (case p_1947 => rfl); (case d_1947 => decide)
          with_reducible refine' op_sub ?_
          (with_reducible refine' ev_name ?x_1949 ?p_1949 ?_ ?d_1949); (case x_1949 => rfl); (case p_1949 => rfl); (case d_1949 => decide)
          with_reducible refine' op_sub ?_
          (with_reducible refine' op_shr ?n_1951 ?_); (case n_1951 => first | decide | omega)
          with_reducible refine' ev_Subscript ?_
          (with_reducible refine' ev_name ?x_1953 ?p_1953 ?_ ?d_1953); (case x_1953 => rfl); (case p_1953 => rfl); (case d_1953 => decide)
          with_reducible refine' ev_int ?_
          (with_reducible refine' op_item_tup ?a_1955 ?b_1955 ?j_1955 ?x_1955 ?_ ?s_1955); (case a_1955 => decide); (case b_1955 => decide); (case j_1955 => rfl); (case x_1955 => rfl); (case s_1955 => intros; with_unfolding_all rfl)
          with_reducible refine' op_sub ?_
          with_reducible refine' evl_nil ?_
          (with_reducible refine' And.intro ?a_1960 ?_); (case a_1960 => exact Nat.le_of_ble_eq_true rfl)
          (with_reducible refine' ev_name ?x_1961 ?p_1961 ?_ ?d_1961); (case x_1961 => rfl); (case p_1961 => rfl); (case d_1961 => decide)
          rw [shr_sq (m := 30 - (T + d)) (by omega) mid_lt, shr_sq (m := 30 - (T + d)) (by omega) mid_lt, sub_sq, sub_sq]
          refine op_ne_same rfl (by (refine Cx.Room.le (by assumption) ?_; decide)) rfl rfl ?_
          with_reducible refine' opt_bool ?_
          with_reducible exact Eq.refl false
          with_reducible refine seq_nxt ?_
          with_reducible refine ex_cons ?_
          with_reducible refine' ex_if_no ?_ ?_
          with_reducible refine' evt_or ?_
          (with_reducible refine' evt_Compare ?_ ?m_1980); (case m_1980 => with_unfolding_all rfl)
          with_reducible refine' ev_Subscript ?_
          (with_reducible refine' ev_name ?x_1982 ?p_1982 ?_ ?d_1982); (case x_1982 => rfl); (case p_1982 => rfl); (case d_1982 => decide)
          with_reducible refine' ev_int ?_
          (with_reducible refine' op_item_tup ?a_1984 ?b_1984 ?j_1984 ?x_1984 ?_ ?s_1984); (case a_1984 => decide); (case b_1984 => decide); (case j_1984 => rfl); (case x_1984 => rfl); (case s_1984 => intros; with_unfolding_all rfl)
          with_reducible refine' ev_Subscript ?_
          (with_reducible refine' ev_name ?x_1986 ?p_1986 ?_ ?d_1986); (case x_1986 => rfl); (case p_1986 => rfl); (case d_1986 => decide)
          with_reducible refine' ev_int ?_
          (with_reducible refine' op_item_tup ?a_1988 ?b_1988 ?j_1988 ?x_1988 ?_ ?s_1988); (case a_1988 => decide); (case b_1988 => decide); (case j_1988 => rfl); (case x_1988 => rfl); (case s_1988 => intros; with_unfolding_all rfl)
          with_reducible refine' op_ne ?_
          with_reducible refine' opt_bool ?_
          with_reducible refine ite_f (bne_self_eq_false _) ?_
          with_reducible refine' evt_or ?_
          (with_reducible refine' evt_Compare ?_ ?m_2002); (case m_2002 => with_unfolding_all rfl)
          with_reducible refine' ev_Subscript ?_
          (with_reducible refine' ev_name ?x_2004 ?p_2004 ?_ ?d_2004); (case x_2004 => rfl); (case p_2004 => rfl); (case d_2004 => decide)
          with_reducible refine' ev_int ?_
          (with_reducible refine' op_item_tup ?a_2006 ?b_2006 ?j_2006 ?x_2006 ?_ ?s_2006); (case a_2006 => decide); (case b_2006 => decide); (case j_2006 => rfl); (case x_2006 => rfl); (case s_2006 => intros; with_unfolding_all rfl)
          with_reducible refine' ev_BinOp ?_
          with_reducible refine' ev_Subscript ?_
          (with_reducible refine' ev_name ?x_2009 ?p_2009 ?_ ?d_2009); (case x_2009 => rfl); (case p_2009 => rfl); (case d_2009 => decide)
          with_reducible refine' ev_int ?_
          (with_reducible refine' op_item_tup ?a_2011 ?b_2011 ?j_2011 ?x_2011 ?_ ?s_2011); (case a_2011 => decide); (case b_2011 => decide); (case j_2011 => rfl); (case x_2011 => rfl); (case s_2011 => intros; with_unfolding_all rfl)
          with_reducible refine' ev_BinOp ?_
          with_reducible refine' ev_int ?_
          with_reducible refine' ev_BinOp ?_
          with_reducible refine' ev_BinOp ?_
          with_reducible refine' ev_Subscript ?_
          (with_reducible refine' ev_name ?x_2017 ?p_2017 ?_ ?d_2017); (case x_2017 => rfl); (case p_2017 => rfl); (case d_2017 => decide)
          with_reducible refine' ev_int ?_
          (with_reducible refine' op_item_tup ?a_2019 ?b_2019 ?j_2019 ?x_2019 ?_ ?s_2019); (case a_2019 => decide); (case b_2019 => decide); (case j_2019 => rfl); (case x_2019 => rfl); (case s_2019 => intros; with_unfolding_all rfl)
          with_reducible refine' ev_Subscript ?_
          (with_reducible refine' ev_name ?x_2021 ?p_2021 ?_ ?d_2021); (case x_2021 => rfl); (case p_2021 => rfl); (case d_2021 => decide)
          with_reducible refine' ev_int ?_
          (with_reducible refine' op_item_tup ?a_2023 ?b_2023 ?j_2023 ?x_2023 ?_ ?s_2023); (case a_2023 => decide); (case b_2023 => decide); (case j_2023 => rfl); (case x_2023 => rfl); (case s_2023 => intros; with_unfolding_all rfl)
          with_reducible refine' op_xor ?_
          with_reducible refine' ev_int ?_
          (with_reducible refine' op_mod ?n_2026 ?_); (case n_2026 => decide)
          (with_reducible refine' op_mul ?m_2027 ?_); (case m_2027 => first | exact mul_ok_l (by decide) | exact mul_ok_r (by decide))
          with_reducible refine' op_xor ?_
          with_reducible refine' op_ne ?_
          with_reducible refine' opt_bool ?_
          rw [hmiro, mo_int]
          with_reducible refine ite_f (bne_self_eq_false _) ?_
          with_reducible refine' evt_or_nil ?_
          with_reducible exact Eq.refl false
          with_reducible refine seq_nxt ?_
          with_reducible refine ex_cons ?_
          have ht4 := xor_lt4 _ hO1 _ hO2
          have hxl := hx_lt hO1 d n
          have hyl := hy_lt hO1 d n
          refine ex_if_set2 "x" (.int ((if (O1 ^^^ O2) / 2 = 0 then hx d O1 n else 2 ^ d - 1 - hx d O1 n : Nat) : Int)) "y" (.int ((if (O1 ^^^ O2) / 2 = 0 then hy d O1 n else 2 ^ d - 1 - hy d O1 n : Nat) : Int)) ?_ ?_
          · refine ex_if ?_
            (with_reducible refine' evt_of ?_ ?h_2064); (case h_2064 => with_unfolding_all rfl)
            with_reducible refine' ev_BinOp ?_
            (with_reducible refine' ev_name ?x_2066 ?p_2066 ?_ ?d_2066); (case x_2066 => rfl); (case p_2066 => rfl); (case d_2066 => decide)
            with_reducible refine' ev_int ?_
            with_reducible refine' op_and ?_
            with_reducible refine' opt_int ?_
            rw [and_two_bit _ ht4]
            by_cases ht : (O1 ^^^ O2) / 2 = 0
            · refine ite_f (by simp [ht]) ?_
              with_reducible refine ex_nil ?_
              rw [if_pos ht, if_pos ht]
              refine ⟨rfl, fun z pv h => upd_here rfl _ _ (sub_upd (upd_here rfl) _ _ h)⟩
            · refine ite_t (by simp [ht]) ?_
              with_reducible refine ex_cons ?_
              (with_reducible refine' ex_assign ?_ ?k_2088 ?l_2088 ?s_2088); (case k_2088 => rfl); (case l_2088 => rfl); (case s_2088 => rfl)
              with_reducible refine' ev_BinOp ?_
              (with_reducible refine' ev_name ?x_2090 ?p_2090 ?_ ?d_2090); (case x_2090 => rfl); (case p_2090 => rfl); (case d_2090 => decide)
              (with_reducible refine' ev_name ?x_2091 ?p_2091 ?_ ?d_2091); (case x_2091 => rfl); (case p_2091 => rfl); (case d_2091 => decide)
              with_reducible refine' op_sub ?_
              with_reducible refine seq_nxt ?_
              with_reducible refine ex_cons ?_
              (with_reducible refine' ex_assign ?_ ?k_2101 ?l_2101 ?s_2101); (case k_2101 => rfl); (case l_2101 => rfl); (case s_2101 => rfl)
              with_reducible refine' ev_BinOp ?_
              (with_reducible refine' ev_name ?x_2103 ?p_2103 ?_ ?d_2103); (case x_2103 => rfl); (case p_2103 => rfl); (case d_2103 => decide)
              (with_reducible refine' ev_name ?x_2104 ?p_2104 ?_ ?d_2104); (case x_2104 => rfl); (case p_2104 => rfl); (case d_2104 => decide)
              with_reducible refine' op_sub ?_
              with_reducible refine seq_nxt ?_
              with_reducible refine ex_nil ?_
              rw [if_neg ht, if_neg ht]
              refine ⟨rfl, ?_⟩
              rw [show ((2 ^ d - 1 - hx d O1 n : Nat) : Int) = ((2 ^ d : Nat) : Int) - 1 - (hx d O1 n : Int) by omega, show ((2 ^ d - 1 - hy d O1 n : Nat) : Int) = ((2 ^ d : Nat) : Int) - 1 - (hy d O1 n : Int) by omega]
              exact fun _ _ h => h
          with_reducible refine seq_nxt ?_
          with_reducible refine ex_cons ?_
          refine ex_if_set "image" (.tup [.int (hx d O2 n : Nat), .int (hy d O2 n : Nat)]) ?_ ?_
          · refine ex_if ?_
            (with_reducible refine' evt_of ?_ ?h_2133); (case h_2133 => with_unfolding_all rfl)
            with_reducible refine' ev_BinOp ?_
            (with_reducible refine' ev_name ?x_2135 ?p_2135 ?_ ?d_2135); (case x_2135 => rfl); (case p_2135 => rfl); (case d_2135 => decide)
            with_reducible refine' ev_int ?_
            with_reducible refine' op_and ?_
            with_reducible refine' opt_int ?_
            rw [and_one_bit _ ht4]
            by_cases ht : (O1 ^^^ O2) % 2 = 0
            · refine ite_f (by simp [ht]) ?_
              with_reducible refine ex_cons ?_
              (with_reducible refine' ex_assign ?_ ?k_2151 ?l_2151 ?s_2151); (case k_2151 => rfl); (case l_2151 => rfl); (case s_2151 => rfl)
              with_reducible refine' ev_Tuple ?_
              (with_reducible refine' evl_cons ?_ ?h_2154); (case h_2154 => with_unfolding_all rfl)
              (with_reducible refine' ev_name ?x_2155 ?p_2155 ?_ ?d_2155); (case x_2155 => rfl); (case p_2155 => rfl); (case d_2155 => decide)
              (with_reducible refine' evl_cons ?_ ?h_2157); (case h_2157 => with_unfolding_all rfl)
              (with_reducible refine' ev_name ?x_2158 ?p_2158 ?_ ?d_2158); (case x_2158 => rfl); (case p_2158 => rfl); (case d_2158 => decide)
              with_reducible refine' evl_nil ?_
              (with_reducible refine' And.intro ?a_2162 ?_); (case a_2162 => exact Nat.le_of_ble_eq_true rfl)
              with_reducible refine seq_nxt ?_
              with_reducible refine ex_nil ?_
              refine ⟨rfl, upd_eq ?_⟩
              rw [(sim_even hsim ht).1, (sim_even hsim ht).2]
            · refine ite_t (by simp [ht]) ?_
              with_reducible refine ex_cons ?_
              (with_reducible refine' ex_assign ?_ ?k_2177 ?l_2177 ?s_2177); (case k_2177 => rfl); (case l_2177 => rfl); (case s_2177 => rfl)
              with_reducible refine' ev_Tuple ?_
              (with_reducible refine' evl_cons ?_ ?h_2180); (case h_2180 => with_unfolding_all rfl)
              (with_reducible refine' ev_name ?x_2181 ?p_2181 ?_ ?d_2181); (case x_2181 => rfl); (case p_2181 => rfl); (case d_2181 => decide)
              (with_reducible refine' evl_cons ?_ ?h_2183); (case h_2183 => with_unfolding_all rfl)
              (with_reducible refine' ev_name ?x_2184 ?p_2184 ?_ ?d_2184); (case x_2184 => rfl); (case p_2184 => rfl); (case d_2184 => decide)
              with_reducible refine' evl_nil ?_
              (with_reducible refine' And.intro ?a_2188 ?_); (case a_2188 => exact Nat.le_of_ble_eq_true rfl)
              with_reducible refine seq_nxt ?_
              with_reducible refine ex_nil ?_
              refine ⟨rfl, upd_eq ?_⟩
              rw [(sim_odd hsim ht).1, (sim_odd hsim ht).2]
          with_reducible refine seq_nxt ?_
          with_reducible refine ex_cons ?_
          with_reducible refine' ex_if_no ?_ ?_
          (with_reducible refine' evt_Compare ?_ ?m_2205); (case m_2205 => with_unfolding_all rfl)
          with_reducible refine' ev_Tuple ?_
          (with_reducible refine' evl_cons ?_ ?h_2208); (case h_2208 => with_unfolding_all rfl)
          with_reducible refine' ev_BinOp ?_
          with_reducible refine' ev_BinOp ?_
          with_reducible refine' ev_Subscript ?_
          (with_reducible refine' ev_name ?x_2212 ?p_2212 ?_ ?d_2212); (case x_2212 => rfl); (case p_2212 => rfl); (case d_2212 => decide)
          with_reducible refine' ev_int ?_
          (with_reducible refine' op_item_tup ?a_2214 ?b_2214 ?j_2214 ?x_2214 ?_ ?s_2214); (case a_2214 => decide); (case b_2214 => decide); (case j_2214 => rfl); (case x_2214 => rfl); (case s_2214 => intros; with_unfolding_all rfl)
          with_reducible refine' ev_BinOp ?_
          with_reducible refine' ev_BinOp ?_
          with_reducible refine' ev_int ?_
          (with_reducible refine' ev_name ?x_2218 ?p_2218 ?_ ?d_2218); (case x_2218 => rfl); (case p_2218 => rfl); (case d_2218 => decide)
          with_reducible refine' op_sub ?_
          (with_reducible refine' ev_name ?x_2220 ?p_2220 ?_ ?d_2220); (case x_2220 => rfl); (case p_2220 => rfl); (case d_2220 => decide)
          with_reducible refine' op_sub ?_
          (with_reducible refine' op_shr ?n_2222 ?_); (case n_2222 => first | decide | omega)
          with_reducible refine' ev_Subscript ?_
          (with_reducible refine' ev_name ?x_2224 ?p_2224 ?_ ?d_2224); (case x_2224 => rfl); (case p_2224 => rfl); (case d_2224 => decide)
          with_reducible refine' ev_int ?_
          (with_reducible refine' op_item_tup ?a_2226 ?b_2226 ?j_2226 ?x_2226 ?_ ?s_2226); (case a_2226 => decide); (case b_2226 => decide); (case j_2226 => rfl); (case x_2226 => rfl); (case s_2226 => intros; with_unfolding_all rfl)
          with_reducible refine' op_sub ?_
          (with_reducible refine' evl_cons ?_ ?h_2229); (case h_2229 => with_unfolding_all rfl)
          with_reducible refine' ev_BinOp ?_
          with_reducible refine' ev_BinOp ?_
          with_reducible refine' ev_Subscript ?_
          (with_reducible refine' ev_name ?x_2233 ?p_2233 ?_ ?d_2233); (case x_2233 => rfl); (case p_2233 => rfl); (case d_2233 => decide)
          with_reducible refine' ev_int ?_
          (with_reducible refine' op_item_tup ?a_2235 ?b_2235 ?j_2235 ?x_2235 ?_ ?s_2235); (case a_2235 => decide); (case b_2235 => decide); (case j_2235 => rfl); (case x_2235 => rfl); (case s_2235 => intros; with_unfolding_all rfl)
          with_reducible refine' ev_BinOp ?_
          with_reducible refine' ev_BinOp ?_
          with_reducible refine' ev_int ?_
          (with_reducible refine' ev_name ?x_2239 ?p_2239 ?_ ?d_2239); (case x_2239 => rfl); (case p_2239 => rfl); (case d_2239 => decide)
          with_reducible refine' op_sub ?_
          (with_reducible refine' ev_name ?x_2241 ?p_2241 ?_ ?d_2241); (case x_2241 => rfl); (case p_2241 => rfl); (case d_2241 => decide)
          with_reducible refine' op_sub ?_
          (with_reducible refine' op_shr ?n_2243 ?_); (case n_2243 => first | decide | omega)
          with_reducible refine' ev_Subscript ?_
          (with_reducible refine' ev_name ?x_2245 ?p_2245 ?_ ?d_2245); (case x_2245 => rfl); (case p_2245 => rfl); (case d_2245 => decide)
          with_reducible refine' ev_int ?_
          (with_reducible refine' op_item_tup ?a_2247 ?b_2247 ?j_2247 ?x_2247 ?_ ?s_2247); (case a_2247 => decide); (case b_2247 => decide); (case j_2247 => rfl); (case x_2247 => rfl); (case s_2247 => intros; with_unfolding_all rfl)
          with_reducible refine' op_sub ?_
          with_reducible refine' evl_nil ?_
          (with_reducible refine' And.intro ?a_2252 ?_); (case a_2252 => exact Nat.le_of_ble_eq_true rfl)
          (with_reducible refine' ev_name ?x_2253 ?p_2253 ?_ ?d_2253); (case x_2253 => rfl); (case p_2253 => rfl); (case d_2253 => decide)
          rw [shr_sq (m := 30 - (U + d)) (by omega) mid_lt, shr_sq (m := 30 - (U + d)) (by omega) mid_lt, sub_sq, sub_sq]
          refine op_ne_same rfl (by (refine Cx.Room.le (by assumption) ?_; decide)) rfl rfl ?_
          with_reducible refine' opt_bool ?_
          with_reducible exact Eq.refl false
          with_reducible refine seq_nxt ?_
          with_reducible refine ex_cons ?_
          with_reducible refine' ex_if_no ?_ ?_
          with_reducible refine' evt_or ?_
          (with_reducible refine' evt_Compare ?_ ?m_2272); (case m_2272 => with_unfolding_all rfl)
          with_reducible refine' ev_Subscript ?_
          (with_reducible refine' ev_name ?x_2274 ?p_2274 ?_ ?d_2274); (case x_2274 => rfl); (case p_2274 => rfl); (case d_2274 => decide)
          with_reducible refine' ev_int ?_
          (with_reducible refine' op_item_tup ?a_2276 ?b_2276 ?j_2276 ?x_2276 ?_ ?s_2276); (case a_2276 => decide); (case b_2276 => decide); (case j_2276 => rfl); (case x_2276 => rfl); (case s_2276 => intros; with_unfolding_all rfl)
          with_reducible refine' ev_Subscript ?_
          (with_reducible refine' ev_name ?x_2278 ?p_2278 ?_ ?d_2278); (case x_2278 => rfl); (case p_2278 => rfl); (case d_2278 => decide)
          with_reducible refine' ev_int ?_
          (with_reducible refine' op_item_tup ?a_2280 ?b_2280 ?j_2280 ?x_2280 ?_ ?s_2280); (case a_2280 => decide); (case b_2280 => decide); (case j_2280 => rfl); (case x_2280 => rfl); (case s_2280 => intros; with_unfolding_all rfl)
          with_reducible refine' op_ne ?_
          with_reducible refine' opt_bool ?_
          with_reducible refine ite_f (bne_self_eq_false _) ?_
          with_reducible refine' evt_or ?_
          (with_reducible refine' evt_Compare ?_ ?m_2294); (case m_2294 => with_unfolding_all rfl)
          with_reducible refine' ev_Subscript ?_
          (with_reducible refine' ev_name ?x_2296 ?p_2296 ?_ ?d_2296); (case x_2296 => rfl); (case p_2296 => rfl); (case d_2296 => decide)
          with_reducible refine' ev_int ?_
          (with_reducible refine' op_item_tup ?a_2298 ?b_2298 ?j_2298 ?x_2298 ?_ ?s_2298); (case a_2298 => decide); (case b_2298 => decide); (case j_2298 => rfl); (case x_2298 => rfl); (case s_2298 => intros; with_unfolding_all rfl)
          with_reducible refine' ev_Subscript ?_
          (with_reducible refine' ev_name ?x_2300 ?p_2300 ?_ ?d_2300); (case x_2300 => rfl); (case p_2300 => rfl); (case d_2300 => decide)
          with_reducible refine' ev_int ?_
          (with_reducible refine' op_item_tup ?a_2302 ?b_2302 ?j_2302 ?x_2302 ?_ ?s_2302); (case a_2302 => decide); (case b_2302 => decide); (case j_2302 => rfl); (case x_2302 => rfl); (case s_2302 => intros; with_unfolding_all rfl)
          with_reducible refine' op_ne ?_
          with_reducible refine' opt_bool ?_
          with_reducible refine ite_f (bne_self_eq_false _) ?_
          with_reducible refine' evt_or ?_
          (with_reducible refine' evt_Compare ?_ ?m_2316); (case m_2316 => with_unfolding_all rfl)
          with_reducible refine' ev_Subscript ?_
          (with_reducible refine' ev_name ?x_2318 ?p_2318 ?_ ?d_2318); (case x_2318 => rfl); (case p_2318 => rfl); (case d_2318 => decide)
          with_reducible refine' ev_int ?_
          (with_reducible refine' op_item_tup ?a_2320 ?b_2320 ?j_2320 ?x_2320 ?_ ?s_2320); (case a_2320 => decide); (case b_2320 => decide); (case j_2320 => rfl); (case x_2320 => rfl); (case s_2320 => intros; with_unfolding_all rfl)
          with_reducible refine' ev_BinOp ?_
          with_reducible refine' ev_Subscript ?_
          (with_reducible refine' ev_name ?x_2323 ?p_2323 ?_ ?d_2323); (case x_2323 => rfl); (case p_2323 => rfl); (case d_2323 => decide)
          with_reducible refine' ev_int ?_
          (with_reducible refine' op_item_tup ?a_2325 ?b_2325 ?j_2325 ?x_2325 ?_ ?s_2325); (case a_2325 => decide); (case b_2325 => decide); (case j_2325 => rfl); (case x_2325 => rfl); (case s_2325 => intros; with_unfolding_all rfl)
          (with_reducible refine' ev_name ?x_2326 ?p_2326 ?_ ?d_2326); (case x_2326 => rfl); (case p_2326 => rfl); (case d_2326 => decide)
          with_reducible refine' op_xor ?_
          with_reducible refine' op_ne ?_
          with_reducible refine' opt_bool ?_
          rw [hsimo, xor_nat]
          with_reducible refine ite_f (bne_self_eq_false _) ?_
          with_reducible refine' evt_or_nil ?_
          with_reducible exact Eq.refl false
          with_reducible refine seq_nxt ?_
          with_reducible refine ex_nil ?_
          with_reducible refine for_nxt ?_
          exact ⟨rfl, rfl, rfl, rfl, rfl, rfl, rfl, rfl, rfl, rfl, rfl, rfl, rfl, rfl, rfl, trivial⟩
        · intro k x σ hxe hS
          have hk : k < d := by
            have := (List.getElem?_eq_some_iff.mp hxe).1
            simpa [rngItems] using this
          rw [rngItems, List.getElem?_map, List.getElem?_range hk] at hxe
          cases hxe
          simp only [Nat.zero_add] at hS ⊢
          rw [show (0 : Int) + ((k : Nat) : Int) * 1 = (k : Int) by omega]
          refine ex_sub (sub_upd hS.get) ?_
          with_reducible refine ex_cons ?_
          (with_reducible refine' ex_assign ?_ ?k_2354 ?l_2354 ?s_2354); (case k_2354 => rfl); (case l_2354 => rfl); (case s_2354 => rfl)
          (with_reducible refine' ev_Method (pl := _) ?_ ?h_2355); (case h_2355 => with_unfolding_all rfl)
          (with_reducible refine' ev_name ?x_2356 ?p_2356 ?_ ?d_2356); (case x_2356 => rfl); (case p_2356 => rfl); (case d_2356 => decide)
          (with_reducible refine' mth_cell m_child ?_ ?h_2358 ?p_2358); (case h_2358 => with_unfolding_all rfl); (case p_2358 => with_unfolding_all rfl)
          (with_reducible refine' evl_cons ?_ ?h_2360); (case h_2360 => with_unfolding_all rfl)
          with_reducible refine' ev_BinOp ?_
          with_reducible refine' ev_BinOp ?_
          (with_reducible refine' ev_name ?x_2363 ?p_2363 ?_ ?d_2363); (case x_2363 => rfl); (case p_2363 => rfl); (case d_2363 => decide)
          with_reducible refine' ev_BinOp ?_
          with_reducible refine' ev_int ?_
          with_reducible refine' ev_BinOp ?_
          with_reducible refine' ev_BinOp ?_
          (with_reducible refine' ev_name ?x_2368 ?p_2368 ?_ ?d_2368); (case x_2368 => rfl); (case p_2368 => rfl); (case d_2368 => decide)
          with_reducible refine' ev_int ?_
          with_reducible refine' op_sub ?_
          (with_reducible refine' ev_name ?x_2371 ?p_2371 ?_ ?d_2371); (case x_2371 => rfl); (case p_2371 => rfl); (case d_2371 => decide)
          with_reducible refine' op_sub ?_
          (with_reducible refine' op_mul ?m_2373 ?_); (case m_2373 => first | exact mul_ok_l (by decide) | exact mul_ok_r (by decide))
          (with_reducible refine' op_shr ?n_2374 ?_); (case n_2374 => first | decide | omega)
          with_reducible refine' ev_int ?_
          with_reducible refine' op_and ?_
          with_reducible refine' evl_nil ?_
          rw [digit_int hk]
          refine cl_child (by (refine Cx.Room.le (by assumption) ?_; decide)) (by omega) (twin_lt hq (part_lt hn (by omega))) (by rw [twin_next hk]; exact twin_lt hq (part_lt hn (by omega))) ?_
          rw [twin_next hk]
          with_reducible refine seq_nxt ?_
          with_reducible refine ex_nil ?_
          with_reducible refine for_nxt ?_
          exact ⟨rfl, rfl, rfl, rfl, rfl, rfl, rfl, rfl, rfl, rfl, rfl, rfl, rfl, rfl, rfl, rfl, rfl, rfl, rfl, trivial⟩
        · refine ⟨?_, rfl, rfl, rfl, rfl, rfl, rfl, rfl, rfl, rfl, rfl, rfl, rfl, rfl, rfl, rfl, rfl, rfl, rfl, trivial⟩
          rw [Nat.sub_zero, Nat.div_eq_of_lt hn, Nat.pow_zero, Nat.mul_one]
          rfl
  · intro h' tk' m' F'
    exact goodW_bool F' (by assumption) (raisesW_false (by wrow_none_raised)) (by wrow_post))

end Mine
end Part21
theorem PySem.Challenge.cw_eg5039_02_holds : PySem.Challenge.rw_eg5039_02.Holds := by
  exact Mine.law02
